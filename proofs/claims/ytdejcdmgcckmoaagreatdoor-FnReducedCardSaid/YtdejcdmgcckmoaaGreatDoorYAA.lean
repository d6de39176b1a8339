/- The reference: its states. -/
import Derived.Test.YtdejcdmgcckmoaaGreatDoorYZ
import Derived.Test.YtdejcdmgcckmoaaGreatDoorYU
import Derived.Test.YtdejcdmgcckmoaaGreatDoorYT
namespace Go.Proofs.YtdejcdmgcckmoaaGreatDoor
open Go.RowKit Go.Sort Lr

theorem shfL_take {g : Gram} {X : Str} {l : List Itm} {k : Nat} (hk : k < l.length) : shfL g X (l.take (k + 1)) = shfL g X (l.take k) ++ (if (l[k].rest g)[0]? = some X then [⟨l[k].prod, l[k].dot + 1, l[k].look⟩] else []) := by
  unfold shfL
  rw [List.take_succ_eq_append_getElem hk, List.filter_append, List.map_append]
  congr 1
  by_cases h : (l[k].rest g)[0]? = some X <;> simp [h]
theorem shfL_len {g : Gram} {X : Str} (l : List Itm) : (shfL g X l).length ≤ l.length := by
  unfold shfL
  rw [List.length_map]
  exact List.length_filter_le _ _
theorem next_is {g : Gram} {i : Itm} {X : Str} (hX : X ≠ []) : (nextS g i = X) ↔ (i.rest g)[0]? = some X := by
  unfold nextS
  cases h : (i.rest g)[0]? with
  | none => simp; exact fun e => hX e
  | some Y => simp
set_option maxRecDepth 20000 in
set_option maxHeartbeats 1000000 in
theorem gone_any {g : Gram} (hg : GOk g) {γ : List Str} {l : List Itm} (hn : l.Nodup) (hmem : ∀ j, j ∈ l ↔ Vld g γ j) (v vl : Value) (w : World) (h : GramAt w v g) (hl : ItmsAt w vl l) (X : Str) (hX : X ≠ []) :
    Calls Tryz.prog 68 #[v, vl, sv X] w fun e w' => ∃ v' L, e = .returned v' ∧ Own3 itm3 101 w' w.heap.size v' L ∧ ClosedL g (γ ++ [X]) L ∧ New w w' := by
  have hm := hg.toSm
  have hll : l.length ≤ 3185 := items_le hm.len hm.body hn fun i hi => (hmem i).1 hi
  have HB := Lib.hid (base_shf hn hmem X)
  have HM := Lib.hid hmem
  have HH := Lib.hid (And.intro h hl)
  obtain ⟨a, cap, rfl⟩ := h.slice
  obtain ⟨al, cl, rfl⟩ := hl.slice
  have hX2 := @next_is g
  have HX := Lib.hid (fun i : Itm => hX2 (i := i) hX)
  have hlen0 : 0 < X.length := List.length_pos_iff.2 hX
  clear h hl hn hmem hX2 hX
  go_enter Tryz.func68, Tryz.ntmps68
  go_wp2
  go_loopg [7, 13] l.length (fun gk u7 u13 wr => ∃ k : Nat, k ≤ l.length ∧ gk = l.length - k ∧ u13 = .int .i64 k ∧ Own3 itm3 101 wr w.heap.size u7 (shfL g X (l.take k)) ∧ New w wr)
  case atStart => exact ⟨0, Nat.zero_le _, rfl, rfl, World.ownsRow_made w #[] 0 (Nat.le_refl _) (Nat.zero_le _) rfl, (New.refl w).alloc _⟩
  case round =>
    obtain ⟨k, hk, rfl, rfl, hO, hn⟩ := hrel
    by_cases hlt : k < l.length
    · obtain ⟨b, o, i, e, hi, h1, h2, h3⟩ := (HH.out.2.new hn).elemX hlt
      cases e
      simp only [itm3] at h1 h2 h3
      have hli : l[k] = i := (List.getElem?_eq_some_iff.1 hi).2
      have hv : Vld g γ i := (HM.out i).1 (List.mem_of_getElem? hi)
      have hq := Lib.hid (fun W (hW : New wr W) => next_any (HH.out.1.new (hn.trans hW)) hm (prdOk_vld hv))
      have hT := shfL_take (g := g) (X := X) hlt
      rw [hli] at hT
      have hlS : (shfL g X (l.take k)).length ≤ 3185 := Nat.le_trans (shfL_len _) (by rw [List.length_take]; omega)
      have hdl : i.dot ≤ 4 := Nat.le_trans hv.rest_le (body_len hm i.prod)
      have kw : IntKind.i64.wrap ((i.dot : Int) + 1) = (i.dot : Int) + 1 := by rw [IntKind.wrap_i64]; omega
      have hsz := hn.size
      have HO := Lib.hid (And.intro hO hn)
      obtain ⟨aO, cO, eO⟩ := owns_slice hO
      subst eO
      have hxi := HX.out i
      clear hO hn hi hli hv
      by_cases hx : nextS g i = X
      · rw [if_pos (hxi.1 hx)] at hT
        have HT := Lib.hid hT
        have hx2 : (nextS g i == X) = true := by rw [hx]; simp
        clear hT hxi hx
        have hlt4 : ∀ b, (Value.slice aO (shfL g X (l.take k)).length cO).ownBlock = some b → b < wr.heap.size := fun b e => (HO.out.1.lt b e).2
        have HL4 := Lib.hid hlt4
        clear hlt4
        go_wp2_with (first
          | (go_at_call 88; refine (hq.out _ ((New.refl wr).alloc _)).mono ?_; rintro e w4 ⟨rfl, hn4⟩; have hb4 : w4.heap[wr.heap.size]? = some (.cells #[.int .i64 (prodI i.prod), .int .i64 (i.dot : Int), sv i.look] 101 (0, 0)) := hn4.heap (heap_alloc_new wr _); have c0 : w4.cell? ⟨wr.heap.size, 0, none⟩ = some (.int .i64 (prodI i.prod)) := (cell_of_blk hb4 0).trans rfl; have c1 : w4.cell? ⟨wr.heap.size, 1, none⟩ = some (.int .i64 (i.dot : Int)) := (cell_of_blk hb4 1).trans rfl; have c2 : w4.cell? ⟨wr.heap.size, 2, none⟩ = some (sv i.look) := (cell_of_blk hb4 2).trans rfl; have f1 := free_of_blk hb4 1; have hn14 : New wr w4 := ((New.refl wr).alloc _).trans hn4; have hO4 := Lib.hid (fun u => ownsRow_setCell_other (ownsRow_new HO.out.1 hn14) (a := ⟨wr.heap.size, 1, none⟩) (show (Value.slice aO (shfL g X (l.take k)).length cO).ownBlock ≠ some wr.heap.size from fun e => Nat.lt_irrefl _ (HL4.out _ e)) u); clear hn4)
          | (at_builtin; go_must (refine wpList_push _ rfl _ _ _ _ rfl T53 w.heap.size (.slice aO (shfL g X (l.take k)).length cO) (shfL g X (l.take k)).length ((shfL g X (l.take k)).flatMap (enc3 itm3)) rfl (hO4.out _) [_, _, _] rfl rfl _ _ rfl (by first | rfl | simp) (by omega) (by omega) (by have := hn14.size; simp; omega) ?_)))
        intro v' w5 hown5 hgrow hne hat
        have hown2 : Own3 itm3 101 w5 w.heap.size v' (shfL g X (l.take k) ++ [(⟨i.prod, i.dot + 1, i.look⟩ : Itm)]) := Own3.push (e := itm3) (x := (⟨i.prod, i.dot + 1, i.look⟩ : Itm)) hown5
        have hnS : New w (w4.setCell ⟨wr.heap.size, 1, none⟩ (.int .i64 ((i.dot : Int) + 1))) := (HO.out.2.trans hn14).setCell hsz _
        have hn5 : New w w5 := Below.push hnS (hO4.out _) hgrow hnS.size
        rw [← HT.out] at hown2
        have HZ := Lib.hid (And.intro hown2 hn5)
        obtain ⟨av, cv, rfl⟩ := owns_slice hown5
        clear hown2 hnS hn5 hgrow hne hat hown5 c0 c1 c2 f1 hb4
        go_wp2
        go_roundg (l.length - (k + 1))
        case measure => omega
        case rel => exact ⟨k + 1, by omega, rfl, by go_num, HZ.out⟩
      · rw [if_neg (fun e => hx (hxi.2 e)), List.append_nil] at hT
        have HT := Lib.hid hT
        have hx2 : (nextS g i == X) = false := by rw [beq_eq_false_iff_ne]; exact hx
        clear hT hxi hx
        go_wp2_with (go_at_call 88; refine (hq.out _ ((New.refl wr).alloc _)).mono ?_; rintro e w4 ⟨rfl, hn4⟩)
        have hn14 : New wr w4 := ((New.refl wr).alloc _).trans hn4
        go_roundg (l.length - (k + 1))
        case measure => omega
        case rel => exact ⟨k + 1, by omega, rfl, by go_num, by rw [HT.out]; exact ownsRow_new HO.out.1 hn14, HO.out.2.trans hn14⟩
    · have e : l.take k = l := List.take_of_length_le (by omega)
      rw [e] at hO
      have hq := Lib.hid (closed_any hg HB.out _ _ wr (HH.out.1.new hn) (Row3.of_owns hO))
      have hsz := hn.size
      have HN := Lib.hid hn
      clear hO hn e
      go_wp2_with fail
      refine hq.out.mono ?_
      rintro e w4 ⟨v', L, rfl, hO, hC, hn4⟩
      obtain ⟨a4, c4, rfl⟩ := owns_slice hO
      have HF := Lib.hid (And.intro (ownsRow_mono hO hsz) (And.intro hC (HN.out.trans hn4)))
      clear hO hC hn4 hq
      go_wp2
      go_ret
      exact ⟨_, L, rfl, HF.out⟩
end Go.Proofs.YtdejcdmgcckmoaaGreatDoor
namespace Go.Proofs.YtdejcdmgcckmoaaGreatDoor
open Go.RowKit Go.Sort Lr

/-- `func(l []impl.Item) bool { return slices.Equal(l, x) }` -/
theorem clos70 {w : World} {v vx : Value} {L X : List Itm} (h : ItmsAt w v L) (hx : ItmsAt w vx X) (hl : L.length ≤ 1000000) {pb : Nat} (hp : w.cell? ⟨pb, 0, none⟩ = some vx) :
    Calls Tryz.prog 70 #[v, .pointer (some ⟨pb, 0, none⟩)] w fun e w' => e = .returned (.bool (decide (L = X))) ∧ New w w' := by
  have hq := Lib.hid (Equal_itm h hx hl)
  obtain ⟨a, c, rfl⟩ := h.slice
  obtain ⟨a', c', rfl⟩ := hx.slice
  clear h hx
  go_enter Tryz.func70, Tryz.ntmps70
  go_wp2_with (go_at_call 71; refine hq.out.mono ?_; rintro e w' ⟨rfl, hn⟩)
  go_ret
  exact ⟨rfl, hn⟩
set_option maxRecDepth 20000 in
set_option maxHeartbeats 1000000 in
theorem IndexSt_any {w : World} {v vx : Value} {St : List (List Itm)} {X : List Itm} (h : Mat3 itm3 w v St) (hx : ItmsAt w vx X) (hl : ∀ l ∈ St, l.length ≤ 1000000) (hn : St.length ≤ 1000000) {pb : Nat} (hp : w.cell? ⟨pb, 0, none⟩ = some vx) :
    Calls Tryz.prog 69 #[v, .func (.func 70) #[] #[.pointer (some ⟨pb, 0, none⟩)]] w fun e w' => ∃ r : Int, e = .returned (.int .i64 r) ∧ ((r = -1 ∧ X ∉ St) ∨ ∃ k : Nat, r = k ∧ St[k]? = some X) ∧ New w w' := by
  obtain ⟨a, cap, rfl⟩ := h.slice
  have HC := Lib.hid (And.intro h (And.intro hx (And.intro hl hp)))
  clear h hx hl hp
  go_enter Tryz.func69, Tryz.ntmps69
  go_wp2
  go_loopg [8] St.length (fun gk u8 wr => ∃ k : Nat, k ≤ St.length ∧ gk = St.length - k ∧ u8 = .int .i64 k ∧ Hid (∀ j, j < k → St[j]? ≠ some X) ∧ New w wr)
  case atStart => exact ⟨0, Nat.zero_le _, rfl, rfl, Lib.hid (fun j hj => by omega), New.refl _⟩
  case round =>
    obtain ⟨k, hk, rfl, rfl, hne, hn'⟩ := hrel
    by_cases hlt : k < St.length
    · obtain ⟨b, o, a', c', e, h1, h2⟩ := (HC.out.1.new hn').elem hlt
      cases e
      have hq := Lib.hid (clos70 h2 (HC.out.2.1.new hn') (HC.out.2.2.1 _ (List.getElem_mem hlt)) (hn'.cell HC.out.2.2.2))
      have HN := Lib.hid hn'
      have hg : St[k]? = some St[k] := List.getElem?_eq_getElem hlt
      have HG := Lib.hid hg
      clear h2 hn' hg
      by_cases hx : St[k] = X
      · have hq2 := hq.out
        rw [decide_eq_true hx] at hq2
        have hQ := Lib.hid hq2
        have HX := Lib.hid hx
        clear hx hq2 hq
        go_wp2_with (go_at_call 70; refine hQ.out.mono ?_; rintro e w4 ⟨rfl, hn4⟩)
        go_ret
        exact ⟨k, rfl, .inr ⟨k, rfl, by rw [HG.out, HX.out]⟩, HN.out.trans hn4⟩
      · have hq2 := hq.out
        rw [decide_eq_false hx] at hq2
        have hQ := Lib.hid hq2
        have HX := Lib.hid hx
        clear hx hq2 hq
        go_wp2_with (go_at_call 70; refine hQ.out.mono ?_; rintro e w4 ⟨rfl, hn4⟩)
        go_roundg (St.length - (k + 1))
        case measure => omega
        case rel =>
          refine ⟨k + 1, by omega, rfl, by go_num, Lib.hid fun j hj => ?_, HN.out.trans hn4⟩
          by_cases e : j = k
          · subst e; rw [HG.out]; intro e2; exact HX.out (Option.some.inj e2)
          · exact hne.out j (by omega)
    · go_wp2
      go_ret
      refine ⟨-1, rfl, .inl ⟨rfl, fun h => ?_⟩, hn'⟩
      obtain ⟨j, hj⟩ := List.getElem?_of_mem h
      exact hne.out j (by have := (List.getElem?_eq_some_iff.1 hj).1; omega) hj
end Go.Proofs.YtdejcdmgcckmoaaGreatDoor
namespace Go.Proofs.YtdejcdmgcckmoaaGreatDoor
open Go.RowKit Go.Sort Lr

/-- The symbols that the reference goes through. -/
def symsS (g : Gram) : List Str := sortS (terminalsF g ++ headsF g)
theorem addT_nodup {l : List Str} (h : l.Nodup) (s : Str) : (addT l s).Nodup := by
  unfold addT
  split
  · rename_i hc
    rw [List.nodup_append]
    refine ⟨h, by simp, ?_⟩
    intro a ha b hb e
    simp at hb
    subst hb; subst e
    simp at hc
    have := hc.2
    first
      | exact absurd (has_iff.2 ha) (by rw [this]; simp)
      | exact absurd ha (has_false.1 this)
      | exact absurd ha this
  · exact h
theorem addT_sub {l : List Str} (s : Str) {x : Str} (hx : x ∈ l) : x ∈ addT l s := by
  unfold addT; split
  · exact List.mem_append.2 (.inl hx)
  · exact hx
theorem addT_self {l : List Str} {s : Str} (h : greatB s = false) : s ∈ addT l s := by
  unfold addT
  split
  · simp
  · rename_i hc
    cases hh : has l s with
    | true => exact has_iff.1 hh
    | false => simp [h, hh] at hc
theorem foldT_nodup : ∀ (b : List Str) {l : List Str}, l.Nodup → (b.foldl addT l).Nodup
  | [], _, h => h
  | s :: b, _, h => foldT_nodup b (addT_nodup h s)
theorem foldT_sub : ∀ (b : List Str) {l : List Str} {x : Str}, x ∈ l → x ∈ b.foldl addT l
  | [], _, _, h => h
  | s :: b, _, _, h => foldT_sub b (addT_sub s h)
theorem foldT_self : ∀ (b : List Str) {l : List Str} {x : Str}, x ∈ b → greatB x = false → x ∈ b.foldl addT l
  | s :: b, l, x, h, hg => by
    rcases List.mem_cons.1 h with rfl | h
    · exact foldT_sub b (addT_self hg)
    · exact foldT_self b h hg
theorem termsF_nodup (g : Gram) : (terminalsF g).Nodup := by
  have : ∀ (g : Gram) (l : List Str), l.Nodup → (g.foldl (fun out p => p.2.foldl addT out) l).Nodup := by
    intro g
    induction g with
    | nil => intro l h; exact h
    | cons p g ih => intro l h; exact ih _ (foldT_nodup p.2 h)
  exact this g [] List.nodup_nil
theorem termsF_sub {p : Prd} : ∀ {g : Gram} {l : List Str} {x : Str}, (x ∈ l ∨ (∃ p ∈ g, x ∈ p.2 ∧ greatB x = false)) → x ∈ g.foldl (fun out p => p.2.foldl addT out) l
  | [], l, x, h => by
    rcases h with h | ⟨p, hp, _⟩
    · exact h
    · cases hp
  | q :: g, l, x, h => by
    refine termsF_sub (p := p) (g := g) ?_
    rcases h with h | ⟨r, hr, h1, h2⟩
    · exact .inl (foldT_sub q.2 h)
    · rcases List.mem_cons.1 hr with rfl | hr
      · exact .inl (foldT_self r.2 h1 h2)
      · exact .inr ⟨r, hr, h1, h2⟩
theorem start_head {g : Gram} (h0 : 0 < g.length) : isHead g (Lr.start g) = true := by
  cases g with
  | nil => simp at h0
  | cons p g => exact isHead_iff.2 ⟨p.2, List.mem_cons_self ..⟩
theorem symsS_all {g : Gram} (hm : Sm g) {X : Str} (h : SymIn g X) : X ∈ symsS g := by
  unfold symsS
  rw [sortS_mem, List.mem_append]
  rcases h with rfl | ⟨p, hp, h⟩
  · exact .inr (headsF_mem.2 (start_head hm.pos))
  · cases hg : greatB X with
    | true => exact .inr (headsF_mem.2 (hm.great p hp X h hg))
    | false => exact .inl (termsF_sub (p := p) (.inr ⟨p, hp, h, hg⟩))
theorem symsS_sym {g : Gram} (hm : Sm g) {X : Str} (h : X ∈ symsS g) : X ≠ [] ∧ X.length ≤ 4 := by
  unfold symsS at h
  rw [sortS_mem, List.mem_append] at h
  have hs : symbolOkB X = true := by
    rcases h with h | h
    · obtain ⟨p, hp, h1, _⟩ := mem_terminalsF h
      exact hm.sym p hp X h1
    · obtain ⟨b, hb⟩ := isHead_iff.1 (headsF_mem.1 h)
      exact (hm.head _ hb).1
  exact ⟨fun e => by rw [e] at hs; exact absurd hs (by decide), symbolOk_le hs⟩
theorem symsS_nodup {g : Gram} (hm : Sm g) : (symsS g).Nodup := by
  refine sortS_nodup ?_
  rw [List.nodup_append]
  refine ⟨termsF_nodup g, headsF_nodup g, ?_⟩
  intro a ha b hb e
  subst e
  obtain ⟨_, _, _, h1⟩ := mem_terminalsF ha
  obtain ⟨c, hc⟩ := isHead_iff.1 (headsF_mem.1 hb)
  rw [(hm.head _ hc).2] at h1; cases h1
theorem symsS_len {g : Gram} (hm : Sm g) : (symsS g).length ≤ 60 := by
  unfold symsS
  rw [(sortS_perm _).length_eq, List.length_append]
  have h1 := terminals_len hm.body
  have h2 := headsF_len g
  have := hm.len
  omega

/-- A row of rows is longer by one. -/
theorem Mat3G.push {α : Type} {e : α → Value × Value × Value} {t rt : TypeId} (htr : t ≠ rt) {w w' : World} {B : Nat} {v v' u : Value} {vs : List Value} {Ls : List (List α)} {L : List α}
    (h : w.ownsRow B rt 1 v Ls.length vs ∧ vs.length = Ls.length ∧ ∀ (k : Nat) (u : Value) (L : List α), vs[k]? = some u → Ls[k]? = some L → Own3 e t w B u L) (hu : Own3 e t w B u L)
    (hv : w'.ownsRow B rt 1 v' (Ls.length + 1) (vs ++ [u])) (hg : w.grownBy w' v.ownBlock) : Mat3G e t rt w' B v' (Ls ++ [L]) := by
  obtain ⟨h1, h2, h3⟩ := h
  refine ⟨vs ++ [u], by rw [List.length_append]; exact hv, by simp [h2], fun k x M hx hM => ?_⟩
  rcases getElem?_snoc hx with hx | ⟨rfl, rfl⟩
  · have hjl := (List.getElem?_eq_some_iff.1 hx).1
    rw [List.getElem?_append_left (by omega)] at hM
    have := h3 k x M hx hM
    exact World.ownsRow.kept this hg (ownBlock_ne_row this h1 htr)
  · rw [h2, List.getElem?_append_right (Nat.le_refl _), Nat.sub_self] at hM
    cases hM
    exact World.ownsRow.kept hu hg (ownBlock_ne_row hu h1 htr)
/-- Another row has grown. -/
theorem Mat3G.kept {α : Type} {e : α → Value × Value × Value} {t rt q : TypeId} (h1q : t ≠ q) (h2q : rt ≠ q) {w w' : World} {B B' sz n : Nat} {v u : Value} {xs : List Value} {Ls : List (List α)} (h : Mat3G e t rt w B v Ls) (hu : w.ownsRow B' q sz u n xs) (hg : w.grownBy w' u.ownBlock) : Mat3G e t rt w' B v Ls := by
  obtain ⟨vs, h1, h2, h3⟩ := h
  exact ⟨vs, World.ownsRow.kept h1 hg (ownBlock_ne_row h1 hu h2q), h2, fun k x M hx hM => World.ownsRow.kept (h3 k x M hx hM) hg (ownBlock_ne_row (h3 k x M hx hM) hu h1q)⟩
end Go.Proofs.YtdejcdmgcckmoaaGreatDoor
namespace Go.Proofs.YtdejcdmgcckmoaaGreatDoor
open Go.RowKit Go.Sort Lr

theorem T24x : SliceTy Tryz.prog 24 9 1 16 (.string ByteArray.empty) := T24
theorem closed_row {g : Gram} {γ : List Str} {L : List Itm} (h : ClosedL g γ L) : L.Nodup ∧ (∀ x, x ∈ L ↔ Vld g γ x) ∧ L.Pairwise fun x y => cmpItm x y < 0 := ⟨h.nodup, h.mem, h.ord⟩
theorem closed_live {g : Gram} {γ : List Str} {L : List Itm} (h : ClosedL g γ L) : Live g γ ↔ L ≠ [] := by
  constructor
  · rintro ⟨i, hi⟩ e
    rw [e] at h
    have := (h.mem i).2 hi
    cases this
  · intro hne
    cases L with
    | nil => exact absurd rfl hne
    | cons x L => exact ⟨x, (h.mem x).1 (List.mem_cons_self ..)⟩
/-- The state is there. -/
theorem refS_hit {g : Gram} {Γ : List (List Str)} {i : Nat} {D : List Str} {St : List (List Itm)} {E : List Edg} (h : RefS g Γ i D St E) {γ : List Str} (hγ : Γ[i]? = some γ) {X : Str} {L : List Itm} (hL : ClosedL g (γ ++ [X]) L) (hne : L ≠ []) {k : Nat} (hk : St[k]? = some L) : EdgeC g Γ i X k := by
  have hkl : k < Γ.length := by rw [← h.len]; exact (List.getElem?_eq_some_iff.1 hk).1
  have hg : Γ[k]? = some Γ[k] := List.getElem?_eq_getElem hkl
  obtain ⟨_, h2, h3⟩ := h.items k _ L hg hk
  exact ⟨γ, Γ[k], hγ, hg, (closed_live hL).2 hne, (RefS.same h2 hL.mem h3 hL.ord).1 rfl⟩
/-- The state is new. -/
theorem refS_miss {g : Gram} {Γ : List (List Str)} {i : Nat} {D : List Str} {St : List (List Itm)} {E : List Edg} (h : RefS g Γ i D St E) {γ : List Str} (hγ : Γ[i]? = some γ) {X : Str} {L : List Itm} (hL : ClosedL g (γ ++ [X]) L) (hne : L ≠ []) (hk : L ∉ St) (hX : X ∉ D) :
    RefS g (Γ ++ [γ ++ [X]]) i (D ++ [X]) (St ++ [L]) (E ++ [(i, X, St.length)]) := by
  have hlive := (closed_live hL).2 hne
  have hno : ¬ ∃ γ' ∈ Γ, Same g γ' (γ ++ [X]) := by
    rintro ⟨γ', h1, h2⟩
    obtain ⟨k, hk'⟩ := List.getElem?_of_mem h1
    have hkl : k < St.length := by rw [h.len]; exact (List.getElem?_eq_some_iff.1 hk').1
    have hs : St[k]? = some St[k] := List.getElem?_eq_getElem hkl
    obtain ⟨_, h3, h4⟩ := h.items k γ' _ hk' hs
    have := (RefS.same h3 hL.mem h4 hL.ord).2 h2
    rw [← this] at hk
    exact hk (List.getElem_mem hkl)
  have hG : GamOk g (Γ ++ [γ ++ [X]]) := by
    have := h.gam.step (List.mem_of_getElem? hγ) X
    rwa [step_new hlive hno] at this
  have hi := (List.getElem?_eq_some_iff.1 hγ).1
  have h2 := h.grow hG (closed_row hL) hi
  refine h2.old hX ⟨γ, γ ++ [X], by rw [List.getElem?_append_left hi]; exact hγ, ?_, hlive, Same.refl _⟩
  rw [h.len, List.getElem?_append_right (Nat.le_refl _), Nat.sub_self]; rfl

set_option maxRecDepth 20000 in
set_option maxHeartbeats 1000000 in
theorem RefStates_any {g : Gram} (hg : GOk g) (v : Value) (w : World) (h : GramAt w v g) :
    Calls Tryz.prog 23 #[v] w fun e w' => ∃ vL vE b, e = .returned (.tuple #[vL, vE, .bool b]) ∧ New w w' ∧ (b = false → ¬ Few g 120) ∧ (b = true → ∃ Γ a E, Lr.Told g Γ a E ∧ MatI w' vL a ∧ EdgsAt w' vE E ∧ (∀ l ∈ a, l.Pairwise fun x y => cmpItm x y < 0) ∧ Few g 120 ∧ E.length ≤ 13000) := by
  have hm := hg.toSm
  have HH := Lib.hid h
  obtain ⟨a, cap, rfl⟩ := h.slice
  clear h
  go_enter Tryz.func23, Tryz.ntmps23
  go_wp2_with fail
  refine (Terminals_any _ g w HH.out hm).mono ?_
  rintro e w1 ⟨vT, rfl, hoT, hn1⟩
  have hq := Lib.hid (Heads_any _ g w1 (HH.out.new hn1) (by have := hm.len; omega))
  have H1 := Lib.hid (And.intro hoT hn1)
  obtain ⟨aT, cT, rfl⟩ := owns_slice hoT
  clear hoT hn1
  go_wp2_with fail
  refine hq.out.mono ?_
  rintro e w2 ⟨vH, rfl, hoH, hn2⟩
  have hhl : 0 < (headsF g).length := List.length_pos_of_mem (headsF_mem.2 (start_head hm.pos))
  have htl := terminals_len hm.body
  have hhl2 := headsF_len g
  have hgl := hm.len
  obtain ⟨hb, hcp, e, hblt, _, hcells⟩ := row_ptr hoH hhl
  cases e
  have hoT2 := Lib.hid (ownsRow_new H1.out.1 hn2)
  have hnews := Lib.hid (show ∀ j u, ((headsF g).map sv)[j]? = some u → w2.cell? ((⟨hb, 0, none⟩ : Addr).add j) = some u from fun j u hu => by rw [addr_add0, Nat.zero_add]; exact hcells j u hu)
  have hsz1 := H1.out.2.size
  have hsz2 := hn2.size
  have HN2 := Lib.hid (H1.out.2.trans hn2)
  clear hoH hcells hn2 hq
  go_wp2_with (at_builtin; refine wpList_extend _ rfl _ _ _ _ rfl T24 w.heap.size _ _ _ rfl hoT2.out ⟨hb, 0, none⟩ (headsF g).length hcp ((headsF g).map sv) rfl (by simp) hnews.out (by intro u hu; simp at hu; obtain ⟨s, _, rfl⟩ := hu; rfl) (by omega) (by omega) (by omega) ?_)
  intro v5 w3 hown3 hg3
  have hS3 : Strs w3 w.heap.size v5 (terminalsF g ++ headsF g) := by
    unfold Strs; rw [List.length_append, List.map_append]; exact hown3
  have hn3 : New w w3 := Below.push HN2.out hoT2.out hg3 HN2.out.size
  have hq := Lib.hid (Sort_strs hS3 (by rw [List.length_append]; omega) (by rw [List.length_append]; omega))
  have H3 := Lib.hid (And.intro hS3 hn3)
  obtain ⟨a5, c5, rfl⟩ := owns_slice hown3
  clear hown3 hg3 hS3 hn3 hnews hoT2
  go_wp2_with fail
  refine hq.out.mono ?_
  rintro e w4 ⟨rfl, hS4, hg4⟩
  have hn4 : New w w4 := Below.push H3.out.2 H3.out.1 hg4 H3.out.2.size
  have hlen5 : (terminalsF g).length + (headsF g).length = (symsS g).length := by unfold symsS; rw [(sortS_perm _).length_eq, List.length_append]
  have hS4' : Strs w4 w.heap.size (.slice a5 (symsS g).length c5) (symsS g) := by have := hS4; rw [hlen5] at this; exact this
  rw [hlen5]
  obtain ⟨sy, hsy⟩ : ∃ sy, sy = symsS g := ⟨_, rfl⟩
  have hS5 : Strs w4 w.heap.size (.slice a5 sy.length c5) sy := by rw [hsy]; exact hS4'
  have hsl := symsS_len hm
  have hsall : ∀ X, SymIn g X → X ∈ sy := fun X hX => by rw [hsy]; exact symsS_all hm hX
  have hsym : ∀ X ∈ sy, X ≠ [] ∧ X.length ≤ 4 := fun X hX => symsS_sym hm (by rw [← hsy]; exact hX)
  have hsnd : sy.Nodup := by rw [hsy]; exact symsS_nodup hm
  rw [← hsy]
  rw [← hsy] at hsl
  have H4 := Lib.hid (And.intro hS5 (And.intro hn4 (And.intro hsall (And.intro hsym hsnd))))
  clear hS4 hS4' hg4 hn4 hq hlen5 hS5 hsall hsym hsnd hsy hhl htl hhl2
  have hsz4 := H4.out.2.1.size
  have hci : ItmsAt (w4.alloc (.cells #[.int .i64 (-1), .int .i64 0, sv [36]] 101)) (.slice (some ⟨w4.heap.size, 0, none⟩) 1 1) [(⟨none, 0, endS⟩ : Itm)] := by
    refine ⟨_, 1, rfl, Nat.le_refl _, fun _ => ⟨_, 0, rfl, fun j hj => ?_⟩⟩
    obtain rfl : j = 0 := by simpa using hj
    have hd : ∀ j, (w4.alloc (.cells #[.int .i64 (-1), .int .i64 0, sv [36]] 101)).cell? ⟨w4.heap.size, j, none⟩ = (#[Value.int .i64 (-1), .int .i64 0, sv [36]] : Array Value)[j]? := fun j => World.cell?_alloc_mark w4 _ 101 (0, 0) j
    exact ⟨hd 0, hd 1, hd 2⟩
  have hn5 : New w (w4.alloc (.cells #[.int .i64 (-1), .int .i64 0, sv [36]] 101)) := H4.out.2.1.alloc _
  have hq := Lib.hid (closed_any hg base_nil _ _ _ (HH.out.new hn5) hci)
  have HN5 := Lib.hid hn5
  clear hn5 hci
  go_wp2_with (first | (go_at_call 67; refine hq.out.mono ?_; rintro e w6 ⟨v6, L0, rfl, hO6, hC6, hn6⟩; obtain ⟨a6, c6, rfl⟩ := owns_slice hO6; have H6 := Lib.hid (And.intro hO6 (And.intro hC6 hn6)); clear hO6 hC6 hn6))
  have hsz6 : w4.heap.size + 1 ≤ w6.heap.size := by have := H6.out.2.2.size; simpa using this
  have hM0 : Mat3G itm3 101 53 (w6.alloc (.cells #[.slice a6 L0.length c6] 53)) w.heap.size (.slice (some ⟨w6.heap.size, 0, none⟩) 1 1) [L0] := by
    refine ⟨[.slice a6 L0.length c6], ⟨rfl, .inr ⟨w6.heap.size, 1, _, rfl, by omega, heap_alloc_new _ _, Nat.le_refl _, by unfold maxLen; omega, rfl, rfl⟩⟩, rfl, fun k u L h1 h2 => ?_⟩
    have hk : k = 0 := by have := (List.getElem?_eq_some_iff.1 h1).1; simp at this; exact this
    subst hk
    simp at h1 h2
    subst h1; subst h2
    exact World.ownsRow.alloc (ownsRow_mono H6.out.1 (by simp; omega)) _
  have hE0 : Own3 edg3 64 ((w6.alloc (.cells #[.slice a6 L0.length c6] 53)).alloc (.cells #[] 64)) w.heap.size (.slice (some ⟨(w6.alloc (.cells #[.slice a6 L0.length c6] 53)).heap.size, 0, none⟩) 0 0) [] := World.ownsRow_made _ #[] 0 (by simp; omega) (Nat.zero_le _) rfl
  have hn7 : New w ((w6.alloc (.cells #[.slice a6 L0.length c6] 53)).alloc (.cells #[] 64)) := ((HN5.out.trans H6.out.2.2).alloc _).alloc _
  have hS7 : Strs ((w6.alloc (.cells #[.slice a6 L0.length c6] 53)).alloc (.cells #[] 64)) w.heap.size (.slice a5 sy.length c5) sy := ownsRow_new H4.out.1 (((((New.refl w4).alloc _).trans H6.out.2.2).alloc _).alloc _)
  have hR0 : RefS g [[]] 0 [] [L0] [] := RefS.init (closed_row H6.out.2.1)
  have H7 := Lib.hid (And.intro (hM0.new ((New.refl _).alloc (.cells #[] 64))) (And.intro hE0 (And.intro hn7 (And.intro hS7 hR0))))
  clear hM0 hE0 hn7 hS7 hR0 hq hsz6
  go_loopg [6, 7, 8] 121 (fun gk u6 u7 u8 wr => ∃ (i : Nat) (Γ : List (List Str)) (St : List (List Itm)) (E : List Edg), i ≤ St.length ∧ St.length ≤ 120 ∧ gk = 121 - i ∧ u8 = .int .i64 i ∧ Mat3G itm3 101 53 wr w.heap.size u6 St ∧ Own3 edg3 64 wr w.heap.size u7 E ∧ Strs wr w.heap.size (.slice a5 sy.length c5) sy ∧ RefS g Γ i [] St E ∧ E.length ≤ i * 100 ∧ New w wr)
  case atStart => exact ⟨0, [[]], [L0], [], Nat.zero_le _, by simp, rfl, rfl, by simpa using H7.out.1, by simpa using H7.out.2.1, H7.out.2.2.2.1, H7.out.2.2.2.2, by simp, H7.out.2.2.1⟩
  case round =>
    clear H7
    obtain ⟨i, Γ, St, E, hi, hS120, rfl, rfl, hM, hE, hS, hR, hEl, hn⟩ := hrel
    by_cases hlt : i < St.length
    · obtain ⟨aM, cM, eM⟩ := hM.at.slice
      subst eM
      have HI := Lib.hid (And.intro hM (And.intro hE (And.intro hS (And.intro hR hn))))
      have hiΓ : i < Γ.length := by rw [← hR.len]; exact hlt
      have hγ : Γ[i]? = some Γ[i] := List.getElem?_eq_getElem hiΓ
      have HΓ := Lib.hid hγ
      clear hM hE hS hR hn hγ
      go_wp2_with fail
      go_loopg [6, 7, 34] sy.length (fun gj u6 u7 u34 wr => ∃ (t : Nat) (Γ' : List (List Str)) (St' : List (List Itm)) (E' : List Edg), t ≤ sy.length ∧ gj = sy.length - t ∧ u34 = .int .i64 t ∧ Mat3G itm3 101 53 wr w.heap.size u6 St' ∧ Own3 edg3 64 wr w.heap.size u7 E' ∧ Strs wr w.heap.size (.slice a5 sy.length c5) sy ∧ RefS g Γ' i (sy.take t) St' E' ∧ E'.length ≤ i * 100 + t ∧ St'.length ≤ 120 + t ∧ i < St'.length ∧ New w wr)
      case atStart => exact ⟨0, Γ, St, E, Nat.zero_le _, rfl, rfl, HI.out.1, HI.out.2.1, HI.out.2.2.1, by simpa using HI.out.2.2.2.1, by omega, by omega, hlt, HI.out.2.2.2.2⟩
      case round =>
        clear HI HΓ
        obtain ⟨t, Γ', St', E', ht, rfl, rfl, hM, hE, hS, hR, hEl', hSl', hiS, hn⟩ := hrel
        by_cases htl : t < sy.length
        · obtain ⟨aM', cM', eM⟩ := hM.at.slice
          subst eM
          obtain ⟨aE', cE', eE⟩ := owns_slice hE
          subst eE
          obtain ⟨b5, o5, e5, hc5⟩ := hS.at.elem htl
          cases e5
          obtain ⟨bM, oM, ai, ci, e, h1, h2⟩ := hM.at.elem hiS
          cases e
          have hiΓ : i < Γ'.length := by rw [← hR.len]; exact hiS
          have hγ : Γ'[i]? = some Γ'[i] := List.getElem?_eq_getElem hiΓ
          have hit := hR.items i _ _ hγ (List.getElem?_eq_getElem hiS)
          have hXs := H4.out.2.2.2.1 _ (List.getElem_mem htl)
          have hq := Lib.hid (gone_any hg hit.1 hit.2.1 _ _ wr (HH.out.new hn) h2 sy[t] hXs.1)
          have hXD : sy[t] ∉ sy.take t := by
            intro hmem
            obtain ⟨j, hj, e⟩ := List.getElem_of_mem hmem
            rw [List.getElem_take] at e
            rw [List.length_take] at hj
            have := (List.getElem_inj H4.out.2.2.2.2).1 e
            omega
          have htk : sy.take (t + 1) = sy.take t ++ [sy[t]] := List.take_succ_eq_append_getElem htl
          have hrow : ∀ l ∈ St', l.length ≤ 3185 := fun l hl => by
            obtain ⟨k, hk⟩ := List.getElem?_of_mem hl
            have hkl : k < Γ'.length := by rw [← hR.len]; exact (List.getElem?_eq_some_iff.1 hk).1
            have h3 := hR.items k _ l (List.getElem?_eq_getElem hkl) hk
            exact items_le hm.len hm.body h3.1 fun i hi => (h3.2.1 i).1 hi
          have hsz := hn.size
          have HI := Lib.hid (And.intro hM (And.intro hE (And.intro hS (And.intro hR (And.intro hn (And.intro hγ (And.intro hXD (And.intro htk hrow))))))))
          have hX4 : sy[t].length ≤ 4 := hXs.2
          clear hM hE hS hR hn hγ hXD htk hrow h2 hit hXs
          go_wp2_with fail
          refine hq.out.mono ?_
          rintro e wg ⟨vX, L, rfl, hOL, hCL, hng⟩
          obtain ⟨aX, cX, rfl⟩ := owns_slice hOL
          have hLl : L.length ≤ 3185 := items_le hm.len hm.body hCL.nodup fun i hi => (hCL.mem i).1 hi
          have HG := Lib.hid (And.intro (ownsRow_mono hOL hsz) (And.intro hCL hng))
          clear hOL hCL hng hq h1 hc5
          by_cases hL : L = []
          · have hR2 := Lib.hid (HI.out.2.2.2.1.dead HI.out.2.2.2.2.2.1 (X := sy[t]) fun hlv => (closed_live HG.out.2.1).1 hlv hL)
            have hL0 : L.length = 0 := by rw [hL]; rfl
            clear hL
            go_wp2
            have hnw : New wr (wg.alloc (.cells #[.slice aX L.length cX] 53)) := HG.out.2.2.alloc _
            rw [hL0] at hnw
            go_roundg (sy.length - (t + 1))
            case measure => omega
            case rel => exact ⟨t + 1, Γ', St', E', by omega, rfl, by go_num, HI.out.1.new hnw, ownsRow_new HI.out.2.1 hnw, ownsRow_new HI.out.2.2.1 hnw, by rw [HI.out.2.2.2.2.2.2.2.1]; exact hR2.out, by omega, by omega, hiS, HI.out.2.2.2.2.1.trans hnw⟩
          · have hL0 : ¬ (L.length : Int) = 0 := by
              intro e
              exact hL (List.eq_nil_of_length_eq_zero (by omega))
            have HL := Lib.hid hL
            clear hL
            have hnw : New wr (wg.alloc (.cells #[.slice aX L.length cX] 53)) := HG.out.2.2.alloc _
            have hqI := Lib.hid (IndexSt_any (w := wg.alloc (.cells #[.slice aX L.length cX] 53)) ((HI.out.1.new hnw).at) (Row3.of_owns (ownsRow_new HG.out.1 ((New.refl wg).alloc _))) (fun l hl => Nat.le_trans (HI.out.2.2.2.2.2.2.2.2 l hl) (by omega)) (by omega) (pb := wg.heap.size) (by simp))
            have HNW := Lib.hid hnw
            clear hnw
            go_wp2_with fail
            refine hqI.out.mono ?_
            rintro e w8 ⟨r, rfl, hr, hn8⟩
            have hnw8 := HNW.out.trans hn8
            have hb8 : w8.cell? ⟨wg.heap.size, 0, none⟩ = some (.slice aX L.length cX) := hn8.cell (by simp)
            have hM8 := HI.out.1.new hnw8
            obtain ⟨vs, hvs⟩ := hM8
            have HV := Lib.hid (And.intro hvs (And.intro (ownsRow_new HI.out.2.1 hnw8) (And.intro (ownsRow_new HI.out.2.2.1 hnw8) (And.intro (HI.out.2.2.2.2.1.trans hnw8) (ownsRow_new HG.out.1 (((New.refl wg).alloc _).trans hn8))))))
            have hszw := HV.out.2.2.2.1.size
            clear hvs hnw8 hn8 hqI
            rcases hr with ⟨rfl, hno⟩ | ⟨k, rfl, hk⟩
            · have hR2 := Lib.hid (refS_miss HI.out.2.2.2.1 HI.out.2.2.2.2.2.1 HG.out.2.1 HL.out hno HI.out.2.2.2.2.2.2.1)
              clear hno
              go_wp2_with (at_builtin; go_must (refine wpList_push _ rfl _ _ _ _ rfl T35 w.heap.size (.slice (some ⟨bM, oM, none⟩) St'.length cM') St'.length vs rfl HV.out.1.1 [_] rfl rfl _ _ rfl (by first | rfl | simp) (by omega) (by omega) hszw ?_))
              intro v9 w9 hown9 hgrow9 hne9 hat9
              have hM9 := Mat3G.push (by decide) HV.out.1 HV.out.2.2.2.2 hown9 hgrow9
              have hE9 := World.ownsRow.kept HV.out.2.1 hgrow9 (ownBlock_ne_row HV.out.2.1 HV.out.1.1 (by decide))
              have hS9 := World.ownsRow.kept HV.out.2.2.1 hgrow9 (ownBlock_ne_row HV.out.2.2.1 HV.out.1.1 (by decide))
              have hn9 : New w w9 := Below.push HV.out.2.2.2.1 HV.out.1.1 hgrow9 hszw
              have H9 := Lib.hid (And.intro hM9 (And.intro hE9 (And.intro hS9 hn9)))
              have hszw9 := hn9.size
              obtain ⟨a9, c9, rfl⟩ := owns_slice hown9
              clear hM9 hE9 hS9 hn9 hgrow9 hne9 hat9 hown9 hb8
              go_wp2_with (at_builtin; go_must (refine wpList_push _ rfl _ _ _ _ rfl T36 w.heap.size (.slice aE' E'.length cE') E'.length (E'.flatMap (enc3 edg3)) rfl H9.out.2.1 [_, _, _] rfl rfl _ _ rfl (by first | rfl | simp) (by omega) (by omega) hszw9 ?_))
              intro v10 w10 hown10 hgrow10 hne10 hat10
              have hM10 := Mat3G.kept (q := 64) (by decide) (by decide) H9.out.1 H9.out.2.1 hgrow10
              have hS10 := World.ownsRow.kept H9.out.2.2.1 hgrow10 (ownBlock_ne_row H9.out.2.2.1 H9.out.2.1 (by decide))
              have hn10 : New w w10 := Below.push H9.out.2.2.2 H9.out.2.1 hgrow10 hszw9
              have hE10 : Own3 edg3 64 w10 w.heap.size v10 (E' ++ [(i, sy[t], St'.length)]) := Own3.push (e := edg3) (x := ((i, sy[t], St'.length) : Edg)) hown10
              have H10 := Lib.hid (And.intro hM10 (And.intro hE10 (And.intro hS10 hn10)))
              obtain ⟨a10, c10, rfl⟩ := owns_slice hown10
              clear hM10 hE10 hS10 hn10 hgrow10 hne10 hat10 hown10
              go_wp2
              go_roundg (sy.length - (t + 1))
              case measure => omega
              case rel => exact ⟨t + 1, _, _, _, by omega, rfl, by go_num, H10.out.1, H10.out.2.1, H10.out.2.2.1, by rw [HI.out.2.2.2.2.2.2.2.1]; exact hR2.out, by simp; omega, by simp; omega, by simp; omega, H10.out.2.2.2⟩
            · have hR2 := Lib.hid (HI.out.2.2.2.1.old HI.out.2.2.2.2.2.2.1 (refS_hit HI.out.2.2.2.1 HI.out.2.2.2.2.2.1 HG.out.2.1 HL.out hk))
              have hk0 : ¬ (k : Int) < 0 := by omega
              clear hk
              go_wp2_with (at_builtin; go_must (refine wpList_push _ rfl _ _ _ _ rfl T36 w.heap.size (.slice aE' E'.length cE') E'.length (E'.flatMap (enc3 edg3)) rfl HV.out.2.1 [_, _, _] rfl rfl _ _ rfl (by first | rfl | simp) (by omega) (by omega) hszw ?_))
              intro v10 w10 hown10 hgrow10 hne10 hat10
              have hM8 : Mat3G itm3 101 53 w8 w.heap.size (.slice (some ⟨bM, oM, none⟩) St'.length cM') St' := ⟨vs, HV.out.1⟩
              have hM10 := Mat3G.kept (q := 64) (by decide) (by decide) hM8 HV.out.2.1 hgrow10
              have hS10 := World.ownsRow.kept HV.out.2.2.1 hgrow10 (ownBlock_ne_row HV.out.2.2.1 HV.out.2.1 (by decide))
              have hn10 : New w w10 := Below.push HV.out.2.2.2.1 HV.out.2.1 hgrow10 hszw
              have hE10 : Own3 edg3 64 w10 w.heap.size v10 (E' ++ [(i, sy[t], k)]) := Own3.push (e := edg3) (x := ((i, sy[t], k) : Edg)) hown10
              have H10 := Lib.hid (And.intro hM10 (And.intro hE10 (And.intro hS10 hn10)))
              obtain ⟨a10, c10, rfl⟩ := owns_slice hown10
              clear hM8 hM10 hE10 hS10 hn10 hgrow10 hne10 hat10 hown10 hb8
              go_wp2
              go_roundg (sy.length - (t + 1))
              case measure => omega
              case rel => exact ⟨t + 1, _, _, _, by omega, rfl, by go_num, H10.out.1, H10.out.2.1, H10.out.2.2.1, by rw [HI.out.2.2.2.2.2.2.2.1]; exact hR2.out, by simp; omega, by omega, hiS, H10.out.2.2.2⟩
        · have htk : sy.take t = sy := List.take_of_length_le (by omega)
          rw [htk] at hR
          have hR2 := Lib.hid (hR.next H4.out.2.2.1)
          obtain ⟨aM', cM', eM⟩ := hM.at.slice
          subst eM
          have HI := Lib.hid (And.intro hM (And.intro hE (And.intro hS hn)))
          clear hM hE hS hR hn htk
          by_cases h120 : St'.length ≤ 120
          · go_wp2
            go_roundg (121 - (i + 1))
            case measure => omega
            case rel => exact ⟨i + 1, _, _, _, by omega, h120, rfl, by go_num, HI.out.1, HI.out.2.1, HI.out.2.2.1, hR2.out, by omega, HI.out.2.2.2⟩
          · go_wp2_with fail
            go_ret3
            exact ⟨_, _, false, rfl, HI.out.2.2.2, fun _ hf => h120 (by rw [hR2.out.len]; exact hf.le hR2.out.gam), fun h => by cases h⟩
    · have hfin := hM.at
      obtain ⟨aM', cM', eM⟩ := hfin.slice
      have HZ := Lib.hid (And.intro hfin (And.intro (Row3.of_owns hE) (And.intro hR hn)))
      subst eM
      obtain ⟨aE', cE', eE⟩ := owns_slice hE
      subst eE
      clear hfin hM hE hS hR hn
      go_wp2_with fail
      go_ret3
      obtain ⟨hM, hE, hR, hn⟩ := HZ.out
      refine ⟨_, _, true, rfl, hn, (fun h => by cases h), fun _ => ⟨Γ, St, E, hR.told (by rw [← hR.len]; omega), hM, hE, fun l hl => ?_, hR.few (by rw [← hR.len]; omega) (by rw [← hR.len]; exact hS120), by omega⟩⟩
      obtain ⟨k, hk⟩ := List.getElem?_of_mem hl
      have hkl : k < Γ.length := by rw [← hR.len]; exact (List.getElem?_eq_some_iff.1 hk).1
      exact (hR.items k _ l (List.getElem?_eq_getElem hkl) hk).2.2
end Go.Proofs.YtdejcdmgcckmoaaGreatDoor
