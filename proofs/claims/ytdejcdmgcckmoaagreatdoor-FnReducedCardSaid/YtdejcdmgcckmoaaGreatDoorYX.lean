/- The reference: what stands behind an item's dot. -/
import Derived.Test.YtdejcdmgcckmoaaGreatDoorYU
import Derived.Test.YtdejcdmgcckmoaaGreatDoorYN
import Derived.Test.YtdejcdmgcckmoaaGreatDoorYW
import Derived.Test.YtdejcdmgcckmoaaGreatDoorYT
import Derived.Test.YtdejcdmgcckmoaaGreatDoorYH
namespace Go.Proofs.YtdejcdmgcckmoaaGreatDoor
open Go.RowKit Go.Sort Lr

set_option maxRecDepth 20000 in
set_option maxHeartbeats 1000000 in
theorem body_any {w : World} {v : Value} {g : Gram} (h : GramAt w v g) (hl : g.length ≤ 12) (h0 : 0 < g.length) {q : Option Nat} (hq : PrdOk g q) :
    Calls Tryz.prog 112 #[v, .int .i64 (prodI q)] w fun e w' => ∃ a c, e = .returned (.slice a (Lr.body g q).length c) ∧ StrsAt w' (.slice a (Lr.body g q).length c) (Lr.body g q) ∧ New w w' := by
  obtain ⟨a, cap, rfl⟩ := h.slice
  cases q with
  | none =>
    obtain ⟨b, o, a', cap', rfl, h1, h2, h3⟩ := h.elem h0
    have hs : Lr.body g none = [g[0].1] := by
      cases g with
      | nil => simp at h0
      | cons p g => rfl
    rw [hs]
    have hneg : prodI none = -1 := rfl
    rw [hneg]
    simp only [Nat.zero_mul, Nat.add_zero] at h1
    clear h h2 h3 hs
    go_enter Tryz.func112, Tryz.ntmps112
    go_wp2
    go_ret
    refine ⟨_, _, rfl, ?_, (New.refl w).alloc _⟩
    exact ⟨_, 1, rfl, Nat.le_refl _, fun _ => ⟨_, 0, rfl, fun j hj => by
      obtain rfl : j = 0 := by simpa using hj
      simp⟩⟩
  | some n =>
    have hn := hq n rfl
    obtain ⟨b, o, a', cap', rfl, h1, h2, h3⟩ := h.elem hn
    have hs : Lr.body g (some n) = g[n].2 := by
      simp [Lr.body, List.getElem?_eq_getElem hn]
    rw [hs]
    have hneg : prodI (some n) = (n : Int) := rfl
    rw [hneg]
    have H3 := Lib.hid h3
    have hb0 : ¬ (n : Int) < 0 := by omega
    clear h h1 h3 hs
    go_enter Tryz.func112, Tryz.ntmps112
    go_wp2
    go_ret
    exact ⟨_, _, rfl, H3.out, New.refl w⟩
end Go.Proofs.YtdejcdmgcckmoaaGreatDoor
namespace Go.Proofs.YtdejcdmgcckmoaaGreatDoor
open Go.RowKit Go.Sort Lr

/-- The symbol behind an item's dot, or nothing. -/
def nextS (g : Gram) (i : Itm) : Str := ((i.rest g)[0]?).getD []
theorem nextS_get (g : Gram) (i : Itm) : nextS g i = ((Lr.body g i.prod)[i.dot]?).getD [] := by
  unfold nextS Itm.rest
  rw [List.getElem?_drop, Nat.add_zero]
set_option maxRecDepth 20000 in
set_option maxHeartbeats 1000000 in
theorem next_any {w : World} {v : Value} {g : Gram} (h : GramAt w v g) (hm : Sm g) {i : Itm} (hi : PrdOk g i.prod) :
    Calls Tryz.prog 88 #[v, itmA i] w fun e w' => e = .returned (sv (nextS g i)) ∧ New w w' := by
  obtain ⟨a, cap, rfl⟩ := h.slice
  have hn0 : New w (w.alloc (.cells #[.int .i64 (prodI i.prod), .int .i64 i.dot, sv i.look] 101)) := (New.refl w).alloc _
  have c1 : (w.alloc (.cells #[.int .i64 (prodI i.prod), .int .i64 i.dot, sv i.look] 101)).cell? ⟨w.heap.size, 1, none⟩ = some (.int .i64 i.dot) := by simp
  have hq := Lib.hid (body_any (h.new hn0) hm.len hm.pos hi)
  have hbl := body_len hm i.prod
  have HN := Lib.hid (And.intro hn0 c1)
  clear h hn0 c1
  by_cases hd : i.dot < (Lr.body g i.prod).length
  · have hr : nextS g i = (Lr.body g i.prod)[i.dot] := by rw [nextS_get, List.getElem?_eq_getElem hd]; rfl
    rw [hr]
    clear hr
    go_enter Tryz.func88, Tryz.ntmps88
    go_wp2_with fail
    refine hq.out.mono ?_
    rintro e w' ⟨a2, cc, rfl, hs, hn⟩
    have c1 := hn.cell HN.out.2
    have HS := Lib.hid (And.intro hs hn)
    clear hq hs hn
    obtain ⟨b, o, e1, h1⟩ := HS.out.1.elem hd
    cases e1
    have hc : (Lr.body g i.prod).length ≤ cc := by
      obtain ⟨_, _, e, hc, _⟩ := HS.out.1
      cases e; exact hc
    go_wp2
    go_ret
    exact ⟨rfl, HN.out.1.trans HS.out.2⟩
  · have hr : nextS g i = [] := by rw [nextS_get, List.getElem?_eq_none (by omega)]; rfl
    rw [hr]
    clear hr
    go_enter Tryz.func88, Tryz.ntmps88
    go_wp2_with fail
    refine hq.out.mono ?_
    rintro e w' ⟨a2, cc, rfl, hs, hn⟩
    have c1 := hn.cell HN.out.2
    have HS := Lib.hid (And.intro hs hn)
    clear hq hs hn
    go_wp2
    go_ret
    exact ⟨rfl, HN.out.1.trans HS.out.2⟩
end Go.Proofs.YtdejcdmgcckmoaaGreatDoor
namespace Go.Proofs.YtdejcdmgcckmoaaGreatDoor
open Go.RowKit Go.Sort Lr

theorem addr_add0 (b o j : Nat) : (⟨b, o, none⟩ : Addr).add j = ⟨b, o + j, none⟩ := by unfold Addr.add; split <;> simp_all
set_option maxRecDepth 20000 in
set_option maxHeartbeats 1000000 in
theorem CloneS_any (v : Value) (l : List Str) (w : World) (h : StrsAt w v l) (hl : l.length ≤ 100000) :
    Calls Tryz.prog 53 #[v] w fun e w' => ∃ v', e = .returned v' ∧ Strs w' w.heap.size v' l ∧ New w w' := by
  obtain ⟨a, cap, rfl⟩ := h.slice
  cases a with
  | none =>
    have hl0 : l = [] := by
      obtain ⟨a', c', e, _, hc⟩ := h
      cases e
      cases l with
      | nil => rfl
      | cons s l => obtain ⟨b, o, e, _⟩ := hc (by simp); cases e
    subst hl0
    have hq : ∀ w, (binOp .eql 24 (.slice none 0 cap) (.slice none 0 0)).run Tryz.prog w = .ok (.bool true) w := fun _ => by kernel_rfl
    clear h
    go_enter Tryz.func53, Tryz.ntmps53
    go_wp2
    go_ret
    exact ⟨_, rfl, ⟨rfl, .inl ⟨rfl, rfl⟩⟩, New.refl w⟩
  | some ad =>
    have hnews : ∀ j u, (l.map sv)[j]? = some u → w.cell? (ad.add j) = some u := fun j u hu => by
      have h0 : 0 < l.length := by have := (List.getElem?_eq_some_iff.1 hu).1; simp at this; omega
      obtain ⟨b, o, e, hc⟩ := h.news h0
      cases e
      exact hc j u hu
    have hq : ∀ w, (binOp .eql 24 (.slice (some ad) l.length cap) (.slice none 0 0)).run Tryz.prog w = .ok (.bool false) w := fun _ => by kernel_rfl
    have hown : (w.alloc (.cells #[] 9)).ownsRow w.heap.size 9 1 (.slice (some ⟨w.heap.size, 0, none⟩) 0 0) 0 [] := World.ownsRow_made w #[] 0 (Nat.le_refl _) (Nat.zero_le _) rfl
    have HN := Lib.hid hnews
    clear h hnews
    go_enter Tryz.func53, Tryz.ntmps53
    go_wp2_with (at_builtin; refine wpList_extend _ rfl _ _ _ _ rfl T24 w.heap.size _ _ _ rfl hown ad l.length cap (l.map sv) rfl (by simp) (fun j u hu => ((New.refl w).alloc (.cells #[] 9)).cell (HN.out j u hu)) (by intro u hu; simp at hu; obtain ⟨s, _, rfl⟩ := hu; rfl) (by omega) (by omega) (by simp) ?_)
    intro v' w2 hown2 hg
    go_wp2
    go_ret
    exact ⟨v', rfl, by simpa [Strs] using hown2, Below.grown ((New.refl w).alloc _) hg (by simp) (fun k hk => by simp [Value.ownBlock] at hk; omega)⟩
/-- `append(s, l...)` of elements of more cells onto a row of the call's own. -/
theorem wpList_extendK {P : Program} {ops : Array Oper} {rest : List Oper} {o : Oper} {a : Act} {Q : Exit → Act → World → Prop} (W : World) (hgd : o.guard = none) (s x : Operand) (t e : TypeId)
    (ho : o.op = .call { callee := .builtin .append, args := #[s, x], argTypes := #[t, t] }) {size bytes : Nat} {z : Value} (T : SliceTy P t e size bytes z)
    (B : Nat) (v : Value) (n : Nat) (xs : List Value) (hs : a.eval s = v) (hown : W.ownsRow B e size v n xs) (ad : Addr) (m c : Nat) (news : List Value) (hx : a.eval x = .slice (some ad) m c) (hl : news.length = m * size)
    (hnews : ∀ j u, news[j]? = some u → W.cell? (ad.add j) = some u) (h1 : ∀ u ∈ news, u.oneCell' = true) (hbytes : (n + m) * bytes ≤ 140737488355328) (hlen : n + m ≤ 140737488355328) (hbase : B ≤ W.heap.size)
    (h : ∀ v' w', w'.ownsRow B e size v' (n + m) (xs ++ news) → W.grownBy w' v.ownBlock → wpList P ops Q rest (a.put o.dst v') w') :
    wpList P ops Q (o :: rest) a W := by
  obtain ⟨i, hi, hz0, hz1, hz2⟩ := info_parts T.row
  exact wpList_append_own_at W hgd s x t ho B e i z size bytes T.und hi hz0 hz1 hz2 T.cells T.pos v n xs hs hown ad m c news hx hl hnews h1 (by unfold maxLen; omega) hbytes hbase fun v' w' h1 h2 _ _ => h v' w' h1 h2
set_option maxRecDepth 20000 in
set_option maxHeartbeats 1000000 in
theorem CloneI_any (v : Value) (l : List Itm) (w : World) (h : ItmsAt w v l) (hl : l.length ≤ 100000) :
    Calls Tryz.prog 111 #[v] w fun e w' => ∃ v', e = .returned v' ∧ Own3 itm3 101 w' w.heap.size v' l ∧ New w w' := by
  obtain ⟨a, cap, rfl⟩ := h.slice
  cases a with
  | none =>
    have hl0 : l = [] := by
      obtain ⟨a', c', e, _, hc⟩ := h
      cases e
      cases l with
      | nil => rfl
      | cons s l => obtain ⟨b, o, e, _⟩ := hc (by simp); cases e
    subst hl0
    have hq : ∀ w, (binOp .eql 53 (.slice none 0 cap) (.slice none 0 0)).run Tryz.prog w = .ok (.bool true) w := fun _ => by kernel_rfl
    clear h
    go_enter Tryz.func111, Tryz.ntmps111
    go_wp2
    go_ret
    exact ⟨_, rfl, Own3.nil, New.refl w⟩
  | some ad =>
    have hnews : ∀ j u, (l.flatMap (enc3 itm3))[j]? = some u → w.cell? (ad.add j) = some u := fun j u hu => by
      have hjl := (List.getElem?_eq_some_iff.1 hu).1
      rw [flatMap_const (enc3_len itm3)] at hjl
      have hk : j / 3 < l.length := by omega
      obtain ⟨b, o, e, h1, h2, h3⟩ := h.elem hk
      cases e
      have hd := Nat.div_add_mod' j 3
      have hg := flatMap_get (enc3_len itm3) l (j / 3) (j % 3) hk (Nat.mod_lt _ (by omega))
      rw [hd] at hg
      rw [hg] at hu
      rw [addr_add0]
      have hm : j % 3 = 0 ∨ j % 3 = 1 ∨ j % 3 = 2 := by omega
      rcases hm with hm | hm | hm
      · rw [hm] at hu
        have : o + j = o + j / 3 * 3 := by omega
        rw [this, h1]; exact hu
      · rw [hm] at hu
        have : o + j = o + j / 3 * 3 + 1 := by omega
        rw [this, h2]; exact hu
      · rw [hm] at hu
        have : o + j = o + j / 3 * 3 + 2 := by omega
        rw [this, h3]; exact hu
    have hone : ∀ u ∈ l.flatMap (enc3 itm3), u.oneCell' = true := fun u hu => by
      obtain ⟨x, _, hx⟩ := List.mem_flatMap.1 hu
      simp [enc3, itm3] at hx
      rcases hx with rfl | rfl | rfl <;> rfl
    have hq : ∀ w, (binOp .eql 53 (.slice (some ad) l.length cap) (.slice none 0 0)).run Tryz.prog w = .ok (.bool false) w := fun _ => by kernel_rfl
    have hown : (w.alloc (.cells #[] 101)).ownsRow w.heap.size 101 3 (.slice (some ⟨w.heap.size, 0, none⟩) 0 0) 0 [] := World.ownsRow_made w #[] 0 (Nat.le_refl _) (Nat.zero_le _) rfl
    have HN := Lib.hid (And.intro hnews hone)
    clear h hnews hone
    go_enter Tryz.func111, Tryz.ntmps111
    go_wp2_with (at_builtin; refine wpList_extendK _ rfl _ _ _ _ rfl T53 w.heap.size _ _ _ rfl hown ad l.length cap (l.flatMap (enc3 itm3)) rfl (by rw [flatMap_const (enc3_len itm3)]) (fun j u hu => ((New.refl w).alloc (.cells #[] 101)).cell (HN.out.1 j u hu)) HN.out.2 (by omega) (by omega) (by simp) ?_)
    intro v' w2 hown2 hg
    go_wp2
    go_ret
    exact ⟨v', rfl, by simpa [Own3] using hown2, Below.grown ((New.refl w).alloc _) hg (by simp) (fun k hk => by simp [Value.ownBlock] at hk; omega)⟩
end Go.Proofs.YtdejcdmgcckmoaaGreatDoor
namespace Go.Proofs.YtdejcdmgcckmoaaGreatDoor
open Go.RowKit Go.Sort Lr

/-- A row of texts behind a place. -/
theorem slice_drop {w : World} {a : Option Addr} {n c : Nat} {l : List Str} (h : StrsAt w (.slice a n c) l) {d : Nat} (hd : d + 1 ≤ l.length) :
    ∃ a' c', (∀ W, (Instr.slice 24 (.slice a n c) (some (.int .i64 ((d : Int) + 1))) none none).run Tryz.prog W = .ok (.slice a' (l.drop (d + 1)).length c') W) ∧ StrsAt w (.slice a' (l.drop (d + 1)).length c') (l.drop (d + 1)) := by
  obtain ⟨a1, c1, e, hcap, hc⟩ := h
  cases e
  obtain ⟨b, o, rfl, hcc⟩ := hc (by omega)
  refine ⟨some ⟨b, if c = d + 1 then o else o + (d + 1), none⟩, c - (d + 1), fun W => ?_, ?_⟩
  · obtain ⟨i, hi, hz0, hz1, hz2⟩ := info_parts T24.row
    rw [run_slice_l W 24 (some ⟨b, o, none⟩) l.length c (by rw [show Tryz.prog.elem 24 = 9 from by kernel_rfl]; exact T24.und) .i64 ((d : Int) + 1) (by omega) (by omega)]
    have hs : (sizeOf (Tryz.prog.elem 24)).run Tryz.prog W = .ok 1 W := by kernel_rfl
    rw [hs]
    have e1 : ((d : Int) + 1).toNat = d + 1 := by omega
    simp only [Result.andThen_ok, sliced, e1, Nat.mul_one, List.length_drop]
    by_cases h : c = d + 1
    · simp [h]
    · simp [h, Addr.add]
  · refine ⟨_, _, rfl, by rw [List.length_drop]; omega, fun h0 => ⟨b, if c = d + 1 then o else o + (d + 1), rfl, fun j hj => ?_⟩⟩
    have h1 : ¬ c = d + 1 := by rw [List.length_drop] at h0; omega
    rw [if_neg h1]
    rw [List.length_drop] at hj
    have := hcc (d + 1 + j) (by omega)
    rw [show o + (d + 1) + j = o + (d + 1 + j) by omega, this]
    simp [List.getD, List.getElem?_drop]
theorem slice_dropE {w : World} {a : Option Addr} {n c : Nat} {l δ : List Str} (h : StrsAt w (.slice a n c) l) {d : Nat} (hd : d + 1 ≤ l.length) (e : δ = l.drop (d + 1)) :
    ∃ a' c', (∀ W, (Instr.slice 24 (.slice a n c) (some (.int .i64 ((d : Int) + 1))) none none).run Tryz.prog W = .ok (.slice a' δ.length c') W) ∧ StrsAt w (.slice a' δ.length c') δ := by
  subst e
  exact slice_drop h hd
/-- The look-aheads that the reference reckons. -/
theorem looks_iff {g : Gram} (hm : Sm g) {H : List Str} {Ls : List (List Str)} (hf : FirstsOk g H Ls) {δ R : List Str} {b : Str} (hδ : ∀ s ∈ δ, s ≠ []) (hb : isHead g b = false) (hb0 : b ≠ []) (hR : ∀ t, has R t = seqS g (phL H Ls) (δ ++ [b]) t) (c : Str) : c ∈ R ↔ Fst g δ b c := by
  have hne : ∀ p ∈ g, ∀ s ∈ p.2, s ≠ [] := fun p hp s hs e => by
    subst e
    exact absurd (hm.sym p hp [] hs) (by decide)
  rw [← has_iff, hR, seqS_fst (fun A t hA => hf.least.fst hne hA) (fun s hs => by
    rcases List.mem_append.1 hs with hs | hs
    · exact hδ s hs
    · simp at hs; rw [hs]; exact hb0), fst_row (fun p hp h => hne p hp [] h rfl) hb hb0 hδ]
theorem rest_syms {g : Gram} (hm : Sm g) {i : Itm} : ∀ s ∈ i.rest g, symbolOkB s = true := fun s hs => by
  have h1 : s ∈ Lr.body g i.prod := by
    unfold Itm.rest at hs
    exact List.mem_of_mem_drop hs
  exact symIn_ok hm (body_sym h1)
theorem great_head {g : Gram} (hm : Sm g) {i : Itm} {B : Str} {δ : List Str} (hr : i.rest g = B :: δ) : greatB B = isHead g B := by
  have hB : B ∈ Lr.body g i.prod := rest_body hr
  have hs := body_sym hB
  cases hh : isHead g B with
  | true =>
    obtain ⟨b, hb⟩ := isHead_iff.1 hh
    exact (hm.head _ hb).2
  | false =>
    cases hg : greatB B with
    | false => rfl
    | true =>
      rcases hs with rfl | ⟨p, hp, h⟩
      · have : isHead g (Lr.start g) = true := by
          have h0 := hm.pos
          cases g with
          | nil => simp at h0
          | cons p g => exact isHead_iff.2 ⟨p.2, List.mem_cons_self ..⟩
        rw [hh] at this; cases this
      · rw [hm.great p hp B h hg] at hh; cases hh
theorem look_ne {g : Gram} (hm : Sm g) {c : Str} (h : c ∈ looksU g) : c ≠ [] := by
  rcases List.mem_cons.1 h with h | h
  · rw [h]; decide
  · obtain ⟨p, hp, h⟩ := List.mem_flatMap.1 h
    intro e; subst e
    exact absurd (hm.sym p hp [] h) (by decide)
/-- An item whose dot stands ahead of no nonterminal leads to nothing. -/
theorem no_succ {g : Gram} {i : Itm} (h : ∀ B δ, i.rest g = B :: δ → isHead g B = false) (j : Itm) : ¬ Succ g i j := by
  rintro ⟨B, δ, n, b, c, h1, h2, _, _⟩
  have := h B δ h1
  rw [isHead_iff.2 ⟨b, List.mem_of_getElem? h2⟩] at this
  cases this
theorem prdOk_vld {g : Gram} {γ : List Str} {i : Itm} (h : Vld g γ i) : PrdOk g i.prod := fun _ hn => h.lt hn
end Go.Proofs.YtdejcdmgcckmoaaGreatDoor
