/- The thin package: a conflict as data. -/
import Derived.Test.YtdejcdmgcckmoaaGreatDoorYII
import Derived.Test.YtdejcdmgcckmoaaGreatDoorYV
import Derived.Test.YtdejcdmgcckmoaaGreatDoorYG
import Derived.Test.YtdejcdmgcckmoaaGreatDoorYEE
import Derived.Test.YtdejcdmgcckmoaaGreatDoorYH
import Derived.Test.YtdejcdmgcckmoaaGreatDoorYP
namespace Go.Proofs.YtdejcdmgcckmoaaGreatDoor
open Go.RowKit Go.Sort Go.Lib Lr

/-! Pairs of numbers, sorted. -/
def cmpK (x y : KN) : Int := orI (cmpZ x.1 y.1) (cmpZ x.2 y.2) (cmpZ x.2 y.2)
theorem ord_K : Ord3 cmpK := ord_Z.or ord_Z ord_Z (·.1) (·.2) (·.2) fun _ _ h1 h2 _ => Prod.ext h1 h2
theorem or2_any (a b : Int) (w : World) (p cp : Nat) (h0 : w.cell? ⟨p, 0, none⟩ = some (.int .i64 a)) (h1 : w.cell? ⟨p, 1, none⟩ = some (.int .i64 b)) :
    Calls Tryz.prog 63 #[.slice (some ⟨p, 0, none⟩) 2 cp] w fun e w' => e = .returned (.int .i64 (orI a b b)) ∧ w' = w := by
  go_enter Tryz.func63, Tryz.ntmps63
  go_wp2
  refine wp_loop_rounds 4 ?_
  rw [rounds_succ]
  by_cases ha : a = 0
  · by_cases hb : b = 0
    · go_wp2
      rw [rounds_succ]
      go_wp2
      rw [rounds_succ]
      go_wp2
      go_ret
      exact ⟨by simp [orI, ha, hb], rfl⟩
    · go_wp2
      rw [rounds_succ]
      go_wp2
      go_ret
      exact ⟨by simp [orI, ha], rfl⟩
  · go_wp2
    go_ret
    exact ⟨by simp [orI, ha], rfl⟩
set_option maxRecDepth 20000 in
set_option maxHeartbeats 400000 in
theorem cmp126 (a b a' b' : Int) (W : World) : Calls Tryz.prog 126 #[.agg #[.int .i64 a, .int .i64 b], .agg #[.int .i64 a', .int .i64 b']] W fun e w' => e = .returned (.int .i64 (orI (cmpZ a a') (cmpZ b b') (cmpZ b b'))) ∧ ∃ q os', w' = grow (W.drewN q) os' := by
  have hz1 := fun W => cmpZ_any a a' W
  have hz2 := fun W => cmpZ_any b b' W
  have hor := or2_any
  generalize cmpZ a a' = r1 at *
  generalize cmpZ b b' = r2 at *
  go_enter Tryz.func126, Tryz.ntmps126
  go_wp2_with fail
  obtain ⟨W2, hW2⟩ : ∃ W2 : World, W2 = ((W.alloc (.cells #[.int .i64 a, .int .i64 b] 188)).alloc (.cells #[.int .i64 a', .int .i64 b'] 188)) := ⟨_, rfl⟩
  have c1 : W2.cell? ⟨W.heap.size, 0, none⟩ = some (.int .i64 a) := by rw [hW2]; simp
  have c2 : W2.cell? ⟨W.heap.size, 1, none⟩ = some (.int .i64 b) := by rw [hW2]; simp
  have c4 : W2.cell? ⟨W.heap.size + 1, 0, none⟩ = some (.int .i64 a') := by rw [hW2]; simp
  have c5 : W2.cell? ⟨W.heap.size + 1, 1, none⟩ = some (.int .i64 b') := by rw [hW2]; simp
  rw [← hW2]
  have HW := Lib.hid hW2
  clear hW2
  generalize W.heap.size = p1 at *
  refine wp_region_still_tail 10 (by kernel_rfl) (by kernel_rfl) ?_
  simp only [List.take_succ_cons, List.take_zero, List.drop_succ_cons, List.drop_zero]
  still_step
  still_step
  still_step
  still_step
  still_call (hz1 _)
  still_step
  still_step
  still_step
  still_step
  still_call (hz2 _)
  refine wpStill_nil ?_
  change wpList _ _ _ _ _ (World.drew _)
  have hd : ∀ j, (W2.drew.alloc (.cells #[.int .i64 r1, .int .i64 r2] 3)).cell? ⟨W2.heap.size, j, none⟩ = (#[Value.int .i64 r1, .int .i64 r2] : Array Value)[j]? := fun j => World.cell?_alloc_mark W2.drew _ 3 (0, 0) j
  have hor' := Lib.hid (hor r1 r2 (W2.drew.alloc (.cells #[.int .i64 r1, .int .i64 r2] 3)) W2.heap.size 2 (by rw [hd]; rfl) (by rw [hd]; rfl))
  clear hd hor c1 c2 c4 c5 hz1 hz2
  go_wp2_with (go_at_call 63; refine hor'.out.mono ?_; rintro e w' ⟨rfl, rfl⟩)
  go_ret
  refine ⟨rfl, 1, #[.cells #[.int .i64 a, .int .i64 b] 188, .cells #[.int .i64 a', .int .i64 b'] 188, .cells #[.int .i64 r1, .int .i64 r2] 3], ?_⟩
  rw [HW.out, alloc_eq_grow, alloc_eq_grow, grow_grow, alloc_eq_grow, grow_grow]
  rfl
/-- Pairs sorted: a row of as many. -/
theorem SortPai {w : World} {B : Nat} {v : Value} {L : List KN} (h : OwnK kn2 2 188 w B v L) (hl : L.length ≤ 1000000) :
    Calls Tryz.prog 125 #[v, .func (.func 126) #[] #[]] w fun e w' => e = .returned (.tuple #[]) ∧ ∃ L' : List KN, L'.length = L.length ∧ OwnK kn2 2 188 w' B v L' ∧ w.grownBy w' v.ownBlock := by
  by_cases h0 : L.length = 0
  · obtain rfl : L = [] := List.eq_nil_of_length_eq_zero h0
    obtain ⟨a, c, rfl⟩ := owns_slice h
    refine (AnyF.slices_SortFunc_none Tryz.sortPai a c _ w).mono ?_
    rintro e w' ⟨rfl, rfl⟩
    exact ⟨rfl, [], rfl, h, (New.refl _).grown _⟩
  · rcases h.2 with ⟨_, hz⟩ | ⟨g, cap, cur, rfl, hbase, hb, h1, h2, h3, h4⟩
    · omega
    have hlt : g < w.heap.size := lt_of_block hb
    have eg : ∀ args w, (callFunc 126 args).run Tryz.prog w = .ok (.enter 126 args) w := enters_of Tryz.func126 (by kernel_rfl) rfl
    refine (AnyQ.slices_SortFunc Tryz.sortPai 2 Tryz.isAgg188 Tryz.sizeOf188 kn2 kn2_len (fun x v hv => by simp [kn2] at hv; rcases hv with rfl | rfl <;> rfl) cmpK (ord_swo ord_K) 126 #[] g 0 cap L.toArray w eg (cmpLays_of (fun x y W => cmp126 _ _ _ _ W) 2 g 0 _ w) (holdsK_of_own kn2_len h) hlt (by simp; omega)).mono ?_
    rintro e w' ⟨rfl, d', n, os, hp, hs, rfl⟩
    obtain ⟨L', rfl, k1, k2⟩ := sorted_list2 hp hs
    obtain ⟨k3, k4⟩ := ownsRow_sortedK (m := n) (os := os) kn2_len k1.length_eq h
    refine ⟨rfl, L', k1.length_eq, ?_, k4⟩
    unfold OwnK
    rw [k1.length_eq]
    exact k3
end Go.Proofs.YtdejcdmgcckmoaaGreatDoor
namespace Go.Proofs.YtdejcdmgcckmoaaGreatDoor
open Go.RowKit Go.Sort Lr

theorem T44i : SliceTy Tryz.prog 44 3 1 8 (.int .i64 0) := ⟨Tryz.underlying44, by kernel_rfl, rfl, by omega⟩
theorem T187 : SliceTy Tryz.prog 187 188 2 16 (.agg #[.int .i64 0, .int .i64 0]) := ⟨Tryz.underlying187, by kernel_rfl, rfl, by omega⟩
/-- A conflict under way: its block, and the two rows that grow. -/
structure ClX (w : World) (p : Nat) (c0 c1 cK cN : Value) (wr : World) (vK : Value) (K : List Int) (vN : Value) (N : List Int) : Prop where
  blk : wr.heap[p]? = some (.cells #[c0, c1, cK, cN] 57 (0, 0))
  ownK : OwnK int1 1 3 wr w.heap.size vK K
  ownN : OwnK int1 1 3 wr w.heap.size vN N
  dis : ∀ b, vK.ownBlock = some b → vN.ownBlock = some b → False
  new : New w wr
  hp : w.heap.size ≤ p
section
variable {w wr w1 : World} {p : Nat} {c0 c1 cK cN vK vN : Value} {K N : List Int}
theorem ClX.mono (h : ClX w p c0 c1 cK cN wr vK K vN N) (hn : New wr w1) : ClX w p c0 c1 cK cN w1 vK K vN N :=
  ⟨hn.heap h.blk, ownsRow_new h.ownK hn, ownsRow_new h.ownN hn, h.dis, h.new.trans hn, h.hp⟩
theorem ClX.pushK (h : ClX w p c0 c1 cK cN wr vK K vN N) {n : Int} {g cap : Nat} (hown : w1.ownsRow w.heap.size 3 1 (.slice (some ⟨g, 0, none⟩) (K.length + 1) cap) (K.length + 1) (K.flatMap int1 ++ [.int .i64 n])) (hg : wr.grownBy w1 vK.ownBlock) (hat : vK.ownBlock = some g ∨ wr.heap.size ≤ g) :
    ClX w p c0 c1 cK cN w1 (.slice (some ⟨g, 0, none⟩) (K.length + 1) cap) (K ++ [n]) vN N := by
  refine ⟨(hg.block p (lt_of_block h.blk) (fun e => ownBlock_ne h.ownK h.blk (by decide) e.symm)).trans h.blk, by simpa [OwnK, int1] using hown, World.ownsRow.kept h.ownN hg ?_, fun b e1 e2 => ?_, Below.push h.new h.ownK hg h.new.size, h.hp⟩
  · cases hN : vN.ownBlock with
    | none => exact .inl rfl
    | some b => right; intro e; exact h.dis b e.symm hN
  · simp only [Value.ownBlock] at e1
    cases e1
    rcases hat with e | e
    · exact h.dis _ e e2
    · have := (h.ownN.lt _ e2).2; omega
theorem ClX.pushN (h : ClX w p c0 c1 cK cN wr vK K vN N) {n : Int} {g cap : Nat} (hown : w1.ownsRow w.heap.size 3 1 (.slice (some ⟨g, 0, none⟩) (N.length + 1) cap) (N.length + 1) (N.flatMap int1 ++ [.int .i64 n])) (hg : wr.grownBy w1 vN.ownBlock) (hat : vN.ownBlock = some g ∨ wr.heap.size ≤ g) :
    ClX w p c0 c1 cK cN w1 vK K (.slice (some ⟨g, 0, none⟩) (N.length + 1) cap) (N ++ [n]) := by
  refine ⟨(hg.block p (lt_of_block h.blk) (fun e => ownBlock_ne h.ownN h.blk (by decide) e.symm)).trans h.blk, World.ownsRow.kept h.ownK hg ?_, by simpa [OwnK, int1] using hown, fun b e2 e1 => ?_, Below.push h.new h.ownN hg h.new.size, h.hp⟩
  · cases hK : vK.ownBlock with
    | none => exact .inl rfl
    | some b => right; intro e; exact h.dis b hK e.symm
  · simp only [Value.ownBlock] at e1
    cases e1
    rcases hat with e | e
    · exact h.dis _ e2 e
    · have := (h.ownK.lt _ e2).2; omega
theorem ClX.setK (h : ClX w p c0 c1 cK cN wr vK K vN N) (u : Value) : ClX w p c0 c1 u cN (wr.setCell ⟨p, 2, none⟩ u) vK K vN N := by
  refine ⟨?_, ownsRow_setCell_other h.ownK (a := ⟨p, 2, none⟩) (ownBlock_ne h.ownK h.blk (by decide)) _, ownsRow_setCell_other h.ownN (a := ⟨p, 2, none⟩) (ownBlock_ne h.ownN h.blk (by decide)) _, h.dis, h.new.setCell h.hp u, h.hp⟩
  have := set_of_blk h.blk 2 u
  rw [this]; simp
theorem ClX.setN (h : ClX w p c0 c1 cK cN wr vK K vN N) (u : Value) : ClX w p c0 c1 cK u (wr.setCell ⟨p, 3, none⟩ u) vK K vN N := by
  refine ⟨?_, ownsRow_setCell_other h.ownK (a := ⟨p, 3, none⟩) (ownBlock_ne h.ownK h.blk (by decide)) _, ownsRow_setCell_other h.ownN (a := ⟨p, 3, none⟩) (ownBlock_ne h.ownN h.blk (by decide)) _, h.dis, h.new.setCell h.hp u, h.hp⟩
  have := set_of_blk h.blk 3 u
  rw [this]; simp
end
end Go.Proofs.YtdejcdmgcckmoaaGreatDoor
namespace Go.Proofs.YtdejcdmgcckmoaaGreatDoor
open Go.RowKit Go.Sort Lr
/-- What is held while the two rows grow. -/
def SCl (p q : Nat) (vK vN : Value) (x1 x2 : Int) (l : Array Bool) (w : World) : Prop :=
  (l.getD 5 true = false → w.cell? ⟨p, 2, none⟩ = some vK) ∧ (l.getD 11 true = false → w.cell? ⟨p, 3, none⟩ = some vN) ∧ w.cell? ⟨q, 0, none⟩ = some (.int .i64 x1) ∧ w.cell? ⟨q, 1, none⟩ = some (.int .i64 x2)
theorem SCl_set {p q : Nat} {vK vN : Value} {x1 x2 : Int} {i : Nat} (h5 : i ≠ 5) (h11 : i ≠ 11) (l : Array Bool) (w : World) : SCl p q vK vN x1 x2 (l.setIfInBounds i true) w ↔ SCl p q vK vN x1 x2 l w := by
  unfold SCl; rw [getD_set_ne true h5, getD_set_ne true h11]
structure ClY (w : World) (p : Nat) (c0 c1 cK cN : Value) (q : Nat) (x1 x2 : Int) (wr : World) (vK : Value) (K : List Int) (vN : Value) (N : List Int) : Prop where
  x : ClX w p c0 c1 cK cN wr vK K vN N
  bq : wr.heap[q]? = some (.cells #[.int .i64 x1, .int .i64 x2] 188 (0, 0))
section
variable {w wr w1 : World} {p q : Nat} {c0 c1 cK cN vK vN : Value} {x1 x2 : Int} {K N : List Int}
theorem ClY.mono (h : ClY w p c0 c1 cK cN q x1 x2 wr vK K vN N) (hn : New wr w1) : ClY w p c0 c1 cK cN q x1 x2 w1 vK K vN N := ⟨h.x.mono hn, hn.heap h.bq⟩
theorem ClY.S (h : ClY w p c0 c1 cK cN q x1 x2 wr vK K vN N) (l : Array Bool) : SCl p q cK cN x1 x2 l wr :=
  ⟨fun _ => (cell_of_blk h.x.blk 2).trans rfl, fun _ => (cell_of_blk h.x.blk 3).trans rfl, (cell_of_blk h.bq 0).trans rfl, (cell_of_blk h.bq 1).trans rfl⟩
theorem ClY.S1 (h : ClY w p c0 c1 cK cN q x1 x2 wr vK K vN N) {l : Array Bool} (h5 : l.getD 5 true = true) (u : Value) : SCl p q u cN x1 x2 l wr :=
  ⟨fun e => by (rw [h5] at e; cases e), fun _ => (cell_of_blk h.x.blk 3).trans rfl, (cell_of_blk h.bq 0).trans rfl, (cell_of_blk h.bq 1).trans rfl⟩
theorem ClY.S2 (h : ClY w p c0 c1 cK cN q x1 x2 wr vK K vN N) {l : Array Bool} (h5 : l.getD 5 true = true) (h11 : l.getD 11 true = true) (u u' : Value) : SCl p q u u' x1 x2 l wr :=
  ⟨fun e => by (rw [h5] at e; cases e), fun e => by (rw [h11] at e; cases e), (cell_of_blk h.bq 0).trans rfl, (cell_of_blk h.bq 1).trans rfl⟩
theorem ClY.pushK (h : ClY w p c0 c1 cK cN q x1 x2 wr vK K vN N) {n : Int} {g cap : Nat} (hown : w1.ownsRow w.heap.size 3 1 (.slice (some ⟨g, 0, none⟩) (K.length + 1) cap) (K.length + 1) (K.flatMap int1 ++ [.int .i64 n])) (hg : wr.grownBy w1 vK.ownBlock) (hat : vK.ownBlock = some g ∨ wr.heap.size ≤ g) :
    ClY w p c0 c1 cK cN q x1 x2 w1 (.slice (some ⟨g, 0, none⟩) (K.length + 1) cap) (K ++ [n]) vN N :=
  ⟨h.x.pushK hown hg hat, (hg.block q (lt_of_block h.bq) (fun e => ownBlock_ne h.x.ownK h.bq (by decide) e.symm)).trans h.bq⟩
theorem ClY.pushN (h : ClY w p c0 c1 cK cN q x1 x2 wr vK K vN N) {n : Int} {g cap : Nat} (hown : w1.ownsRow w.heap.size 3 1 (.slice (some ⟨g, 0, none⟩) (N.length + 1) cap) (N.length + 1) (N.flatMap int1 ++ [.int .i64 n])) (hg : wr.grownBy w1 vN.ownBlock) (hat : vN.ownBlock = some g ∨ wr.heap.size ≤ g) :
    ClY w p c0 c1 cK cN q x1 x2 w1 vK K (.slice (some ⟨g, 0, none⟩) (N.length + 1) cap) (N ++ [n]) :=
  ⟨h.x.pushN hown hg hat, (hg.block q (lt_of_block h.bq) (fun e => ownBlock_ne h.x.ownN h.bq (by decide) e.symm)).trans h.bq⟩
theorem ClY.cell2 (h : ClY w p c0 c1 cK cN q x1 x2 wr vK K vN N) : wr.cell? ⟨p, 2, none⟩ = some cK := (cell_of_blk h.x.blk 2).trans rfl
theorem ClY.cell3 (h : ClY w p c0 c1 cK cN q x1 x2 wr vK K vN N) : wr.cell? ⟨p, 3, none⟩ = some cN := (cell_of_blk h.x.blk 3).trans rfl
theorem ClY.frz (h : ClY w p c0 c1 cK cN q x1 x2 wr vK K vN N) (o : Nat) : wr.frozen? ⟨p, o, none⟩ = false := by simp [World.frozen?, h.x.blk]
theorem ClY.qp (h : ClY w p c0 c1 cK cN q x1 x2 wr vK K vN N) : q ≠ p := fun e => by
  have h1 := h.x.blk
  rw [← e, h.bq] at h1
  cases h1
theorem heap_set_ne {w : World} {p q o : Nat} (u : Value) (hne : q ≠ p) : (w.setCell ⟨p, o, none⟩ u).heap[q]? = w.heap[q]? := by
  unfold World.setCell
  simp [Array.getElem?_modify, Ne.symm hne]
theorem ClY.setK (h : ClY w p c0 c1 cK cN q x1 x2 wr vK K vN N) (u : Value) : ClY w p c0 c1 u cN q x1 x2 (wr.setCell ⟨p, 2, none⟩ u) vK K vN N := ⟨h.x.setK u, by rw [heap_set_ne u h.qp]; exact h.bq⟩
theorem ClY.setN (h : ClY w p c0 c1 cK cN q x1 x2 wr vK K vN N) (u : Value) : ClY w p c0 c1 cK u q x1 x2 (wr.setCell ⟨p, 3, none⟩ u) vK K vN N := ⟨h.x.setN u, by rw [heap_set_ne u h.qp]; exact h.bq⟩
end
end Go.Proofs.YtdejcdmgcckmoaaGreatDoor
namespace Go.Proofs.YtdejcdmgcckmoaaGreatDoor
open Go.RowKit Go.Sort Lr

set_option maxRecDepth 20000 in
set_option maxHeartbeats 2000000 in
/-- A conflict as data: its state and its terminal, and two rows. -/
theorem clash_any (k : Nat) (s : Str) (vl : Value) (l : List Actn) (w : World) (h : w.ownsRow 0 119 1 vl l.length (l.map Actn.val)) (hs : ∀ x ∈ l, ∀ n, x = .red n → n ≤ 1000000) (hl : l.length ≤ 1000000) :
    Calls Tryz.prog 86 #[.int .i64 (k : Int), sv s, vl] w fun e w' => ∃ x : Cl, e = .returned (.agg (cl4 x).toArray) ∧ x.1 = k ∧ x.2.1 = toldS s ∧ New w w' := by
  obtain ⟨a, cap, rfl⟩ := owns_slice h
  have HH := Lib.hid (And.intro h hs)
  have htd := told_any s
  have HTD := Lib.hid htd
  clear h hs htd
  go_enter Tryz.func86, Tryz.ntmps86
  go_wp2
  have hb0 := heap_alloc_new w (.cells #[.int .i64 0, .string ⟨#[]⟩, .slice none 0 0, .slice none 0 0] 57)
  have hn0 := (New.refl w).alloc (.cells #[.int .i64 0, .string ⟨#[]⟩, .slice none 0 0, .slice none 0 0] 57)
  have H0 := Lib.hid (And.intro hb0 (And.intro hn0 (Nat.le_refl w.heap.size)))
  have hvl : Hid ((w.alloc (.cells #[.int .i64 0, .string ⟨#[]⟩, .slice none 0 0, .slice none 0 0] 57)).ownsRow 0 119 1 (.slice a l.length cap) l.length (l.map Actn.val)) := Lib.hid (ownsRow_new HH.out.1 hn0)
  clear hb0 hn0
  generalize w.alloc (.cells #[.int .i64 0, .string ⟨#[]⟩, .slice none 0 0, .slice none 0 0] 57) = w0 at *
  generalize hr : w.heap.size = r at *
  have Hr := Lib.hid hr
  clear hr
  go_loopg [7, 17] l.length (fun gk u7 u17 wr => ∃ (j : Nat) (L : List KN), j ≤ l.length ∧ gk = l.length - j ∧ u17 = .int .i64 j ∧ OwnK kn2 2 188 wr w0.heap.size u7 L ∧ L.length = j ∧ Hid (New w0 wr))
  case atStart => exact ⟨0, [], Nat.zero_le _, rfl, rfl, OwnK.nil, rfl, Lib.hid (New.refl w0)⟩
  case round =>
    obtain ⟨j, L, hj, rfl, rfl, hown, hLl, hn⟩ := hrel
    subst hLl
    by_cases hlt : L.length < l.length
    · obtain ⟨b, cap', e, hgb, hgB, hcc⟩ := row_ptr hvl.out (by omega)
      cases e
      have hrow := hn.out.cell (hcc L.length l[L.length].val (by simp [hlt]))
      have hki := Lib.hid (fun W => kind_any l[L.length] (HH.out.2 _ (List.getElem_mem hlt)) W)
      clear hcc hgb hgB
      generalize l[L.length] = x at *
      have HO := Lib.hid hown
      have hsz := hn.out.size
      have hn1 := Lib.hid hn.out
      clear hown hn
      go_wp2_with (first | (go_at_call 80; refine (hki.out _).mono ?_; rintro e w' ⟨rfl, rfl⟩) | (at_builtin; go_must (refine wpList_push _ rfl _ _ _ _ rfl T187 w0.heap.size _ _ _ rfl HO.out [_, _] rfl rfl _ _ rfl (by simp) (by omega) (by omega) (by omega) ?_)))
      intro v' w1 hown1 hgrow hne hat
      have hn2 : New w0 w1 := Below.push hn1.out HO.out hgrow hn1.out.size
      have hO2 : OwnK kn2 2 188 w1 w0.heap.size v' (L ++ [x.kd]) := OwnK.push hown1
      have HX := Lib.hid (And.intro hO2 hn2)
      obtain ⟨a10, c10, rfl⟩ := owns_slice hown1
      clear hO2 hn2 hown1 hgrow hne hat
      go_wp2
      go_roundg (l.length - (L.length + 1))
      case measure => omega
      case rel => exact ⟨L.length + 1, L ++ [x.kd], by omega, rfl, by go_num, HX.out.1, by simp, Lib.hid HX.out.2⟩
    · have hq := Lib.hid (SortPai hown (by omega))
      have HO := Lib.hid (And.intro hown hn.out)
      obtain ⟨a3, c3, eo⟩ := owns_slice hown
      subst eo
      clear hown hn
      go_wp2_with fail
      refine hq.out.mono ?_
      rintro e w2 ⟨rfl, L', hLL, hown2, hg2⟩
      have hn2 : New w0 w2 := Below.push HO.out.2 HO.out.1 hg2 HO.out.2.size
      have HS := Lib.hid (And.intro hown2 hn2)
      clear hown2 hg2 hn2
      have hn3 := HS.out.2
      go_wp2_with (first | (go_at_call 52; refine (HTD.out _).mono ?_; rintro e w' ⟨rfl, rfl⟩))
      have hX0 : ClX w2 w2.heap.size (.int .i64 (k : Int)) (sv (toldS s)) (.slice none 0 0) (.slice none 0 0) (w2.alloc (.cells #[.int .i64 (k : Int), sv (toldS s), .slice none 0 0, .slice none 0 0] 57)) (.slice none 0 0) [] (.slice none 0 0) [] :=
        ⟨heap_alloc_new w2 _, OwnK.nil, OwnK.nil, (fun b e => by simp [Value.ownBlock] at e), (New.refl w2).alloc _, Nat.le_refl _⟩
      have HX0 := Lib.hid hX0
      have HR := Lib.hid (RowK.of_owns kn2_len HS.out.1)
      clear hX0 hn3 hq
      have HLL := Lib.hid (show L'.length ≤ 1000000 by omega)
      generalize hpp : w2.heap.size = p at *
      have Hpp := Lib.hid hpp
      clear hpp
      rw [← hLL]
      clear hLL
      go_loopg [41] L'.length (fun gk u41 wr => ∃ (j : Nat) (vK vN : Value) (K N : List Int), j ≤ L'.length ∧ gk = L'.length - j ∧ u41 = .int .i64 j ∧ K.length ≤ j ∧ N.length ≤ j ∧ Hid (ClX w2 p (.int .i64 (k : Int)) (sv (toldS s)) vK vN wr vK K vN N))
      case atStart => exact ⟨0, _, _, [], [], Nat.zero_le _, rfl, rfl, Nat.le_refl _, Nat.le_refl _, HX0⟩
      case round =>
        obtain ⟨j, vK, vN, K, N, hj, rfl, rfl, hK, hN, hX⟩ := hrel
        by_cases hlt : j < L'.length
        · obtain ⟨b, o, e, hcell⟩ := ((RowK.new kn2_len HR.out hX.out.new)).elem hlt
          subst e
          obtain ⟨d1, d2⟩ := elem2 hcell
          simp only [kn2, List.getElem?_cons_zero, List.getElem?_cons_succ] at d1 d2
          generalize L'[j] = x at *
          obtain ⟨x1, x2⟩ := x
          simp only at d1 d2
          obtain ⟨aK, cK, eK⟩ := owns_slice hX.out.ownK
          obtain ⟨aN, cN, eN⟩ := owns_slice hX.out.ownN
          subst eK; subst eN
          have c2 := (cell_of_blk hX.out.blk 2).trans (show (#[_, _, _, _] : Array Value)[2]? = some (.slice aK K.length cK) from rfl)
          have c3 := (cell_of_blk hX.out.blk 3).trans (show (#[_, _, _, _] : Array Value)[3]? = some (.slice aN N.length cN) from rfl)
          clear hcell
          have Y : ClY w2 p (.int .i64 (k : Int)) (sv (toldS s)) (.slice aK K.length cK) (.slice aN N.length cN) wr.heap.size x1 x2 (wr.alloc (.cells #[.int .i64 x1, .int .i64 x2] 188)) (.slice aK K.length cK) K (.slice aN N.length cN) N := ⟨hX.out.mono ((New.refl wr).alloc _), heap_alloc_new wr _⟩
          have HY := Lib.hid Y
          clear Y hX
          have hls := HLL.out
          go_wp2_with fail
          have Y := HY.out
          clear HY d1 d2 c2 c3
          generalize wr.heap.size = q at *
          generalize wr.alloc (.cells #[.int .i64 x1, .int .i64 x2] 188) = W at *
--R13
          refine wp_region_G (S := SCl p q (.slice aK K.length cK) (.slice aN N.length cN) x1 x2) (by kernel_rfl) ?_
          have y0 := Y.mono ((New.refl _).drewN 1)
          change ClY _ _ _ _ _ _ _ _ _ W.drew _ _ _ _ at y0
          clear Y
          generalize W.drew = W0 at *
          refine wpAnyG_take 1 (i := 0) (v := ?_) rfl (by kernel_rfl) (by kernel_rfl) (by kernel_rfl) (fun _ _ _ h => h) (waits_of (by kernel_rfl)) (fun l w h => (SCl_set (by decide) (by decide) l w).1 h) (fun l w h => (SCl_set (by decide) (by decide) l w).2 h) (by kernel_rfl) (Or.inl ⟨by rfl, ?_⟩) (y0.S _) ?_
          rotate_left
          · (intro w hSw; obtain ⟨l, hl, s5, s11, s0, s1⟩ := hSw; clear hl; go_simp; try with_reducible rfl)
          try simp only [Act.put, List.setIfInBounds_toArray]
          refine wpAnyG_take 5 (i := 1) (v := ?_) rfl (by kernel_rfl) (by kernel_rfl) (by kernel_rfl) (fun _ _ _ h => h) (waits_of (by kernel_rfl)) (fun l w h => (SCl_set (by decide) (by decide) l w).1 h) (fun l w h => (SCl_set (by decide) (by decide) l w).2 h) (by kernel_rfl) (Or.inl ⟨by rfl, ?_⟩) (y0.S _) ?_
          rotate_left
          · (intro w hSw; obtain ⟨l, hl, s5, s11, s0, s1⟩ := hSw; have s5 := s5 hl; clear hl; go_simp; try with_reducible rfl)
          try simp only [Act.put]
          refine wpAnyG_take 3 (i := 2) (v := ?_) rfl (by kernel_rfl) (by kernel_rfl) (by kernel_rfl) (fun _ _ _ h => h) (waits_of (by kernel_rfl)) (fun l w h => (SCl_set (by decide) (by decide) l w).1 h) (fun l w h => (SCl_set (by decide) (by decide) l w).2 h) (by kernel_rfl) (Or.inl ⟨by rfl, ?_⟩) (y0.S _) ?_
          rotate_left
          · (intro w hSw; obtain ⟨l, hl, s5, s11, s0, s1⟩ := hSw; clear hl; go_simp; try with_reducible rfl)
          try simp only [Act.put]
          refine wpAnyG_take 4 (i := 3) (v := ?_) rfl (by kernel_rfl) (by kernel_rfl) (by kernel_rfl) (fun _ _ _ h => h) (waits_of (by kernel_rfl)) (fun l w h => (SCl_set (by decide) (by decide) l w).1 h) (fun l w h => (SCl_set (by decide) (by decide) l w).2 h) (by kernel_rfl) (Or.inl ⟨by rfl, ?_⟩) (y0.S _) ?_
          rotate_left
          · (intro w hSw; obtain ⟨l, hl, s5, s11, s0, s1⟩ := hSw; clear hl; go_simp; try with_reducible rfl)
          try simp only [Act.put]
          refine wpAnyG_take 7 (i := 6) (v := ?_) rfl (by kernel_rfl) (by kernel_rfl) (by kernel_rfl) (fun _ _ _ h => h) (waits_of (by kernel_rfl)) (fun l w h => (SCl_set (by decide) (by decide) l w).1 h) (fun l w h => (SCl_set (by decide) (by decide) l w).2 h) (by kernel_rfl) (Or.inl ⟨by rfl, ?_⟩) (y0.S _) ?_
          rotate_left
          · (intro w hSw; obtain ⟨l, hl, s5, s11, s0, s1⟩ := hSw; clear hl; go_simp; try with_reducible rfl)
          try simp only [Act.put]
          refine wpAnyG_take 11 (i := 7) (v := ?_) rfl (by kernel_rfl) (by kernel_rfl) (by kernel_rfl) (fun _ _ _ h => h) (waits_of (by kernel_rfl)) (fun l w h => (SCl_set (by decide) (by decide) l w).1 h) (fun l w h => (SCl_set (by decide) (by decide) l w).2 h) (by kernel_rfl) (Or.inl ⟨by rfl, ?_⟩) (y0.S _) ?_
          rotate_left
          · (intro w hSw; obtain ⟨l, hl, s5, s11, s0, s1⟩ := hSw; have s11 := s11 hl; clear hl; go_simp; try with_reducible rfl)
          try simp only [Act.put]
          refine wpAnyG_take 9 (i := 8) (v := ?_) rfl (by kernel_rfl) (by kernel_rfl) (by kernel_rfl) (fun _ _ _ h => h) (waits_of (by kernel_rfl)) (fun l w h => (SCl_set (by decide) (by decide) l w).1 h) (fun l w h => (SCl_set (by decide) (by decide) l w).2 h) (by kernel_rfl) (Or.inl ⟨by rfl, ?_⟩) (y0.S _) ?_
          rotate_left
          · (intro w hSw; obtain ⟨l, hl, s5, s11, s0, s1⟩ := hSw; clear hl; go_simp; try with_reducible rfl)
          try simp only [Act.put]
          refine wpAnyG_take 10 (i := 9) (v := ?_) rfl (by kernel_rfl) (by kernel_rfl) (by kernel_rfl) (fun _ _ _ h => h) (waits_of (by kernel_rfl)) (fun l w h => (SCl_set (by decide) (by decide) l w).1 h) (fun l w h => (SCl_set (by decide) (by decide) l w).2 h) (by kernel_rfl) (Or.inl ⟨by rfl, ?_⟩) (y0.S _) ?_
          rotate_left
          · (intro w hSw; obtain ⟨l, hl, s5, s11, s0, s1⟩ := hSw; clear hl; go_simp; try with_reducible rfl)
          try simp only [Act.put]
          refine wpAnyG_ready (rs := [4, 10]) (by kernel_rfl) (by simp) ?_
          refine AllG.cons rfl (fun K' hK => ?_) ?_
          ·
            go_simp
            have y1_4 := y0.mono ((New.refl W0).alloc (.cells #[.int .i64 x1] 3))
            refine hK.out _ _ (y1_4.S _) ?_
            clear hK K'
            try simp only [Act.put, List.setIfInBounds_toArray, List.set_cons_zero, List.set_cons_succ]
            have hb1_4 : (W0.alloc (.cells #[.int .i64 x1] 3)).heap[W0.heap.size]? = some (.cells #[.int .i64 x1] 3 (0, 0)) := heap_alloc_new W0 _
            generalize W0.heap.size = b1_4 at *
            generalize W0.alloc (.cells #[.int .i64 x1] 3) = w1_4 at *
            refine wpAnyG_ready (rs := [5, 10]) (by kernel_rfl) (by simp) ?_
            refine AllG.cons rfl (fun K' hK => ?_) ?_
            ·
              refine step_push (by rfl) _ _ _ _ (by rfl) T44i w2.heap.size (.slice aK K.length cK) _ _ (by rfl) (y1_4.x.ownK) [_] (by rfl) (by rfl) _ b1_4 (by rfl) (0, 0) hb1_4 (by omega) (by omega) (y1_4.x.new.size) ?_
              intro g2_5 q2_5 w2_5 hown hgrow hat
              have y2_5 := y1_4.pushK hown hgrow hat
              refine hK.out _ _ (y2_5.S1 (by rfl) _) ?_
              clear hK K' hown hgrow hat
              try simp only [Act.put, List.setIfInBounds_toArray]
              refine wpAnyG_take 13 (i := 12) (v := ?_) rfl (by kernel_rfl) (by kernel_rfl) (by kernel_rfl) (fun _ _ _ h => h) (waits_of (by kernel_rfl)) (fun l w h => (SCl_set (by decide) (by decide) l w).1 h) (fun l w h => (SCl_set (by decide) (by decide) l w).2 h) (by kernel_rfl) (Or.inl ⟨by rfl, ?_⟩) (y2_5.S1 (by rfl) _) ?_
              rotate_left
              · (intro w hSw; obtain ⟨l, hl, s5, s11, s0, s1⟩ := hSw; clear hl; go_simp; try with_reducible rfl)
              try simp only [Act.put]
              refine wpAnyG_ready (rs := [10]) (by kernel_rfl) (by simp) ?_
              refine AllG.cons rfl (fun K' hK => ?_) ?_
              ·
                go_simp
                have y3_10 := y2_5.mono ((New.refl w2_5).alloc (.cells #[.int .i64 x2] 3))
                refine hK.out _ _ (y3_10.S1 (by rfl) _) ?_
                clear hK K'
                try simp only [Act.put, List.setIfInBounds_toArray, List.set_cons_zero, List.set_cons_succ]
                have hb3_10 : (w2_5.alloc (.cells #[.int .i64 x2] 3)).heap[w2_5.heap.size]? = some (.cells #[.int .i64 x2] 3 (0, 0)) := heap_alloc_new w2_5 _
                have hb1_4 := keep_alloc (O := .cells #[.int .i64 x2] 3) hb1_4
                generalize w2_5.heap.size = b3_10 at *
                generalize w2_5.alloc (.cells #[.int .i64 x2] 3) = w3_10 at *
                refine wpAnyG_ready (rs := [11]) (by kernel_rfl) (by simp) ?_
                refine AllG.cons rfl (fun K' hK => ?_) ?_
                ·
                  refine step_push (by rfl) _ _ _ _ (by rfl) T44i w2.heap.size (.slice aN N.length cN) _ _ (by rfl) (y3_10.x.ownN) [_] (by rfl) (by rfl) _ b3_10 (by rfl) (0, 0) hb3_10 (by omega) (by omega) (y3_10.x.new.size) ?_
                  intro g4_11 q4_11 w4_11 hown hgrow hat
                  have y4_11 := y3_10.pushN hown hgrow hat
                  refine hK.out _ _ (y4_11.S2 (by rfl) (by rfl) _ _) ?_
                  clear hK K' hown hgrow hat
                  try simp only [Act.put, List.setIfInBounds_toArray]
                  refine wpAnyG_ready (rs := [13]) (by kernel_rfl) (by simp) ?_
                  refine AllG.cons rfl (fun K' hK => ?_) ?_
                  ·
                    have k1 := y4_11.cell2
                    have k2 := y4_11.frz 2
                    go_simp
                    have y5_13 := y4_11.setK (.slice (some ⟨g2_5, 0, none⟩) (K.length + 1) q2_5)
                    refine hK.out _ _ (y5_13.S2 (by rfl) (by rfl) _ _) ?_
                    clear hK K' k1 k2
                    try simp only [Act.put, List.setIfInBounds_toArray, List.set_cons_zero, List.set_cons_succ]
                    refine wpAnyG_take 15 (i := 14) (v := ?_) rfl (by kernel_rfl) (by kernel_rfl) (by kernel_rfl) (fun _ _ _ h => h) (waits_of (by kernel_rfl)) (fun l w h => (SCl_set (by decide) (by decide) l w).1 h) (fun l w h => (SCl_set (by decide) (by decide) l w).2 h) (by kernel_rfl) (Or.inl ⟨by rfl, ?_⟩) (y5_13.S2 (by rfl) (by rfl) _ _) ?_
                    rotate_left
                    · (intro w hSw; obtain ⟨l, hl, s5, s11, s0, s1⟩ := hSw; clear hl; go_simp; try with_reducible rfl)
                    try simp only [Act.put, List.setIfInBounds_toArray]
                    refine wpAnyG_ready (rs := [15]) (by kernel_rfl) (by simp) ?_
                    refine AllG.cons rfl (fun K' hK => ?_) ?_
                    ·
                      have k1 := y5_13.cell3
                      have k2 := y5_13.frz 3
                      go_simp
                      have y6_15 := y5_13.setN (.slice (some ⟨g4_11, 0, none⟩) (N.length + 1) q4_11)
                      refine hK.out _ _ (y6_15.S2 (by rfl) (by rfl) _ _) ?_
                      clear hK K' k1 k2
                      try simp only [Act.put, List.setIfInBounds_toArray, List.set_cons_zero, List.set_cons_succ]
                      refine wpAnyG_done (by kernel_rfl) ?_ _
                      have HZ := Lib.hid y6_15.x
                      go_wp2
                      go_roundg (L'.length - (j + 1))
                      case measure => omega
                      case rel => exact ⟨j + 1, _, _, _, _, by omega, rfl, by go_num, by simp; omega, by simp; omega, HZ⟩
                    exact AllG.nil
                  exact AllG.nil
                exact AllG.nil
              exact AllG.nil
            refine AllG.cons rfl (fun K' hK => ?_) ?_
            ·
              go_simp
              have y2_10 := y1_4.mono ((New.refl w1_4).alloc (.cells #[.int .i64 x2] 3))
              refine hK.out _ _ (y2_10.S _) ?_
              clear hK K'
              try simp only [Act.put, List.setIfInBounds_toArray, List.set_cons_zero, List.set_cons_succ]
              have hb2_10 : (w1_4.alloc (.cells #[.int .i64 x2] 3)).heap[w1_4.heap.size]? = some (.cells #[.int .i64 x2] 3 (0, 0)) := heap_alloc_new w1_4 _
              have hb1_4 := keep_alloc (O := .cells #[.int .i64 x2] 3) hb1_4
              have nb2_10 : ∀ k, (Value.slice aK K.length cK).ownBlock = some k → k ≠ w1_4.heap.size := fun k e => Nat.ne_of_lt (y1_4.x.ownK.lt k e).2
              generalize w1_4.heap.size = b2_10 at *
              generalize w1_4.alloc (.cells #[.int .i64 x2] 3) = w2_10 at *
              refine wpAnyG_ready (rs := [5]) (by kernel_rfl) (by simp) ?_
              refine AllG.cons rfl (fun K' hK => ?_) ?_
              ·
                refine step_push (by rfl) _ _ _ _ (by rfl) T44i w2.heap.size (.slice aK K.length cK) _ _ (by rfl) (y2_10.x.ownK) [_] (by rfl) (by rfl) _ b1_4 (by rfl) (0, 0) hb1_4 (by omega) (by omega) (y2_10.x.new.size) ?_
                intro g3_5 q3_5 w3_5 hown hgrow hat
                have y3_5 := y2_10.pushK hown hgrow hat
                have hb2_10 := (hgrow.block b2_10 (lt_of_block hb2_10) (fun e => nb2_10 _ e.symm rfl)).trans hb2_10
                refine hK.out _ _ (y3_5.S1 (by rfl) _) ?_
                clear hK K' hown hgrow hat
                try simp only [Act.put, List.setIfInBounds_toArray]
                refine wpAnyG_take 13 (i := 12) (v := ?_) rfl (by kernel_rfl) (by kernel_rfl) (by kernel_rfl) (fun _ _ _ h => h) (waits_of (by kernel_rfl)) (fun l w h => (SCl_set (by decide) (by decide) l w).1 h) (fun l w h => (SCl_set (by decide) (by decide) l w).2 h) (by kernel_rfl) (Or.inl ⟨by rfl, ?_⟩) (y3_5.S1 (by rfl) _) ?_
                rotate_left
                · (intro w hSw; obtain ⟨l, hl, s5, s11, s0, s1⟩ := hSw; clear hl; go_simp; try with_reducible rfl)
                try simp only [Act.put]
                refine wpAnyG_ready (rs := [11]) (by kernel_rfl) (by simp) ?_
                refine AllG.cons rfl (fun K' hK => ?_) ?_
                ·
                  refine step_push (by rfl) _ _ _ _ (by rfl) T44i w2.heap.size (.slice aN N.length cN) _ _ (by rfl) (y3_5.x.ownN) [_] (by rfl) (by rfl) _ b2_10 (by rfl) (0, 0) hb2_10 (by omega) (by omega) (y3_5.x.new.size) ?_
                  intro g4_11 q4_11 w4_11 hown hgrow hat
                  have y4_11 := y3_5.pushN hown hgrow hat
                  refine hK.out _ _ (y4_11.S2 (by rfl) (by rfl) _ _) ?_
                  clear hK K' hown hgrow hat
                  try simp only [Act.put]
                  refine wpAnyG_ready (rs := [13]) (by kernel_rfl) (by simp) ?_
                  refine AllG.cons rfl (fun K' hK => ?_) ?_
                  ·
                    have k1 := y4_11.cell2
                    have k2 := y4_11.frz 2
                    go_simp
                    have y5_13 := y4_11.setK (.slice (some ⟨g3_5, 0, none⟩) (K.length + 1) q3_5)
                    refine hK.out _ _ (y5_13.S2 (by rfl) (by rfl) _ _) ?_
                    clear hK K' k1 k2
                    try simp only [Act.put, List.setIfInBounds_toArray, List.set_cons_zero, List.set_cons_succ]
                    refine wpAnyG_take 15 (i := 14) (v := ?_) rfl (by kernel_rfl) (by kernel_rfl) (by kernel_rfl) (fun _ _ _ h => h) (waits_of (by kernel_rfl)) (fun l w h => (SCl_set (by decide) (by decide) l w).1 h) (fun l w h => (SCl_set (by decide) (by decide) l w).2 h) (by kernel_rfl) (Or.inl ⟨by rfl, ?_⟩) (y5_13.S2 (by rfl) (by rfl) _ _) ?_
                    rotate_left
                    · (intro w hSw; obtain ⟨l, hl, s5, s11, s0, s1⟩ := hSw; clear hl; go_simp; try with_reducible rfl)
                    try simp only [Act.put, List.setIfInBounds_toArray]
                    refine wpAnyG_ready (rs := [15]) (by kernel_rfl) (by simp) ?_
                    refine AllG.cons rfl (fun K' hK => ?_) ?_
                    ·
                      have k1 := y5_13.cell3
                      have k2 := y5_13.frz 3
                      go_simp
                      have y6_15 := y5_13.setN (.slice (some ⟨g4_11, 0, none⟩) (N.length + 1) q4_11)
                      refine hK.out _ _ (y6_15.S2 (by rfl) (by rfl) _ _) ?_
                      clear hK K' k1 k2
                      try simp only [Act.put, List.setIfInBounds_toArray, List.set_cons_zero, List.set_cons_succ]
                      refine wpAnyG_done (by kernel_rfl) ?_ _
                      have HZ := Lib.hid y6_15.x
                      go_wp2
                      go_roundg (L'.length - (j + 1))
                      case measure => omega
                      case rel => exact ⟨j + 1, _, _, _, _, by omega, rfl, by go_num, by simp; omega, by simp; omega, HZ⟩
                    exact AllG.nil
                  exact AllG.nil
                exact AllG.nil
              exact AllG.nil
            exact AllG.nil
          refine AllG.cons rfl (fun K' hK => ?_) ?_
          ·
            go_simp
            have y1_10 := y0.mono ((New.refl W0).alloc (.cells #[.int .i64 x2] 3))
            refine hK.out _ _ (y1_10.S _) ?_
            clear hK K'
            try simp only [Act.put, List.setIfInBounds_toArray, List.set_cons_zero, List.set_cons_succ]
            have hb1_10 : (W0.alloc (.cells #[.int .i64 x2] 3)).heap[W0.heap.size]? = some (.cells #[.int .i64 x2] 3 (0, 0)) := heap_alloc_new W0 _
            have nb1_10 : ∀ k, (Value.slice aK K.length cK).ownBlock = some k → k ≠ W0.heap.size := fun k e => Nat.ne_of_lt (y0.x.ownK.lt k e).2
            generalize W0.heap.size = b1_10 at *
            generalize W0.alloc (.cells #[.int .i64 x2] 3) = w1_10 at *
            refine wpAnyG_ready (rs := [4]) (by kernel_rfl) (by simp) ?_
            refine AllG.cons rfl (fun K' hK => ?_) ?_
            ·
              go_simp
              have y2_4 := y1_10.mono ((New.refl w1_10).alloc (.cells #[.int .i64 x1] 3))
              refine hK.out _ _ (y2_4.S _) ?_
              clear hK K'
              try simp only [Act.put, List.setIfInBounds_toArray, List.set_cons_zero, List.set_cons_succ]
              have hb2_4 : (w1_10.alloc (.cells #[.int .i64 x1] 3)).heap[w1_10.heap.size]? = some (.cells #[.int .i64 x1] 3 (0, 0)) := heap_alloc_new w1_10 _
              have hb1_10 := keep_alloc (O := .cells #[.int .i64 x1] 3) hb1_10
              generalize w1_10.heap.size = b2_4 at *
              generalize w1_10.alloc (.cells #[.int .i64 x1] 3) = w2_4 at *
              refine wpAnyG_ready (rs := [5]) (by kernel_rfl) (by simp) ?_
              refine AllG.cons rfl (fun K' hK => ?_) ?_
              ·
                refine step_push (by rfl) _ _ _ _ (by rfl) T44i w2.heap.size (.slice aK K.length cK) _ _ (by rfl) (y2_4.x.ownK) [_] (by rfl) (by rfl) _ b2_4 (by rfl) (0, 0) hb2_4 (by omega) (by omega) (y2_4.x.new.size) ?_
                intro g3_5 q3_5 w3_5 hown hgrow hat
                have y3_5 := y2_4.pushK hown hgrow hat
                have hb1_10 := (hgrow.block b1_10 (lt_of_block hb1_10) (fun e => nb1_10 _ e.symm rfl)).trans hb1_10
                refine hK.out _ _ (y3_5.S1 (by rfl) _) ?_
                clear hK K' hown hgrow hat
                try simp only [Act.put, List.setIfInBounds_toArray]
                refine wpAnyG_take 13 (i := 12) (v := ?_) rfl (by kernel_rfl) (by kernel_rfl) (by kernel_rfl) (fun _ _ _ h => h) (waits_of (by kernel_rfl)) (fun l w h => (SCl_set (by decide) (by decide) l w).1 h) (fun l w h => (SCl_set (by decide) (by decide) l w).2 h) (by kernel_rfl) (Or.inl ⟨by rfl, ?_⟩) (y3_5.S1 (by rfl) _) ?_
                rotate_left
                · (intro w hSw; obtain ⟨l, hl, s5, s11, s0, s1⟩ := hSw; clear hl; go_simp; try with_reducible rfl)
                try simp only [Act.put]
                refine wpAnyG_ready (rs := [11]) (by kernel_rfl) (by simp) ?_
                refine AllG.cons rfl (fun K' hK => ?_) ?_
                ·
                  refine step_push (by rfl) _ _ _ _ (by rfl) T44i w2.heap.size (.slice aN N.length cN) _ _ (by rfl) (y3_5.x.ownN) [_] (by rfl) (by rfl) _ b1_10 (by rfl) (0, 0) hb1_10 (by omega) (by omega) (y3_5.x.new.size) ?_
                  intro g4_11 q4_11 w4_11 hown hgrow hat
                  have y4_11 := y3_5.pushN hown hgrow hat
                  refine hK.out _ _ (y4_11.S2 (by rfl) (by rfl) _ _) ?_
                  clear hK K' hown hgrow hat
                  try simp only [Act.put]
                  refine wpAnyG_ready (rs := [13]) (by kernel_rfl) (by simp) ?_
                  refine AllG.cons rfl (fun K' hK => ?_) ?_
                  ·
                    have k1 := y4_11.cell2
                    have k2 := y4_11.frz 2
                    go_simp
                    have y5_13 := y4_11.setK (.slice (some ⟨g3_5, 0, none⟩) (K.length + 1) q3_5)
                    refine hK.out _ _ (y5_13.S2 (by rfl) (by rfl) _ _) ?_
                    clear hK K' k1 k2
                    try simp only [Act.put, List.setIfInBounds_toArray, List.set_cons_zero, List.set_cons_succ]
                    refine wpAnyG_take 15 (i := 14) (v := ?_) rfl (by kernel_rfl) (by kernel_rfl) (by kernel_rfl) (fun _ _ _ h => h) (waits_of (by kernel_rfl)) (fun l w h => (SCl_set (by decide) (by decide) l w).1 h) (fun l w h => (SCl_set (by decide) (by decide) l w).2 h) (by kernel_rfl) (Or.inl ⟨by rfl, ?_⟩) (y5_13.S2 (by rfl) (by rfl) _ _) ?_
                    rotate_left
                    · (intro w hSw; obtain ⟨l, hl, s5, s11, s0, s1⟩ := hSw; clear hl; go_simp; try with_reducible rfl)
                    try simp only [Act.put, List.setIfInBounds_toArray]
                    refine wpAnyG_ready (rs := [15]) (by kernel_rfl) (by simp) ?_
                    refine AllG.cons rfl (fun K' hK => ?_) ?_
                    ·
                      have k1 := y5_13.cell3
                      have k2 := y5_13.frz 3
                      go_simp
                      have y6_15 := y5_13.setN (.slice (some ⟨g4_11, 0, none⟩) (N.length + 1) q4_11)
                      refine hK.out _ _ (y6_15.S2 (by rfl) (by rfl) _ _) ?_
                      clear hK K' k1 k2
                      try simp only [Act.put, List.setIfInBounds_toArray, List.set_cons_zero, List.set_cons_succ]
                      refine wpAnyG_done (by kernel_rfl) ?_ _
                      have HZ := Lib.hid y6_15.x
                      go_wp2
                      go_roundg (L'.length - (j + 1))
                      case measure => omega
                      case rel => exact ⟨j + 1, _, _, _, _, by omega, rfl, by go_num, by simp; omega, by simp; omega, HZ⟩
                    exact AllG.nil
                  exact AllG.nil
                exact AllG.nil
              exact AllG.nil
            exact AllG.nil
          exact AllG.nil
--R13E
        · have hn6 := HS.out.2.trans hX.out.new
          have hb6 := hn6.heap H0.out.1
          have e0 := cell_of_blk hb6 0
          have e1 := cell_of_blk hb6 1
          have e2 := cell_of_blk hb6 2
          have e3 := cell_of_blk hb6 3
          have f0 := free_of_blk hb6
          obtain ⟨aK, cK, eK⟩ := owns_slice hX.out.ownK
          obtain ⟨aN, cN, eN⟩ := owns_slice hX.out.ownN
          subst eK; subst eN
          have d0 := cell_of_blk hX.out.blk 0
          have d1 := cell_of_blk hX.out.blk 1
          have d2 := cell_of_blk hX.out.blk 2
          have d3 := cell_of_blk hX.out.blk 3
          simp only [List.getElem?_toArray, List.getElem?_cons_zero, List.getElem?_cons_succ] at d0 d1 d2 d3 e0 e1 e2 e3
          have hrl := lt_of_block H0.out.1
          have HN := Lib.hid hn6
          have hsz6 := hX.out.new.size
          have hsz7 := HS.out.2.size
          clear hX hn6 hb6
          go_wp2_with fail
          have hb7 := set_of_blk (set_of_blk (set_of_blk (set_of_blk (HN.out.heap H0.out.1) 0 (.int .i64 (k : Int))) 1 (sv (toldS s))) 2 (.slice aK K.length cK)) 3 (.slice aN N.length cN)
          have hn7 : New w ((((wr.setCell ⟨r, 0, none⟩ (.int .i64 (k : Int))).setCell ⟨r, 1, none⟩ (sv (toldS s))).setCell ⟨r, 2, none⟩ (.slice aK K.length cK)).setCell ⟨r, 3, none⟩ (.slice aN N.length cN)) := by
            have h1 := H0.out.2.1.trans HN.out
            have h2 : w.heap.size ≤ r := Nat.le_of_eq Hr.out
            exact (((h1.setCell (a := ⟨r, 0, none⟩) h2 _).setCell (a := ⟨r, 1, none⟩) h2 _).setCell (a := ⟨r, 2, none⟩) h2 _).setCell (a := ⟨r, 3, none⟩) h2 _
          change New w ((((wr.setCell ⟨r, 0, none⟩ (.int .i64 (k : Int))).setCell ⟨r, 1, none⟩ (.string ⟨(toldS s).toArray⟩)).setCell ⟨r, 2, none⟩ (.slice aK K.length cK)).setCell ⟨r, 3, none⟩ (.slice aN N.length cN)) at hn7
          change ((((wr.setCell ⟨r, 0, none⟩ (.int .i64 (k : Int))).setCell ⟨r, 1, none⟩ (.string ⟨(toldS s).toArray⟩)).setCell ⟨r, 2, none⟩ (.slice aK K.length cK)).setCell ⟨r, 3, none⟩ (.slice aN N.length cN)).heap[r]? = _ at hb7
          generalize ((((wr.setCell ⟨r, 0, none⟩ (.int .i64 (k : Int))).setCell ⟨r, 1, none⟩ (.string ⟨(toldS s).toArray⟩)).setCell ⟨r, 2, none⟩ (.slice aK K.length cK)).setCell ⟨r, 3, none⟩ (.slice aN N.length cN)) = W7 at *
          (try simp only [Exit.inBlock, Exit.then])
          refine bodyPost_ret (results_cell_row rfl _ _ r 57 _ (0, 0) _ rfl hb7 Tryz.underlying57 rfl (by kernel_rfl)) rfl ?_
          exact ⟨(k, toldS s, (aK, K.length, cK), (aN, N.length, cN)), rfl, rfl, rfl, hn7⟩
end Go.Proofs.YtdejcdmgcckmoaaGreatDoor
