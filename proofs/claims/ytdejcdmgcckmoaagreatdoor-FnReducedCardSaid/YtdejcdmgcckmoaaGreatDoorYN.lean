/- Sets of items in memory. -/
import Derived.Test.YtdejcdmgcckmoaaGreatDoorYM
import Derived.Deep.LoopGhost
import Derived.Test.YtdejcdmgcckmoaaGreatDoorYH
import Derived.Test.YtdejcdmgcckmoaaGreatDoorYJ
namespace Go.Proofs.YtdejcdmgcckmoaaGreatDoor
open Go.RowKit Lr

def idxI : Option Nat → Nat
  | none => 0
  | some n => n + 1
def apOf (g : Gram) : Option Nat → AP
  | none => (startS, [.nt (Lr.start g)])
  | some n => ((g[n]?.getD ([], [])).1, bodyS g (g[n]?.getD ([], [])).2)
/-- A production that the grammar has, or the start's. -/
def PrdOk (g : Gram) (q : Option Nat) : Prop := ∀ n, q = some n → n < g.length
theorem apOf_get {g : Gram} {q : Option Nat} (h : PrdOk g q) : (augP g)[idxI q]? = some (apOf g q) := by
  cases q with
  | none => rfl
  | some n =>
    have hn := h n rfl
    show (g.map fun p => (p.1, bodyS g p.2))[n]? = _
    rw [List.getElem?_map, List.getElem?_eq_getElem hn]
    simp [apOf, List.getElem?_eq_getElem hn]
theorem apOf_head (g : Gram) (q : Option Nat) : (apOf g q).1 = headI g q := by cases q <;> rfl
theorem apOf_body {g : Gram} (q : Option Nat) : (Lr.body g q = [] → (apOf g q).2 = [.em]) ∧ (Lr.body g q ≠ [] → (apOf g q).2.map Sy.str = Lr.body g q) := by
  cases q with
  | none => exact ⟨fun h => by simp [Lr.body] at h, fun _ => rfl⟩
  | some n =>
    show ((g[n]?.getD ([], [])).2 = [] → bodyS g (g[n]?.getD ([], [])).2 = _) ∧ ((g[n]?.getD ([], [])).2 ≠ [] → (bodyS g (g[n]?.getD ([], [])).2).map Sy.str = (g[n]?.getD ([], [])).2)
    rw [body_strs]
    refine ⟨fun h => by rw [h]; rfl, fun h => by rw [if_neg h]⟩

/-- An item of the grammar in its block; its production lies in w0. -/
def ItAt (g : Gram) (w0 w : World) (b : Nat) (i : Itm) : Prop := ∃ pr, ItemBlk w b (idxI i.prod) pr (headI g i.prod) (Lr.body g i.prod) i.dot (untold i.look) ∧ ProdPtr w0 pr (apOf g i.prod)
theorem ItAt.kp {g : Gram} {w0 w w' : World} {b : Nat} {i : Itm} (h : ItAt g w0 w b i) (hk : Kp w w') : ItAt g w0 w' b i := by
  obtain ⟨pr, h1, h2⟩ := h
  exact ⟨pr, h1.kp hk, h2⟩
theorem ItAt.new {g : Gram} {w0 w w' : World} {b : Nat} {i : Itm} (h : ItAt g w0 w b i) (hn : New w w') : ItAt g w0 w' b i := h.kp (Kp.of_new hn)

theorem body_len {g : Gram} (hm : Sm g) (q : Option Nat) : (Lr.body g q).length ≤ 4 := by
  cases q with
  | none => simp [Lr.body]
  | some n =>
    show ((g[n]?.getD ([], [])).2).length ≤ 4
    cases hn : g[n]? with
    | none => simp
    | some p => exact hm.body p (List.mem_of_getElem? hn)
theorem headI_len {g : Gram} (hm : Sm g) (q : Option Nat) : (headI g q).length ≤ 4 := by
  cases q with
  | none => show startS.length ≤ 4; decide
  | some n =>
    show ((g[n]?.getD ([], [])).1).length ≤ 4
    cases hn : g[n]? with
    | none => simp
    | some p => exact symbolOk_le (hm.head p (List.mem_of_getElem? hn)).1
theorem bodyI_ok {g : Gram} (hm : Sm g) (q : Option Nat) : ∀ s ∈ Lr.body g q, symbolOkB s = true := by
  intro s hs
  rcases body_sym hs with rfl | ⟨p, hp, h⟩
  · rw [start_get hm.pos]; exact (hm.head _ (List.getElem_mem hm.pos)).1
  · exact hm.sym p hp s h
/-- NewItem, of a grammar's item. -/
theorem NewItem_any {g : Gram} (hm : Sm g) {w0 w : World} {pr : Value} (i : Itm) (hp : ProdPtr w0 pr (apOf g i.prod)) (hn : New w0 w) (hd : i.dot ≤ (Lr.body g i.prod).length) (hl : i.look.length ≤ 4) :
    Calls Tryz.prog 180 #[.int .i64 (idxI i.prod), pr, .int .i64 i.dot, sv (untold i.look)] w fun e w' => ∃ p, e = .returned (.pointer (some ⟨p, 0, none⟩)) ∧ w.heap.size ≤ p ∧ ItAt g w0 w' p i ∧ New w w' := by
  have hp' := hp.new hn
  obtain ⟨b, q, a, c, rfl, h1, h2, h3, h4⟩ := hp'
  have hul : (untold i.look).length ≤ 1000 := by
    unfold untold
    split
    · decide
    · omega
  have hhl : (apOf g i.prod).1.length ≤ 1000 := by rw [apOf_head]; exact Nat.le_trans (headI_len hm _) (by omega)
  by_cases hb : Lr.body g i.prod = []
  · have hd0 : i.dot = 0 := by rw [hb] at hd; simpa using hd
    have e1 := (apOf_body (g := g) i.prod).1 hb
    rw [e1] at h3 h4
    have := NewItem_empty (idx := idxI i.prod) (look := untold i.look) h1 h2 h3 h4 hhl hul
    rw [hd0]
    refine this.mono ?_
    rintro e w' ⟨p, he, hpp, hib, hnw⟩
    refine ⟨p, he, hpp, ⟨_, ?_, hp⟩, hnw⟩
    rw [hb, hd0, ← apOf_head]
    exact hib
  · have e1 := (apOf_body (g := g) i.prod).2 hb
    have hlen : (apOf g i.prod).2.length = (Lr.body g i.prod).length := by rw [← e1, List.length_map]
    have h0 : 0 < (apOf g i.prod).2.length := by rw [hlen]; exact List.length_pos_iff.2 hb
    have hbl := body_len hm i.prod
    have hsy : ∀ s ∈ (apOf g i.prod).2, s.str ∈ Lr.body g i.prod := fun s hs => by rw [← e1]; exact List.mem_map.2 ⟨s, hs, rfl⟩
    have := NewItem_full (idx := idxI i.prod) (pos := i.dot) (look := untold i.look) h1 h2 h3 h4 h0 (letters_ne (bodyI_ok hm _ _ (hsy _ (List.getElem_mem h0)))).2.2.2 (by omega) (by omega) hhl hul
      (fun s hs => Nat.le_trans (symbolOk_le (bodyI_ok hm _ _ (hsy s hs))) (by omega))
    refine this.mono ?_
    rintro e w' ⟨p, he, hpp, hib, hnw⟩
    refine ⟨p, he, hpp, ⟨_, ?_, hp⟩, hnw⟩
    rw [e1] at hib
    rw [← apOf_head]
    exact hib
end Go.Proofs.YtdejcdmgcckmoaaGreatDoor
namespace Go.Proofs.YtdejcdmgcckmoaaGreatDoor
open Go.RowKit Lr

theorem T90 : SliceTy Tryz.prog 90 96 1 8 (.pointer none) := ⟨Tryz.underlying90, by kernel_rfl, rfl, by omega⟩
abbrev ptrI (x : Nat × Itm) : Value := .pointer (some ⟨x.1, 0, none⟩)
def hasI (g : Gram) (L : List (Nat × Itm)) (i : Itm) : Bool := L.any fun x => itemStr g x.2 == itemStr g i
def addI (g : Gram) (L : List (Nat × Itm)) (x : Nat × Itm) : List (Nat × Itm) := if hasI g L x.2 then L else L ++ [x]
/-- A set of items of the package. -/
structure ISt (g : Gram) (w0 w : World) (B p m1 m2 : Nat) (no : Int) (v : Value) (L : List (Nat × Itm)) (n1 : Nat) (e1 e2 e3 : Value) : Prop where
  blk : w.heap[p]? = some (.cells #[.int .i64 no, .map (some m1), v, .map (some m2), e1, e2, e3] 95 (0, 0))
  imap : ∃ f, MapF Tryz.prog 9 w m1 n1 f ∧ ∀ s, (f s).isSome = L.any (fun x => itemStr g x.2 == s)
  row : w.ownsRow B 96 1 v L.length (L.map ptrI)
  its : ∀ x ∈ L, ItAt g w0 w x.1 x.2
  pB : B ≤ p
  m1B : B ≤ m1
theorem ISt.new {g : Gram} {w0 w w' : World} {B p m1 m2 : Nat} {no : Int} {v e1 e2 e3 : Value} {L : List (Nat × Itm)} {n1 : Nat} (h : ISt g w0 w B p m1 m2 no v L n1 e1 e2 e3) (hn : New w w') : ISt g w0 w' B p m1 m2 no v L n1 e1 e2 e3 :=
  ⟨hn.heap h.blk, h.imap.imp fun _ q => ⟨q.1.new hn, q.2⟩, ownsRow_new h.row hn, fun x hx => (h.its x hx).new hn, h.pB, h.m1B⟩

theorem z96 (w : World) : (zeroValue 96).run Tryz.prog w = .ok (.pointer none) w := by kernel_rfl
set_option maxRecDepth 20000 in
set_option maxHeartbeats 1000000 in
theorem NewItemSet_any (g : Gram) (w0 w : World) (x1 x3 : Nat) (a2 : Option Addr) (l2 c2 : Nat) :
    Calls Tryz.prog 178 #[.pointer (some ⟨x1, 0, none⟩), .slice a2 l2 c2, .pointer (some ⟨x3, 0, none⟩)] w fun e w' => ∃ p m1 m2 v, e = .returned (.pointer (some ⟨p, 0, none⟩)) ∧ ISt g w0 w' w.heap.size p m1 m2 (-1) v [] 0 (.pointer (some ⟨x1, 0, none⟩)) (.slice a2 l2 c2) (.pointer (some ⟨x3, 0, none⟩)) ∧ MapF Tryz.prog 9 w' m2 0 (fun _ => none) ∧ w.heap.size ≤ m2 ∧ m1 ≠ m2 ∧ New w w' := by
  have hmm := @run_makeMap Tryz.prog
  have hmk : ∀ W : World, (Instr.makeSlice 90 (.int .i64 0) (.int .i64 16)).run Tryz.prog W = .ok (.slice (some ⟨W.heap.size, 0, none⟩) 0 16) (W.alloc (.cells (Array.replicate 16 (.pointer none)) 96)) := fun _ => by kernel_rfl
  go_enter Tryz.func178, Tryz.ntmps178
  go_wp2
  go_ret
  have q1 : New w (w.alloc (.map #[] 0)) := (New.refl w).alloc _
  have q2 : New (w.alloc (.map #[] 0)) ((w.alloc (.map #[] 0)).alloc (.cells (Array.replicate 16 (.pointer none)) 96)) := (New.refl _).alloc _
  have q3 : New ((w.alloc (.map #[] 0)).alloc (.cells (Array.replicate 16 (.pointer none)) 96)) (((w.alloc (.map #[] 0)).alloc (.cells (Array.replicate 16 (.pointer none)) 96)).alloc (.map #[] 0)) := (New.refl _).alloc _
  have hm1 : MapF Tryz.prog 9 (w.alloc (.map #[] 0)) w.heap.size 0 (fun _ => none) := MapF.made w
  have hm2 : MapF Tryz.prog 9 (((w.alloc (.map #[] 0)).alloc (.cells (Array.replicate 16 (.pointer none)) 96)).alloc (.map #[] 0)) (w.heap.size + 1 + 1) 0 (fun _ => none) := by
    have := MapF.made (P := Tryz.prog) (kt := 9) ((w.alloc (.map #[] 0)).alloc (.cells (Array.replicate 16 (.pointer none)) 96))
    simpa using this
  have hr : ((w.alloc (.map #[] 0)).alloc (.cells (Array.replicate 16 (.pointer none)) 96)).ownsRow w.heap.size 96 1 (.slice (some ⟨w.heap.size + 1, 0, none⟩) 0 16) 0 [] := by
    have hb1 : ((w.alloc (.map #[] 0)).alloc (.cells (Array.replicate 16 (.pointer none)) 96)).heap[w.heap.size + 1]? = some (.cells (Array.replicate 16 (.pointer none)) 96 (0, 0)) := by
      have := heap_alloc_new (w.alloc (.map #[] 0)) (.cells (Array.replicate 16 (.pointer none)) 96)
      simpa using this
    exact ⟨rfl, .inr ⟨w.heap.size + 1, 16, _, rfl, by omega, hb1, by omega, by unfold maxLen; omega, by simp, by simp⟩⟩
  refine ⟨w.heap.size + 1 + 1 + 1, w.heap.size, w.heap.size + 1 + 1, .slice (some ⟨w.heap.size + 1, 0, none⟩) 0 16, rfl, ⟨?_, ⟨_, ((hm1.new q2).new q3).new ((New.refl _).alloc _), fun s => rfl⟩, ?_, (by intro x hx; cases hx), by omega, by omega⟩, hm2.new ((New.refl _).alloc _), by omega, by omega, ((q1.trans q2).trans q3).alloc _⟩
  · have := heap_alloc_new (((w.alloc (.map #[] 0)).alloc (.cells (Array.replicate 16 (.pointer none)) 96)).alloc (.map #[] 0)) (.cells #[.int .i64 (-1), .map (some w.heap.size), .slice (some ⟨w.heap.size + 1, 0, none⟩) 0 16, .map (some (w.heap.size + 1 + 1)), .pointer (some ⟨x1, 0, none⟩), .slice a2 l2 c2, .pointer (some ⟨x3, 0, none⟩)] 95)
    simpa using this
  · exact ownsRow_new hr (q3.alloc _)

theorem Size_any {g : Gram} {w0 w : World} {B p m1 m2 : Nat} {no : Int} {v e1 e2 e3 : Value} {L : List (Nat × Itm)} {n1 : Nat} (h : ISt g w0 w B p m1 m2 no v L n1 e1 e2 e3) :
    Calls Tryz.prog 152 #[.pointer (some ⟨p, 0, none⟩)] w fun e w' => e = .returned (.int .i64 L.length) ∧ w = w' := by
  have c2 := cell_of_blk h.blk 2
  simp only [List.getElem?_toArray, List.getElem?_cons_zero, List.getElem?_cons_succ] at c2
  obtain ⟨a, k, rfl⟩ := owns_slice h.row
  clear h
  go_enter Tryz.func152, Tryz.ntmps152
  go_wp2
  go_ret
  exact ⟨rfl, rfl⟩

set_option maxRecDepth 20000 in
set_option maxHeartbeats 1000000 in
theorem Contain_any {g : Gram} {w0 w : World} {B p m1 m2 : Nat} {no : Int} {v e1 e2 e3 : Value} {L : List (Nat × Itm)} {n1 : Nat} (h : ISt g w0 w B p m1 m2 no v L n1 e1 e2 e3) {b : Nat} {i : Itm} (hi : ItAt g w0 w b i) (hs : (itemStr g i).length ≤ 1000000) :
    Calls Tryz.prog 182 #[.pointer (some ⟨p, 0, none⟩), .pointer (some ⟨b, 0, none⟩)] w fun e w' => e = .returned (.bool (hasI g L i)) ∧ New w w' := by
  have c1 := cell_of_blk h.blk 1
  obtain ⟨pr, ⟨rb, arr, hb, _, _⟩, _⟩ := hi
  have d8 := cell_of_blk hb 8
  simp only [List.getElem?_toArray, List.getElem?_cons_zero, List.getElem?_cons_succ] at c1 d8
  obtain ⟨f, hf, hfk⟩ := h.imap
  have hlk : ∀ n, (Instr.lookup 89 (.map (some m1)) (sv (itemStr g i)) true).run Tryz.prog (w.drewN n) = .ok (.tuple #[(f (itemStr g i)).getD (.pointer none), .bool (hasI g L i)]) (w.drewN n) := fun n => by
    have := (hf.new ((New.refl w).drewN n)).look_ok (t := 89) Tryz.underlying9 Tryz.underlying89 (z96 _) (s := itemStr g i) (by omega)
    rw [hfk] at this
    exact this
  rw [show strOf (headI g i.prod) (Lr.body g i.prod) i.dot (untold i.look) = itemStr g i from rfl] at d8
  generalize itemStr g i = s at *
  generalize (f s).getD (.pointer none) = u at *
  generalize hasI g L i = bb at *
  clear h hf hfk hb
  go_enter Tryz.func182, Tryz.ntmps182
  go_wp2
  go_quiet (fail)
  go_wp2
  · have hh : bb = true := by assumption
    go_ret
    exact ⟨ret_bool hh.symm, (New.refl w).drewN nq⟩
  · have hh : bb = false := by assumption
    go_ret
    exact ⟨ret_bool hh.symm, (New.refl w).drewN nq⟩
end Go.Proofs.YtdejcdmgcckmoaaGreatDoor
namespace Go.Proofs.YtdejcdmgcckmoaaGreatDoor
open Go.RowKit Lr

/-- What adding items leaves of old memory. -/
structure AFr (w w' : World) (B p m1 : Nat) (v : Value) (n : Nat) (v' : Value) : Prop where
  below : Below B w w'
  kp : Kp w w'
  blk : ∀ k, k < w.heap.size → k ≠ p → k ≠ m1 → v.ownBlock ≠ some k → w'.heap[k]? = w.heap[k]?
  cell : ∀ k j, k < w.heap.size → k ≠ p → k ≠ m1 → (v.ownBlock = some k → j < n) → w'.cell? ⟨k, j, none⟩ = w.cell? ⟨k, j, none⟩
  own : v'.ownBlock = v.ownBlock ∨ ∃ b, v'.ownBlock = some b ∧ w.heap.size ≤ b
theorem AFr.refl (w : World) (B p m1 : Nat) (v : Value) (n : Nat) : AFr w w B p m1 v n v := ⟨Below.refl _ _, Kp.refl _, fun _ _ _ _ _ => rfl, fun _ _ _ _ _ _ => rfl, .inl rfl⟩
theorem AFr.trans {w w1 w2 : World} {B p m1 n n1 : Nat} {v v1 v2 : Value} (h : AFr w w1 B p m1 v n v1) (k : AFr w1 w2 B p m1 v1 n1 v2) (hn : n ≤ n1) : AFr w w2 B p m1 v n v2 := by
  have hsz := h.below.size
  refine ⟨h.below.trans k.below, h.kp.trans k.kp, fun x hx hp hm hv => ?_, fun x j hx hp hm hv => ?_, ?_⟩
  · refine (k.blk x (by omega) hp hm ?_).trans (h.blk x hx hp hm hv)
    rcases h.own with e | ⟨b, e, hb⟩
    · rw [e]; exact hv
    · rw [e]; intro e2; injection e2 with e2; omega
  · refine (k.cell x j (by omega) hp hm ?_).trans (h.cell x j hx hp hm hv)
    rcases h.own with e | ⟨b, e, hb⟩
    · rw [e]; intro e2; have := hv e2; omega
    · rw [e]; intro e2; injection e2 with e2; omega
  · rcases k.own with e | ⟨b, e, hb⟩
    · rw [e]
      rcases h.own with e1 | ⟨c, e1, hc⟩
      · exact .inl e1
      · exact .inr ⟨c, e1, hc⟩
    · exact .inr ⟨b, e, by omega⟩
theorem AFr.new {w w' : World} (hn : New w w') {B p m1 : Nat} (hB : B ≤ w.heap.size) (v : Value) (n : Nat) : AFr w w' B p m1 v n v :=
  ⟨Below.mono hn hB, Kp.of_new hn, fun k hk _ _ _ => hn.block k hk, fun k j hk _ _ _ => by unfold World.cell?; rw [hn.block k hk], .inl rfl⟩

theorem hasI_eq (g : Gram) (L : List (Nat × Itm)) (i : Itm) : hasI g L i = L.any (fun x => itemStr g x.2 == itemStr g i) := rfl
theorem addI_yes {g : Gram} {L : List (Nat × Itm)} {x : Nat × Itm} (h : hasI g L x.2 = true) : addI g L x = L := by simp [addI, h]
theorem addI_no {g : Gram} {L : List (Nat × Itm)} {x : Nat × Itm} (h : hasI g L x.2 = false) : addI g L x = L ++ [x] := by simp [addI, h]

/-- The step of adding an item that is not there: the map has it already, the row is pushed. -/
theorem ISt.pushed {g : Gram} {w0 w w1 w2 : World} {B p m1 m2 n1 : Nat} {no : Int} {v e1 e2 e3 v' : Value} {L : List (Nat × Itm)} {x : Nat × Itm} {f : Str → Option Value} (h : ISt g w0 w B p m1 m2 no v L n1 e1 e2 e3)
    (hf1 : MapF Tryz.prog 9 w1 m1 (n1 + 1) (putF f (itemStr g x.2) (ptrI x))) (hfk : ∀ s, (f s).isSome = L.any (fun x => itemStr g x.2 == s)) (hg1 : w.grownBy w1 (some m1)) (hm1 : ∃ es c, w.heap[m1]? = some (.map es c))
    (hown2 : w2.ownsRow B 96 1 v' (L.length + 1) (L.map ptrI ++ [ptrI x])) (hg2 : w1.grownBy w2 v.ownBlock) (hat : v'.ownBlock = v.ownBlock ∨ ∃ b, v'.ownBlock = some b ∧ w1.heap.size ≤ b)
    (hkeep : ∀ g j, g < w1.heap.size → (v.ownBlock = some g → j < L.length) → w2.cell? ⟨g, j, none⟩ = w1.cell? ⟨g, j, none⟩) (hx : ItAt g w0 w x.1 x.2) (hB : B ≤ w.heap.size) :
    ISt g w0 (w2.setCell ⟨p, 2, none⟩ v') B p m1 m2 no v' (L ++ [x]) (n1 + 1) e1 e2 e3 ∧ AFr w (w2.setCell ⟨p, 2, none⟩ v') B p m1 v L.length v' := by
  obtain ⟨es, cl, hmb⟩ := hm1
  have hpm : p ≠ m1 := fun e => by rw [← e, h.blk] at hmb; cases hmb
  have hrow1 : w1.ownsRow B 96 1 v L.length (L.map ptrI) := World.ownsRow.kept h.row hg1 (.inr (fun e => by
    rcases h.row.2 with ⟨rfl, _⟩ | ⟨gg, cap, cur, rfl, hbg, hgg, _⟩
    · simp [Value.ownBlock] at e
    · simp [Value.ownBlock] at e
      subst e
      rw [hgg] at hmb; cases hmb))
  have hblk1 := (hg1.block p (lt_of_block h.blk) (by intro e; injection e with e; exact hpm e)).trans h.blk
  have hblk2 := (hg2.block p (lt_of_block hblk1) (fun e => ownBlock_ne hrow1 hblk1 (by decide) e.symm)).trans hblk1
  have hkp1 : Kp w w1 := fun k c t fz e _ => (hg1.block k (lt_of_block e) (by intro e2; injection e2 with e2; rw [e2, hmb] at e; cases e)).trans e
  have hkp2 : Kp w1 w2 := fun k c t fz e ht => (hg2.block k (lt_of_block e) (fun e2 => ownBlock_ne hrow1 e (by rcases ht with rfl | rfl <;> decide) e2.symm)).trans e
  have hkp3 : Kp w2 (w2.setCell ⟨p, 2, none⟩ v') := fun k c t fz e ht => blk_setOther e (fun e2 => by
    simp only at e2
    rw [← e2, hblk2] at e
    cases e
    rcases ht with h | h <;> cases h) _
  have hkp := (hkp1.trans hkp2).trans hkp3
  refine ⟨⟨?_, ⟨putF f (itemStr g x.2) (ptrI x), ?_, fun s => ?_⟩, ?_, fun y hy => ?_, h.pB, h.m1B⟩, ⟨?_, hkp, fun k hk hp hm hv => ?_, fun k j hk hp hm hv => ?_, ?_⟩⟩
  · have := set_of_blk hblk2 2 v'
    simpa using this
  · exact (hf1.kept hg2 (fun e => ownBlock_ne_map hrow1 hf1 e.symm)).setCell (cell_of_blk hblk2 2)
  · rw [List.any_append]
    unfold putF
    by_cases e : s = itemStr g x.2
    · subst e; simp
    · rw [if_neg e, hfk]
      have : (itemStr g x.2 == s) = false := beq_eq_false_iff_ne.2 fun h => e h.symm
      simp [this]
  · have := ownsRow_setCell_other hown2 (a := ⟨p, 2, none⟩) (ownBlock_ne hown2 hblk2 (by decide)) v'
    rw [List.length_append, List.map_append]
    exact this
  · rcases List.mem_append.1 hy with hy | hy
    · exact (h.its y hy).kp hkp
    · simp at hy; subst hy; exact hx.kp hkp
  · exact (((Below.refl B w).grown hg1 hB (fun k hk => by injection hk with hk; rw [← hk]; exact h.m1B)).grown hg2 (Nat.le_trans hB hg1.size) (fun k hk => (hrow1.lt k hk).1)).setCell (p := ⟨p, 2, none⟩) h.pB _
  · have h1 := hg1.block k hk (by intro e; injection e with e; exact hm e)
    have h2 := hg2.block k (Nat.lt_of_lt_of_le hk hg1.size) (fun e => hv e.symm)
    cases ho : w.heap[k]? with
    | none => rw [Array.getElem?_eq_none_iff] at ho; omega
    | some o =>
      exact blk_setOther ((h2.trans h1).trans ho) (fun e => hp e.symm) _
  · have h1 := hg1.block k hk (by intro e; injection e with e; exact hm e)
    have h2 := hkeep k j (Nat.lt_of_lt_of_le hk hg1.size) (fun e => by have := hv e; omega)
    have h3 : (w2.setCell ⟨p, 2, none⟩ v').cell? ⟨k, j, none⟩ = w2.cell? ⟨k, j, none⟩ := by
      have hb : (w2.setCell ⟨p, 2, none⟩ v').heap[k]? = w2.heap[k]? := by
        simp [World.setCell, Array.getElem?_modify]
        intro e; exact absurd e.symm hp
      unfold World.cell?
      rw [hb]
    rw [h3, h2]
    unfold World.cell?
    rw [h1]
  · rcases hat with e | ⟨b, e, hb⟩
    · exact .inl e
    · exact .inr ⟨b, e, Nat.le_trans hg1.size hb⟩

set_option maxRecDepth 20000 in
set_option maxHeartbeats 2000000 in
theorem AddItem_any {g : Gram} {w0 w : World} {B p m1 m2 n1 : Nat} {no : Int} {v e1 e2 e3 : Value} {L M : List (Nat × Itm)} {gb go cc : Nat} (h : ISt g w0 w B p m1 m2 no v L n1 e1 e2 e3)
    (hM : ∀ j, (hj : j < M.length) → w.cell? ⟨gb, go + j, none⟩ = some (ptrI M[j])) (hgp : gb ≠ p) (hgv : v.ownBlock ≠ some gb) (hit : ∀ x ∈ M, ItAt g w0 w x.1 x.2) (hs : ∀ x ∈ M, (itemStr g x.2).length ≤ 1000000)
    (hl : L.length + M.length ≤ 1000000) (hn : n1 + M.length ≤ 1000000) (hB : B ≤ w.heap.size) (hgl : 0 < M.length → gb < w.heap.size) :
    Calls Tryz.prog 179 #[.pointer (some ⟨p, 0, none⟩), .slice (some ⟨gb, go, none⟩) M.length cc] w fun e w' => e = .returned (.tuple #[]) ∧ ∃ v' n1', ISt g w0 w' B p m1 m2 no v' (M.foldl (addI g) L) n1' e1 e2 e3 ∧ n1' ≤ n1 + M.length ∧ L.length ≤ (M.foldl (addI g) L).length ∧ AFr w w' B p m1 v L.length v' := by
  have HH := Lib.hid (And.intro h (And.intro hM (And.intro hit (And.intro hs (And.intro hgv hgl)))))
  clear h hM hit hs hgv hgl
  go_enter Tryz.func179, Tryz.ntmps179
  go_wp2
  go_loopg [10] M.length (fun gk u10 wr => ∃ (k : Nat) (v' : Value) (L' : List (Nat × Itm)) (n1' : Nat), k ≤ M.length ∧ gk = M.length - k ∧ u10 = .int .i64 k ∧ ISt g w0 wr B p m1 m2 no v' L' n1' e1 e2 e3 ∧ Hid (L' = (M.take k).foldl (addI g) L) ∧ n1' ≤ n1 + k ∧ L.length ≤ L'.length ∧ L'.length ≤ L.length + k ∧ AFr w wr B p m1 v L.length v')
  case atStart => exact ⟨0, v, L, n1, Nat.zero_le _, rfl, rfl, HH.out.1, Lib.hid rfl, Nat.le_refl _, Nat.le_refl _, Nat.le_refl _, AFr.refl _ _ _ _ _ _⟩
  case round =>
    obtain ⟨k, v', L', n1', hk, rfl, rfl, hst, hL', hn1, hl1, hl2, hfr⟩ := hrel
    by_cases hlt : k < M.length
    · obtain ⟨h0, hM, hit, hs, hgv, hgl⟩ := HH.out
      have hgw := hgl (by omega)
      obtain ⟨es, cl, hmb⟩ := hst.imap.choose_spec.1.block
      have hgm : gb ≠ m1 := fun e => by
        have hc := hM k hlt
        obtain ⟨f0, hf0, _⟩ := h0.imap
        obtain ⟨es0, cl0, hb0⟩ := hf0.block
        rw [e] at hc
        simp [World.cell?, hb0] at hc
      have d1 := (hfr.cell gb (go + k) hgw hgp hgm (fun e => absurd e hgv)).trans (hM k hlt)
      have hx := (hit _ (List.getElem_mem hlt)).kp hfr.kp
      have hxs := hs _ (List.getElem_mem hlt)
      have hBr := Nat.le_trans hB hfr.below.size
      have c1 := cell_of_blk hst.blk 1
      have c2 := cell_of_blk hst.blk 2
      have f2 := free_of_blk hst.blk 2
      simp only [List.getElem?_toArray, List.getElem?_cons_zero, List.getElem?_cons_succ] at c1 c2
      have hx0 := hx
      obtain ⟨pr, ⟨rb, arr, hb8, _, _⟩, _⟩ := hx0
      have d8 := cell_of_blk hb8 8
      simp only [List.getElem?_toArray, List.getElem?_cons_zero, List.getElem?_cons_succ] at d8
      rw [show strOf (headI g M[k].2.prod) (Lr.body g M[k].2.prod) M[k].2.dot (untold M[k].2.look) = itemStr g M[k].2 from rfl] at d8
      obtain ⟨f, hf, hfk⟩ := hst.imap
      have hfold : (M.take (k + 1)).foldl (addI g) L = addI g L' M[k] := by
        rw [List.take_succ_eq_append_getElem hlt, List.foldl_append, hL'.out]; rfl
      have hlk : ∀ n, (Instr.lookup 89 (.map (some m1)) (sv (itemStr g M[k].2)) true).run Tryz.prog (wr.drewN n) = .ok (.tuple #[(f (itemStr g M[k].2)).getD (.pointer none), .bool (hasI g L' M[k].2)]) (wr.drewN n) := fun n => by
        have := (hf.new ((New.refl wr).drewN n)).look_ok (t := 89) Tryz.underlying9 Tryz.underlying89 (z96 _) (s := itemStr g M[k].2) (by omega)
        rw [hfk] at this
        exact this
      have HX := Lib.hid (And.intro hst (And.intro hx (And.intro hf (And.intro hfk (And.intro hfold (And.intro hfr (show ∃ es c, wr.heap[m1]? = some (.map es c) from ⟨es, cl, hmb⟩)))))))
      generalize hss : itemStr g M[k].2 = s at *
      have HSS := Lib.hid hss
      generalize (f s).getD (.pointer none) = u at *
      obtain ⟨av, cv, rfl⟩ := owns_slice hst.row
      cases hh : hasI g L' M[k].2 with
      | true =>
        rw [hh] at hlk
        have HHH := Lib.hid hh
        clear hh hst hx hf hfk hfold hfr hmb h0 hM hit hs hgv hgl hb8 hss hL'
        go_wp2
        go_quiet (fail)
        go_wp2
        have hnq : New wr (wr.drewN nq) := (New.refl wr).drewN nq
        go_roundg (M.length - (k + 1))
        case measure => omega
        case rel => exact ⟨k + 1, _, L', n1', by omega, rfl, by go_num, HX.out.1.new hnq, Lib.hid (by rw [HX.out.2.2.2.2.1, addI_yes HHH.out]), by omega, hl1, by omega, HX.out.2.2.2.2.2.1.trans (AFr.new hnq hBr _ _) hl1⟩
      | false =>
        rw [hh] at hlk
        have HHH := Lib.hid hh
        clear hh hst hx hf hfk hfold hfr hmb h0 hM hit hs hgv hgl hb8 hss hL'
        go_wp2
        go_quiet (fail)
        clear hlk
        go_wp2
        have hnq : New wr (wr.drewN nq) := (New.refl wr).drewN nq
        have hfr' := HX.out.2.2.2.2.2.1.trans (AFr.new hnq hBr (.slice av L'.length cv) L'.length) hl1
        have hst' := HX.out.1.new hnq
        have hx' := HX.out.2.1.new hnq
        have hf' := HX.out.2.2.1.new hnq
        obtain ⟨es, cl, hmb⟩ := HX.out.2.2.2.2.2.2
        have hmb' : (wr.drewN nq).heap[m1]? = some (.map es cl) := hnq.heap hmb
        have hBq : B ≤ (wr.drewN nq).heap.size := hBr
        have c1 : (wr.drewN nq).cell? ⟨p, 1, none⟩ = some (.map (some m1)) := c1
        have c2 : (wr.drewN nq).cell? ⟨p, 2, none⟩ = some (.slice av L'.length cv) := c2
        have f2 : (wr.drewN nq).frozen? ⟨p, 2, none⟩ = false := f2
        have d1 : (wr.drewN nq).cell? ⟨gb, go + k, none⟩ = some (ptrI M[k]) := d1
        have d8 : (wr.drewN nq).cell? ⟨M[k].1, 8, none⟩ = some (sv s) := d8
        generalize wr.drewN nq = wq at *
        have HY := Lib.hid (And.intro hfr' (And.intro hst' (And.intro hx' (And.intro (show ∃ es c, wq.heap[m1]? = some (.map es c) from ⟨es, cl, hmb'⟩) hnq))))
        have hf0 := hf'
        clear hfr' hst' hx' hmb hmb' hnq hf'
        go_still_tail 9, (by kernel_rfl)
        change wpList _ _ _ _ _ (World.drew _)
        go_wp2_with (at_mapUpdate; go_must (refine wpList_mstore _ rfl _ _ _ _ _ rfl Tryz.underlying9 Tryz.underlying89 m1 n1' f rfl hf0 (by omega) s rfl (by omega) _ rfl ?_))
        intro w3 hf3 hg3
        have hg4 : wq.grownBy w3 (some m1) := ⟨hg3.os, hg3.tape, hg3.output, hg3.size, hg3.block⟩
        obtain ⟨hfr', hst', hx', ⟨es2, cl2, hmq⟩, hnq⟩ := HY.out
        have hpm : p ≠ m1 := fun e => by have := hst'.blk; rw [e, hmq] at this; cases this
        have hb3 := (hg4.block p (lt_of_block hst'.blk) (by intro e; injection e with e; exact hpm e)).trans hst'.blk
        have hrow3 : w3.ownsRow B 96 1 (.slice av L'.length cv) L'.length (L'.map ptrI) := World.ownsRow.kept hst'.row hg4 (.inr (ownBlock_ne_map hst'.row hf0))
        have c2 := cell_of_blk hb3 2
        have f2 := free_of_blk hb3 2
        simp only [List.getElem?_toArray, List.getElem?_cons_zero, List.getElem?_cons_succ] at c2
        have hB3 : B ≤ w3.heap.size := Nat.le_trans hBq hg4.size
        have HZ := Lib.hid (And.intro hfr' (And.intro hst' (And.intro hx' (And.intro hf3 (And.intro hg4 (And.intro hb3 (show ∃ es c, wq.heap[m1]? = some (.map es c) from ⟨es2, cl2, hmq⟩)))))))
        clear hfr' hst' hx' hmq hnq hf3 hg3 hg4 hb3 hf0 c1 d1 d8
        go_wp2_with (at_builtin; go_must (refine wpList_pushK _ rfl _ _ _ _ rfl T90 B _ _ _ rfl hrow3 [_] rfl rfl _ _ rfl (by simp) (by omega) (by omega) hB3 ?_))
        intro v4 w4 hown4 hg5 hat4 hkeep4
        have hb4 := (hg5.block p (lt_of_block HZ.out.2.2.2.2.2.1) (fun e => ownBlock_ne hrow3 HZ.out.2.2.2.2.2.1 (by decide) e.symm)).trans HZ.out.2.2.2.2.2.1
        obtain ⟨a4, k4, rfl⟩ := owns_slice hown4
        have hf3' := HZ.out.2.2.2.1
        rw [← HSS.out] at hf3'
        have hp := HZ.out.2.1.pushed (x := M[k]) hf3' HX.out.2.2.2.1 HZ.out.2.2.2.2.1 HZ.out.2.2.2.2.2.2 hown4 hg5 hat4 hkeep4 HZ.out.2.2.1 hBq
        have HP := Lib.hid (And.intro hp.1 (HZ.out.1.trans hp.2 hl1))
        have c2 := cell_of_blk hb4 2
        have f2 := free_of_blk hb4 2
        simp only [List.getElem?_toArray, List.getElem?_cons_zero, List.getElem?_cons_succ] at c2
        clear hp hf3' hg5 hat4 hkeep4 hb4 hown4 hrow3
        go_wp2
        go_roundg (M.length - (k + 1))
        case measure => omega
        case rel => exact ⟨k + 1, _, L' ++ [M[k]], n1' + 1, by omega, rfl, by go_num, HP.out.1, Lib.hid (by rw [HX.out.2.2.2.2.1, addI_no HHH.out]), by omega, by simp; omega, by simp; omega, HP.out.2⟩
    · have e : M.take k = M := List.take_of_length_le (by omega)
      rw [e] at hL'
      go_wp2
      go_end0
      refine ⟨rfl, v', n1', ?_, by omega, ?_, hfr⟩
      · rw [← hL'.out]; exact hst
      · rw [← hL'.out]; exact hl1
end Go.Proofs.YtdejcdmgcckmoaaGreatDoor
namespace Go.Proofs.YtdejcdmgcckmoaaGreatDoor
open Go.RowKit Lr

/-- A row that ends in a terminal. -/
theorem seqS_last {g : Gram} {ph : Str → Str → Bool} {b : Str} (hb : isHead g b = false) (hb0 : b ≠ []) : ∀ {l : List Str} {t : Str}, (∀ s ∈ l, s ≠ []) → (seqS g ph (l ++ [b]) t = true ↔ (t ≠ [] ∧ seqS g ph l t = true) ∨ (seqS g ph l [] = true ∧ t = b))
  | [], t, _ => by
    simp only [List.nil_append, seqS, hb, Bool.false_eq_true, if_false, decide_eq_true_eq]
    constructor
    · rintro rfl; exact .inr ⟨trivial, rfl⟩
    · rintro (⟨h1, h2⟩ | ⟨_, h⟩)
      · exact absurd h2 h1
      · exact h
  | s :: l, t, hl => by
    have ih := fun t => seqS_last (ph := ph) hb hb0 (l := l) (t := t) (fun x hx => hl x (List.mem_cons_of_mem _ hx))
    rw [List.cons_append]
    cases hs : isHead g s with
    | true =>
      simp only [seqS, hs, if_true, Bool.or_eq_true, Bool.and_eq_true, Bool.not_eq_true', decide_eq_false_iff_not, ih, ne_eq, not_true_eq_false, false_and, false_or]
      constructor
      · rintro (⟨h1, h2⟩ | ⟨h1, ⟨h2, h3⟩ | ⟨h2, h3⟩⟩)
        · exact .inl ⟨h1, .inl ⟨h1, h2⟩⟩
        · exact .inl ⟨h2, .inr ⟨h1, h3⟩⟩
        · exact .inr ⟨⟨h1, h2⟩, h3⟩
      · rintro (⟨h1, ⟨_, h2⟩ | ⟨h2, h3⟩⟩ | ⟨⟨h1, h2⟩, h3⟩)
        · exact .inl ⟨h1, h2⟩
        · exact .inr ⟨h2, .inl ⟨h1, h3⟩⟩
        · exact .inr ⟨h1, .inr ⟨h2, h3⟩⟩
    | false =>
      have h0 := hl s (List.mem_cons_self ..)
      simp only [seqS, hs, Bool.false_eq_true, if_false, decide_eq_true_eq]
      constructor
      · rintro rfl; exact .inl ⟨h0, rfl⟩
      · rintro (⟨_, h⟩ | ⟨h, _⟩)
        · exact h
        · exact absurd h.symm h0
theorem sym_ne {g : Gram} (hm : Sm g) : ∀ p ∈ g, ∀ s ∈ p.2, s ≠ [] := fun _ hp _ hs => (sym_facts hm hp hs).2.2
theorem head_symOk {g : Gram} (hm : Sm g) {s : Str} (h : isHead g s = true) : symbolOkB s = true := by
  obtain ⟨b, hb⟩ := isHead_iff.1 h
  exact (hm.head _ hb).1
theorem end_noHead {g : Gram} (hm : Sm g) : isHead g endS = false := by
  cases h : isHead g endS with
  | false => rfl
  | true => exact absurd (head_symOk hm h) (by decide)
theorem eof_noHead {g : Gram} (hm : Sm g) : isHead g eofS = false := by
  cases h : isHead g eofS with
  | false => rfl
  | true => exact absurd (head_symOk hm h) (by decide)
theorem phi_fst {g : Gram} (hm : Sm g) {l : List Str} {t : Str} (hl : ∀ s ∈ l, s ≠ []) : seqS g (phi g) l t = true ↔ FstS g l t :=
  seqS_fst (fun _ _ hA => (phi_least g).fst (sym_ne hm) hA) hl
/-- What may stand behind a dot, by the least first sets. -/
theorem fst_phi {g : Gram} (hm : Sm g) {l : List Str} {b c : Str} (hl : ∀ s ∈ l, s ≠ []) : Fst g l b c ↔ (c ≠ [] ∧ seqS g (phi g) l c = true) ∨ (seqS g (phi g) l [] = true ∧ c = b) := by
  rw [phi_fst hm hl, phi_fst hm hl]
  constructor
  · rintro (⟨n, h⟩ | ⟨⟨n, h⟩, rfl⟩)
    · refine .inl ⟨fun e => ?_, ?_⟩
      · subst e
        rcases h.sym with h | ⟨p, hp, h⟩
        · exact hl _ h rfl
        · exact sym_ne hm p hp _ h rfl
      · refine .inl ⟨fun e => ?_, n, h⟩
        subst e
        rcases h.sym with h | ⟨p, hp, h⟩
        · exact hl _ h rfl
        · exact sym_ne hm p hp _ h rfl
    · exact .inr ⟨.inr ⟨rfl, n, h⟩, rfl⟩
  · rintro (⟨h0, h⟩ | ⟨h, rfl⟩)
    · rcases h with ⟨_, n, h⟩ | ⟨e, _⟩
      · exact .inl ⟨n, h⟩
      · exact absurd e h0
    · rcases h with ⟨e, _⟩ | ⟨_, n, h⟩
      · exact absurd rfl e
      · exact .inr ⟨⟨n, h⟩, rfl⟩
/-- The package's set of what stands behind a dot. -/
theorem first1_set {g : Gram} (hm : Sm g) {ta : Str → Str → Bool} (hok : FsOk (augP g) (headsA (augP g)) ta) (hcl : ∀ q ∈ augP g, ClosedF ta (headsA (augP g)) q) {δ : List Str} (hok' : ∀ s ∈ δ, symbolOkB s = true) {look : Str} (hlook : look ∈ looksU g) (hlt : isHead g look = false) (t : Str) :
    seqF (firstT ta (headsA (augP g))) (δ ++ [untold look]) t = true ↔ ∃ c, t = untold c ∧ Fst g δ look c := by
  have hs := first_same hm hok hcl (phi_least g)
  have hta : ∀ A t, A ≠ startS → ta A t = (!decide (t = []) && phi g A (backE t)) := by
    intro A t hA
    rw [Bool.eq_iff_iff]
    simp only [Bool.and_eq_true, Bool.not_eq_true', decide_eq_false_iff_not]
    constructor
    · exact hs.2 A t hA
    · rintro ⟨h1, h2⟩
      obtain ⟨h3, h4⟩ := hs.1 A _ h2
      have : convE (backE t) = t := by
        unfold convE backE
        by_cases e : t = emptyS
        · rw [if_pos e, if_pos rfl, e]
        · rw [if_neg e, if_neg h1]
      rw [this] at h4
      exact h4
  have hu : untold look ≠ startS ∧ untold look ≠ emptyS ∧ untold look ≠ [] ∧ isHead g (untold look) = false := by
    unfold untold
    by_cases e : look = endS
    · rw [if_pos e]; exact ⟨by decide, by decide, by decide, eof_noHead hm⟩
    · rw [if_neg e]
      rcases look_ok hm hlook with h | h
      · exact absurd h e
      · have := letters_ne h
        exact ⟨this.1, this.2.2.2, fun e2 => by rw [e2] at h; exact absurd h (by decide), hlt⟩
  have hb : ∀ s ∈ δ ++ [untold look], s ≠ startS ∧ s ≠ emptyS ∧ s ≠ [] := by
    intro s h
    rcases List.mem_append.1 h with h | h
    · have h1 := hok' s h
      have := letters_ne h1
      exact ⟨this.1, this.2.2.2, fun e2 => by rw [e2] at h1; exact absurd h1 (by decide)⟩
    · simp at h; subst h; exact ⟨hu.1, hu.2.1, hu.2.2.1⟩
  have hδ0 : ∀ s ∈ δ, s ≠ [] := fun s h => (hb s (List.mem_append.2 (.inl h))).2.2
  have hne : δ ++ [untold look] ≠ [] := by simp
  have small : ∀ c, seqS g (phi g) δ c = true → c ≠ [] → symbolOkB c = true := by
    intro c h h0
    rw [phi_fst hm hδ0] at h
    rcases h with ⟨_, n, h⟩ | ⟨e, _⟩
    · rcases h.sym with h | ⟨p, hp, h⟩
      · exact hok' c h
      · exact hm.sym p hp c h
    · exact absurd e h0
  have key : seqF (firstT ta (headsA (augP g))) (δ ++ [untold look]) t = true ↔ t ≠ emptyS ∧ seqS g (phi g) (δ ++ [untold look]) t = true := by
    constructor
    · intro h
      obtain ⟨h1, h2⟩ := seqF_le (ph := phi g) hta hb hne h
      by_cases e : t = emptyS
      · exfalso
        subst e
        have e2 : backE emptyS = [] := rfl
        rw [e2, seqS_last hu.2.2.2 hu.2.2.1 hδ0] at h2
        rcases h2 with ⟨h3, _⟩ | ⟨_, h3⟩
        · exact h3 rfl
        · exact hu.2.2.1 h3.symm
      · have e2 : backE t = t := if_neg e
        rw [e2] at h2
        exact ⟨e, h2⟩
    · rintro ⟨h1, h2⟩
      have ht0 : t ≠ [] := by
        rintro rfl
        rw [seqS_last hu.2.2.2 hu.2.2.1 hδ0] at h2
        rcases h2 with ⟨h3, _⟩ | ⟨_, h3⟩
        · exact h3 rfl
        · exact hu.2.2.1 h3.symm
      have h3 := seqS_le (ta := ta) hb hne h1 (seqS_mono (fun A t e => (hs.1 A t e).2) h2)
      have e2 : convE t = t := if_neg ht0
      rw [e2] at h3
      exact h3
  rw [key, seqS_last hu.2.2.2 hu.2.2.1 hδ0]
  constructor
  · rintro ⟨h1, ⟨h2, h3⟩ | ⟨h2, h3⟩⟩
    · refine ⟨t, ?_, (fst_phi hm hδ0).2 (.inl ⟨h2, h3⟩)⟩
      unfold untold
      rw [if_neg]
      intro e
      have := small t h3 h2
      rw [e] at this
      exact absurd this (by decide)
    · exact ⟨look, h3, (fst_phi hm hδ0).2 (.inr ⟨h2, rfl⟩)⟩
  · rintro ⟨c, rfl, h⟩
    rcases (fst_phi hm hδ0).1 h with ⟨h1, h2⟩ | ⟨h1, rfl⟩
    · have h3 := small c h2 h1
      have e : untold c = c := by
        unfold untold
        rw [if_neg]
        intro e
        rw [e] at h3
        exact absurd h3 (by decide)
      rw [e]
      exact ⟨(letters_ne h3).2.2.2, .inl ⟨h1, h2⟩⟩
    · exact ⟨hu.2.1, .inr ⟨h1, rfl⟩⟩
end Go.Proofs.YtdejcdmgcckmoaaGreatDoor
