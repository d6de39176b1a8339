/- Rows of items and edges in memory; the tests that order them. -/
import Derived.Test.YtdejcdmgcckmoaaGreatDoorYF
import Derived.Test.YtdejcdmgcckmoaaGreatDoorYT
import Derived.Test.YtdejcdmgcckmoaaGreatDoorYC
import Derived.StillTailTactics
import Derived.Sort.Walk0
import Derived.Laws.StructEq
namespace Go.Proofs.YtdejcdmgcckmoaaGreatDoor
open Go.RowKit Lr

/-- The three cells of an element. -/
def enc3 {α : Type} (e : α → Value × Value × Value) (x : α) : List Value := [(e x).1, (e x).2.1, (e x).2.2]
theorem enc3_len {α : Type} (e : α → Value × Value × Value) (x : α) : (enc3 e x).length = 3 := rfl
def itm3 (i : Itm) : Value × Value × Value := (.int .i64 (prodI i.prod), .int .i64 (i.dot : Int), sv i.look)
def edg3 (x : Edg) : Value × Value × Value := (.int .i64 (x.1 : Int), sv x.2.1, .int .i64 (x.2.2 : Int))

/-- A slice of elements of three cells. -/
def Row3 {α : Type} (e : α → Value × Value × Value) (w : World) (v : Value) (L : List α) : Prop :=
  ∃ a cap, v = .slice a L.length cap ∧ L.length ≤ cap ∧ (0 < L.length → ∃ b o, a = some ⟨b, o, none⟩ ∧ ∀ j, (hj : j < L.length) →
    w.cell? ⟨b, o + j * 3, none⟩ = some (e L[j]).1 ∧ w.cell? ⟨b, o + j * 3 + 1, none⟩ = some (e L[j]).2.1 ∧ w.cell? ⟨b, o + j * 3 + 2, none⟩ = some (e L[j]).2.2)
abbrev ItmsAt (w : World) (v : Value) (L : List Itm) : Prop := Row3 itm3 w v L
abbrev EdgsAt (w : World) (v : Value) (L : List Edg) : Prop := Row3 edg3 w v L
section
variable {α : Type} {e : α → Value × Value × Value} {w w' : World} {v : Value} {L : List α}
theorem Row3.new (h : Row3 e w v L) (hn : New w w') : Row3 e w' v L := by
  obtain ⟨a, cap, rfl, hcap, hc⟩ := h
  refine ⟨a, cap, rfl, hcap, fun hne => ?_⟩
  obtain ⟨b, o, rfl, hcc⟩ := hc hne
  refine ⟨b, o, rfl, fun j hj => ?_⟩
  obtain ⟨h1, h2, h3⟩ := hcc j hj
  exact ⟨hn.cell h1, hn.cell h2, hn.cell h3⟩
theorem Row3.slice (h : Row3 e w v L) : ∃ a cap, v = .slice a L.length cap := by
  obtain ⟨a, cap, rfl, _, _⟩ := h
  exact ⟨a, cap, rfl⟩
theorem Row3.elem {a : Option Addr} {n cap : Nat} (h : Row3 e w (.slice a n cap) L) {k : Nat} (hk : k < L.length) :
    ∃ b o, a = some ⟨b, o, none⟩ ∧ w.cell? ⟨b, o + k * 3, none⟩ = some (e L[k]).1 ∧ w.cell? ⟨b, o + k * 3 + 1, none⟩ = some (e L[k]).2.1 ∧ w.cell? ⟨b, o + k * 3 + 2, none⟩ = some (e L[k]).2.2 := by
  obtain ⟨a1, cap1, e1, _, hc⟩ := h
  cases e1
  obtain ⟨b, o, rfl, hcc⟩ := hc (by omega)
  exact ⟨b, o, rfl, hcc k hk⟩
theorem Row3.elemX {a : Option Addr} {n cap : Nat} (h : Row3 e w (.slice a n cap) L) {k : Nat} (hk : k < L.length) :
    ∃ b o x, a = some ⟨b, o, none⟩ ∧ L[k]? = some x ∧ w.cell? ⟨b, o + k * 3, none⟩ = some (e x).1 ∧ w.cell? ⟨b, o + k * 3 + 1, none⟩ = some (e x).2.1 ∧ w.cell? ⟨b, o + k * 3 + 2, none⟩ = some (e x).2.2 := by
  obtain ⟨b, o, e1, h1, h2, h3⟩ := h.elem hk
  exact ⟨b, o, L[k], e1, List.getElem?_eq_getElem hk, h1, h2, h3⟩
theorem Row3.of_owns {B : Nat} {t : TypeId} (h : w.ownsRow B t 3 v L.length (L.flatMap (enc3 e))) : Row3 e w v L := by
  obtain ⟨a, cap, rfl⟩ := owns_slice h
  rcases h.2 with ⟨e1, h0⟩ | ⟨g, cap', cur, e1, hb, hg, h1, h2, h3, h4⟩
  · exact ⟨a, cap, rfl, by omega, fun hne => by omega⟩
  · cases e1
    refine ⟨_, cap, rfl, h1, fun hne => ⟨g, 0, rfl, fun j hj => ?_⟩⟩
    have key : ∀ c, c < 3 → w.cell? ⟨g, 0 + j * 3 + c, none⟩ = (enc3 e L[j])[c]? := fun c hc => by
      have hcell := h.cells (g := g) rfl (j * 3 + c) ((enc3 e L[j])[c]'(by simpa [enc3] using hc)) (by rw [flatMap_get (enc3_len e) L j c hj hc, List.getElem?_eq_getElem])
      have ea : (⟨g, 0, none⟩ : Addr).add (j * 3 + c) = ⟨g, 0 + j * 3 + c, none⟩ := by unfold Addr.add; split <;> simp_all
      rw [ea] at hcell
      rw [hcell, List.getElem?_eq_getElem]
    exact ⟨key 0 (by omega), key 1 (by omega), key 2 (by omega)⟩
/-- A row of the call's own. -/
abbrev Own3 (e : α → Value × Value × Value) (t : TypeId) (w : World) (B : Nat) (v : Value) (L : List α) : Prop := w.ownsRow B t 3 v L.length (L.flatMap (enc3 e))
theorem Own3.push {t : TypeId} {B : Nat} {x : α} (h : w.ownsRow B t 3 v (L.length + 1) (L.flatMap (enc3 e) ++ enc3 e x)) : Own3 e t w B v (L ++ [x]) := by
  unfold Own3; simpa using h
theorem Own3.nil {t : TypeId} {B : Nat} : Own3 e t w B (.slice none 0 0) ([] : List α) := ⟨rfl, .inl ⟨rfl, rfl⟩⟩
end

/-- A slice of such rows. -/
def Mat3 {α : Type} (e : α → Value × Value × Value) (w : World) (v : Value) (Ls : List (List α)) : Prop :=
  ∃ a cap, v = .slice a Ls.length cap ∧ Ls.length ≤ cap ∧ (0 < Ls.length → ∃ b o, a = some ⟨b, o, none⟩ ∧ ∀ j, (hj : j < Ls.length) → ∃ vj, w.cell? ⟨b, o + j, none⟩ = some vj ∧ Row3 e w vj Ls[j])
abbrev MatI (w : World) (v : Value) (Ls : List (List Itm)) : Prop := Mat3 itm3 w v Ls
section
variable {α : Type} {e : α → Value × Value × Value} {w w' w1 : World} {v : Value} {Ls : List (List α)}
theorem Mat3.new (h : Mat3 e w v Ls) (hn : New w w') : Mat3 e w' v Ls := by
  obtain ⟨a, cap, rfl, hcap, hc⟩ := h
  refine ⟨a, cap, rfl, hcap, fun hne => ?_⟩
  obtain ⟨b, o, rfl, hcc⟩ := hc hne
  refine ⟨b, o, rfl, fun j hj => ?_⟩
  obtain ⟨vj, h1, h2⟩ := hcc j hj
  exact ⟨vj, hn.cell h1, h2.new hn⟩
theorem Mat3.slice (h : Mat3 e w v Ls) : ∃ a cap, v = .slice a Ls.length cap := by
  obtain ⟨a, cap, rfl, _, _⟩ := h
  exact ⟨a, cap, rfl⟩
theorem Mat3.elem {a : Option Addr} {n cap : Nat} (h : Mat3 e w (.slice a n cap) Ls) {k : Nat} (hk : k < Ls.length) :
    ∃ b o a' c', a = some ⟨b, o, none⟩ ∧ w.cell? ⟨b, o + k, none⟩ = some (.slice a' Ls[k].length c') ∧ Row3 e w (.slice a' Ls[k].length c') Ls[k] := by
  obtain ⟨a1, cap1, e1, _, hc⟩ := h
  cases e1
  obtain ⟨b, o, rfl, hcc⟩ := hc (by omega)
  obtain ⟨vj, h1, h2⟩ := hcc k hk
  obtain ⟨a', c', rfl⟩ := h2.slice
  exact ⟨b, o, a', c', rfl, h1, h2⟩
/-- Rows of the call's own, behind a block that holds their slices; t: the elements' type, rt: the rows'. -/
structure Mat3V (e : α → Value × Value × Value) (t rt : TypeId) (w : World) (B mb : Nat) (vs : List Value) (Ls : List (List α)) : Prop where
  blk : w.heap[mb]? = some (.cells vs.toArray rt (0, 0))
  len : vs.length = Ls.length
  row : ∀ (k : Nat) (v : Value) (L : List α), vs[k]? = some v → Ls[k]? = some L → Own3 e t w B v L
  dis : ∀ (k k' : Nat) (v v' : Value), k ≠ k' → vs[k]? = some v → vs[k']? = some v' → v.ownBlock = none ∨ v.ownBlock ≠ v'.ownBlock
variable {t rt : TypeId} {B mb : Nat} {vs : List Value}
theorem Mat3V.new (h : Mat3V e t rt w B mb vs Ls) (hn : New w w') : Mat3V e t rt w' B mb vs Ls :=
  ⟨hn.heap h.blk, h.len, fun k v L h1 h2 => ownsRow_new (h.row k v L h1 h2) hn, h.dis⟩
theorem Mat3V.at (h : Mat3V e t rt w B mb vs Ls) {cap : Nat} (hc : Ls.length ≤ cap) : Mat3 e w (.slice (some ⟨mb, 0, none⟩) Ls.length cap) Ls := by
  refine ⟨_, cap, rfl, hc, fun _ => ⟨mb, 0, rfl, fun j hj => ?_⟩⟩
  have hv : j < vs.length := by rw [h.len]; exact hj
  refine ⟨vs[j], ?_, Row3.of_owns (h.row j _ _ (List.getElem?_eq_getElem hv) (List.getElem?_eq_getElem hj))⟩
  rw [cell_of_blk h.blk]
  simp [hv]
theorem Mat3V.made {n : Nat} : Mat3V e t rt (w.alloc (.cells (Array.replicate n (.slice none 0 0)) rt)) w.heap.size w.heap.size (List.replicate n (.slice none 0 0)) (List.replicate n []) := by
  refine ⟨by rw [List.toArray_replicate]; exact heap_alloc_new w _, by simp, fun k v L h1 h2 => ?_, fun k k' v v' _ h1 _ => ?_⟩
  · rw [List.getElem?_replicate] at h1 h2
    split at h1
    · rename_i hk
      rw [if_pos hk] at h2
      cases h1; cases h2
      exact ⟨rfl, .inl ⟨rfl, rfl⟩⟩
    · cases h1
  · rw [List.getElem?_replicate] at h1
    split at h1
    · cases h1; exact .inl rfl
    · cases h1
/-- One row has grown. -/
theorem Mat3V.push {k : Nat} {v v' : Value} {L L' : List α} (htr : t ≠ rt) (h : Mat3V e t rt w B mb vs Ls) (hv : vs[k]? = some v) (hL : Ls[k]? = some L) (hown : Own3 e t w1 B v' L') (hg : w.grownBy w1 v.ownBlock)
    (hat : v'.ownBlock = v.ownBlock ∨ ∃ b, v'.ownBlock = some b ∧ w.heap.size ≤ b) : Mat3V e t rt (w1.setCell ⟨mb, k, none⟩ v') B mb (vs.set k v') (Ls.set k L') := by
  have hrow := h.row k v L hv hL
  have b1 := (hg.block mb (lt_of_block h.blk) (fun e => ownBlock_ne hrow h.blk htr e.symm)).trans h.blk
  have hkv := (List.getElem?_eq_some_iff.1 hv).1
  refine ⟨?_, by simp [h.len], fun j u M hu hM => ?_, fun j j' u u' hjj hu hu' => ?_⟩
  · have := set_of_blk b1 k v'
    rw [this]; simp
  · by_cases e : j = k
    · subst e
      rw [List.getElem?_set_self hkv] at hu
      rw [List.getElem?_set_self (by rw [← h.len]; exact hkv)] at hM
      cases hu; cases hM
      exact ownsRow_setCell_other hown (a := ⟨mb, j, none⟩) (ownBlock_ne hown b1 htr) _
    · rw [List.getElem?_set_ne (fun h => e h.symm)] at hu hM
      have h1 := h.row j u M hu hM
      have h2 := World.ownsRow.kept h1 hg (h.dis j k u v e hu hv)
      exact ownsRow_setCell_other h2 (a := ⟨mb, k, none⟩) (ownBlock_ne h2 b1 htr) _
  · have key : ∀ i x, i ≠ k → vs[i]? = some x → x.ownBlock = none ∨ x.ownBlock ≠ v'.ownBlock := fun i x hi hx => by
      rcases hat with e | ⟨b, e, hb⟩
      · rw [e]; exact h.dis i k x v hi hx hv
      · cases hxo : x.ownBlock with
        | none => exact .inl rfl
        | some c =>
          right
          rw [e]
          intro e2
          cases e2
          have hil : i < Ls.length := by rw [← h.len]; exact (List.getElem?_eq_some_iff.1 hx).1
          have := ((h.row i x Ls[i] hx (List.getElem?_eq_getElem hil)).lt b hxo).2
          omega
    by_cases e : j = k
    · subst e
      rw [List.getElem?_set_self hkv] at hu
      rw [List.getElem?_set_ne hjj] at hu'
      cases hu
      rcases key j' u' (fun e => hjj e.symm) hu' with e2 | e2
      · cases hv' : v'.ownBlock with
        | none => exact .inl rfl
        | some c => right; rw [e2]; simp
      · exact .inr (fun e => e2 e.symm)
    · rw [List.getElem?_set_ne (fun h => e h.symm)] at hu
      by_cases e' : j' = k
      · subst e'
        rw [List.getElem?_set_self hkv] at hu'
        cases hu'
        exact key j u e hu
      · rw [List.getElem?_set_ne (fun h => e' h.symm)] at hu'
        exact h.dis j j' u u' hjj hu hu'
/-- One row has been turned in its place. -/
theorem Mat3V.turn {k : Nat} {v : Value} {L L' : List α} (htr : t ≠ rt) (h : Mat3V e t rt w B mb vs Ls) (hv : vs[k]? = some v) (hL : Ls[k]? = some L) (hown : Own3 e t w1 B v L') (hg : w.grownBy w1 v.ownBlock) : Mat3V e t rt w1 B mb vs (Ls.set k L') := by
  have hrow := h.row k v L hv hL
  refine ⟨(hg.block mb (lt_of_block h.blk) (fun e => ownBlock_ne hrow h.blk htr e.symm)).trans h.blk, by simp [h.len], fun j u M hu hM => ?_, h.dis⟩
  have hkv := (List.getElem?_eq_some_iff.1 hv).1
  by_cases e : j = k
  · subst e
    rw [hu] at hv; cases hv
    rw [List.getElem?_set_self (by rw [← h.len]; exact hkv)] at hM
    cases hM
    exact hown
  · rw [List.getElem?_set_ne (fun h => e h.symm)] at hM
    exact World.ownsRow.kept (h.row j u M hu hM) hg (h.dis j k u v e hu hv)
/-- Rows of the call's own that grow in number (not in themselves). -/
def Mat3G (e : α → Value × Value × Value) (t rt : TypeId) (w : World) (B : Nat) (v : Value) (Ls : List (List α)) : Prop := ∃ vs, w.ownsRow B rt 1 v Ls.length vs ∧ vs.length = Ls.length ∧ ∀ (k : Nat) (u : Value) (L : List α), vs[k]? = some u → Ls[k]? = some L → Own3 e t w B u L
theorem Mat3G.new {B : Nat} (h : Mat3G e t rt w B v Ls) (hn : New w w') : Mat3G e t rt w' B v Ls := by
  obtain ⟨vs, h1, h2, h3⟩ := h
  exact ⟨vs, ownsRow_new h1 hn, h2, fun k u L e1 e2 => ownsRow_new (h3 k u L e1 e2) hn⟩
theorem Mat3G.at {B : Nat} (h : Mat3G e t rt w B v Ls) : Mat3 e w v Ls := by
  obtain ⟨vs, h1, h2, h3⟩ := h
  obtain ⟨_, a, cap, rfl, hcap, hc⟩ := row_cells h1
  refine ⟨a, cap, rfl, hcap, fun hne => ?_⟩
  obtain ⟨b, e, hcc⟩ := hc hne
  refine ⟨b, 0, e, fun j hj => ?_⟩
  have hv : j < vs.length := by omega
  exact ⟨vs[j], hcc j _ (List.getElem?_eq_getElem hv), Row3.of_owns (h3 j _ _ (List.getElem?_eq_getElem hv) (List.getElem?_eq_getElem hj))⟩
end
end Go.Proofs.YtdejcdmgcckmoaaGreatDoor
namespace Go.Proofs.YtdejcdmgcckmoaaGreatDoor
open Go.RowKit Go.Sort Lr

theorem isNaN_int (x : Int) (w : World) : Calls Tryz.prog 107 #[.int .i64 x] w fun e w' => e = .returned (.bool false) ∧ w' = w := by
  go_enter Tryz.func107, Tryz.ntmps107
  go_wp2
  go_ret
  exact ⟨by simp, rfl⟩
theorem isNaN_str (x : Str) (w : World) : Calls Tryz.prog 108 #[sv x] w fun e w' => e = .returned (.bool false) ∧ w' = w := by
  go_enter Tryz.func108, Tryz.ntmps108
  go_wp2
  go_ret
  exact ⟨by simp, rfl⟩
theorem cmpZ_any (x y : Int) (w : World) : Calls Tryz.prog 64 #[.int .i64 x, .int .i64 y] w fun e w' => e = .returned (.int .i64 (cmpZ x y)) ∧ w' = w := by
  go_enter Tryz.func64, Tryz.ntmps64
  go_wp2_with (go_at_call 107; refine (isNaN_int _ _).mono ?_; rintro e w' ⟨rfl, hw⟩; rw [hw])
  all_goals (go_ret; refine ⟨?_, rfl⟩; unfold cmpZ; (repeat' split) <;> first | rfl | (exfalso; omega))
theorem cmpT_any (x y : Str) (w : World) : Calls Tryz.prog 65 #[sv x, sv y] w fun e w' => e = .returned (.int .i64 (cmpT x y)) ∧ w' = w := by
  have hB := @bytesLess_eq
  by_cases h1 : x < y
  · have e0 : cmpT x y = -1 := if_pos h1
    have e1 : Op.bytesLess x y = true := by rw [hB]; exact decide_eq_true h1
    rw [e0]
    clear hB h1 e0
    go_enter Tryz.func65, Tryz.ntmps65
    go_wp2_with (go_at_call 108; refine (isNaN_str _ _).mono ?_; rintro e w' ⟨rfl, hw⟩; rw [hw])
    go_ret
    exact ⟨rfl, rfl⟩
  · have e1 : Op.bytesLess x y = false := by rw [hB]; exact decide_eq_false h1
    by_cases h2 : y < x
    · have e0 : cmpT x y = 1 := by unfold cmpT; rw [if_neg h1, if_pos h2]
      have e2 : (x == y) = false := by rw [beq_eq_false_iff_ne]; intro e; rw [e] at h2; exact List.lt_irrefl y h2
      rw [e0]
      clear hB h1 h2 e0
      go_enter Tryz.func65, Tryz.ntmps65
      go_wp2_with (go_at_call 108; refine (isNaN_str _ _).mono ?_; rintro e w' ⟨rfl, hw⟩; rw [hw])
      go_ret
      exact ⟨rfl, rfl⟩
    · have e0 : cmpT x y = 0 := by unfold cmpT; rw [if_neg h1, if_neg h2]
      obtain rfl := lt_of_not h1 h2
      rw [e0]
      clear hB h1 h2 e0
      go_enter Tryz.func65, Tryz.ntmps65
      go_wp2_with (go_at_call 108; refine (isNaN_str _ _).mono ?_; rintro e w' ⟨rfl, hw⟩; rw [hw])
      go_ret
      exact ⟨rfl, rfl⟩
theorem or_any (a b c : Int) (w : World) (p cp : Nat) (h0 : w.cell? ⟨p, 0, none⟩ = some (.int .i64 a)) (h1 : w.cell? ⟨p, 1, none⟩ = some (.int .i64 b)) (h2 : w.cell? ⟨p, 2, none⟩ = some (.int .i64 c)) :
    Calls Tryz.prog 63 #[.slice (some ⟨p, 0, none⟩) 3 cp] w fun e w' => e = .returned (.int .i64 (orI a b c)) ∧ w' = w := by
  go_enter Tryz.func63, Tryz.ntmps63
  go_wp2
  refine wp_loop_rounds 4 ?_
  rw [rounds_succ]
  by_cases ha : a = 0
  · by_cases hb : b = 0
    · by_cases hc : c = 0
      · go_wp2
        rw [rounds_succ]
        go_wp2
        rw [rounds_succ]
        go_wp2
        rw [rounds_succ]
        go_wp2
        go_ret
        exact ⟨by simp [orI, ha, hb, hc], rfl⟩
      · go_wp2
        rw [rounds_succ]
        go_wp2
        rw [rounds_succ]
        go_wp2
        go_ret
        exact ⟨by simp [orI, ha, hb], rfl⟩
    · go_wp2
      rw [rounds_succ]
      go_wp2
      go_ret
      exact ⟨by simp [orI, ha, hb], rfl⟩
  · go_wp2
    go_ret
    exact ⟨by simp [orI, ha], rfl⟩

end Go.Proofs.YtdejcdmgcckmoaaGreatDoor
namespace Go.Proofs.YtdejcdmgcckmoaaGreatDoor
open Go.RowKit Go.Sort Lr

set_option maxRecDepth 20000 in
set_option maxHeartbeats 400000 in
theorem cmp110 (a b : Int) (s : Str) (a' b' : Int) (s' : Str) (W : World) : Calls Tryz.prog 110 #[.agg #[.int .i64 a, sv s, .int .i64 b], .agg #[.int .i64 a', sv s', .int .i64 b']] W fun e w' => e = .returned (.int .i64 (orI (cmpZ a a') (cmpT s s') (cmpZ b b'))) ∧ ∃ q os', w' = grow (W.drewN q) os' := by
  have hz1 := fun W => cmpZ_any a a' W
  have hz2 := fun W => cmpZ_any b b' W
  have ht := fun W => cmpT_any s s' W
  have hor := or_any
  generalize cmpZ a a' = r1 at *
  generalize cmpZ b b' = r2 at *
  generalize cmpT s s' = r3 at *
  go_enter Tryz.func110, Tryz.ntmps110
  go_wp2_with fail
  obtain ⟨W2, hW2⟩ : ∃ W2 : World, W2 = ((W.alloc (.cells #[.int .i64 a, sv s, .int .i64 b] 64)).alloc (.cells #[.int .i64 a', sv s', .int .i64 b'] 64)) := ⟨_, rfl⟩
  have c1 : W2.cell? ⟨W.heap.size, 0, none⟩ = some (.int .i64 a) := by rw [hW2]; simp
  have c2 : W2.cell? ⟨W.heap.size, 1, none⟩ = some (sv s) := by rw [hW2]; simp
  have c3 : W2.cell? ⟨W.heap.size, 2, none⟩ = some (.int .i64 b) := by rw [hW2]; simp
  have c4 : W2.cell? ⟨W.heap.size + 1, 0, none⟩ = some (.int .i64 a') := by rw [hW2]; simp
  have c5 : W2.cell? ⟨W.heap.size + 1, 1, none⟩ = some (sv s') := by rw [hW2]; simp
  have c6 : W2.cell? ⟨W.heap.size + 1, 2, none⟩ = some (.int .i64 b') := by rw [hW2]; simp
  rw [← hW2]
  have HW := Lib.hid hW2
  clear hW2
  generalize W.heap.size = p1 at *
  refine wp_region_still_tail 15 (by kernel_rfl) (by kernel_rfl) ?_
  simp only [List.take_succ_cons, List.take_zero, List.drop_succ_cons, List.drop_zero]
  still_step
  still_step
  still_step
  still_step
  still_call (hz1 _)
  still_step
  still_step
  still_step
  still_step
  still_call (ht _)
  still_step
  still_step
  still_step
  still_step
  still_call (hz2 _)
  refine wpStill_nil ?_
  change wpList _ _ _ _ _ (World.drew _)
  have hd : ∀ j, (W2.drew.alloc (.cells #[.int .i64 r1, .int .i64 r3, .int .i64 r2] 3)).cell? ⟨W2.heap.size, j, none⟩ = (#[Value.int .i64 r1, .int .i64 r3, .int .i64 r2] : Array Value)[j]? := fun j => World.cell?_alloc_mark W2.drew _ 3 (0, 0) j
  have hor' := Lib.hid (hor r1 r3 r2 (W2.drew.alloc (.cells #[.int .i64 r1, .int .i64 r3, .int .i64 r2] 3)) W2.heap.size 3 (by rw [hd]; rfl) (by rw [hd]; rfl) (by rw [hd]; rfl))
  clear hd hor c1 c2 c3 c4 c5 c6 hz1 hz2 ht
  go_wp2_with (go_at_call 63; refine hor'.out.mono ?_; rintro e w' ⟨rfl, rfl⟩)
  go_ret
  refine ⟨rfl, 1, #[.cells #[.int .i64 a, sv s, .int .i64 b] 64, .cells #[.int .i64 a', sv s', .int .i64 b'] 64, .cells #[.int .i64 r1, .int .i64 r3, .int .i64 r2] 3], ?_⟩
  rw [HW.out, alloc_eq_grow, alloc_eq_grow, grow_grow, alloc_eq_grow, grow_grow]
  rfl
set_option maxRecDepth 20000 in
set_option maxHeartbeats 400000 in
theorem cmp62 (a b : Int) (s : Str) (a' b' : Int) (s' : Str) (W : World) : Calls Tryz.prog 62 #[.agg #[.int .i64 a, .int .i64 b, sv s], .agg #[.int .i64 a', .int .i64 b', sv s']] W fun e w' => e = .returned (.int .i64 (orI (cmpZ a a') (cmpZ b b') (cmpT s s'))) ∧ ∃ q os', w' = grow (W.drewN q) os' := by
  have hz1 := fun W => cmpZ_any a a' W
  have hz2 := fun W => cmpZ_any b b' W
  have ht := fun W => cmpT_any s s' W
  have hor := or_any
  generalize cmpZ a a' = r1 at *
  generalize cmpZ b b' = r2 at *
  generalize cmpT s s' = r3 at *
  go_enter Tryz.func62, Tryz.ntmps62
  go_wp2_with fail
  obtain ⟨W2, hW2⟩ : ∃ W2 : World, W2 = ((W.alloc (.cells #[.int .i64 a, .int .i64 b, sv s] 101)).alloc (.cells #[.int .i64 a', .int .i64 b', sv s'] 101)) := ⟨_, rfl⟩
  have c1 : W2.cell? ⟨W.heap.size, 0, none⟩ = some (.int .i64 a) := by rw [hW2]; simp
  have c2 : W2.cell? ⟨W.heap.size, 2, none⟩ = some (sv s) := by rw [hW2]; simp
  have c3 : W2.cell? ⟨W.heap.size, 1, none⟩ = some (.int .i64 b) := by rw [hW2]; simp
  have c4 : W2.cell? ⟨W.heap.size + 1, 0, none⟩ = some (.int .i64 a') := by rw [hW2]; simp
  have c5 : W2.cell? ⟨W.heap.size + 1, 2, none⟩ = some (sv s') := by rw [hW2]; simp
  have c6 : W2.cell? ⟨W.heap.size + 1, 1, none⟩ = some (.int .i64 b') := by rw [hW2]; simp
  rw [← hW2]
  have HW := Lib.hid hW2
  clear hW2
  generalize W.heap.size = p1 at *
  refine wp_region_still_tail 15 (by kernel_rfl) (by kernel_rfl) ?_
  simp only [List.take_succ_cons, List.take_zero, List.drop_succ_cons, List.drop_zero]
  still_step
  still_step
  still_step
  still_step
  still_call (hz1 _)
  still_step
  still_step
  still_step
  still_step
  still_call (hz2 _)
  still_step
  still_step
  still_step
  still_step
  still_call (ht _)
  refine wpStill_nil ?_
  change wpList _ _ _ _ _ (World.drew _)
  have hd : ∀ j, (W2.drew.alloc (.cells #[.int .i64 r1, .int .i64 r2, .int .i64 r3] 3)).cell? ⟨W2.heap.size, j, none⟩ = (#[Value.int .i64 r1, .int .i64 r2, .int .i64 r3] : Array Value)[j]? := fun j => World.cell?_alloc_mark W2.drew _ 3 (0, 0) j
  have hor' := Lib.hid (hor r1 r2 r3 (W2.drew.alloc (.cells #[.int .i64 r1, .int .i64 r2, .int .i64 r3] 3)) W2.heap.size 3 (by rw [hd]; rfl) (by rw [hd]; rfl) (by rw [hd]; rfl))
  clear hd hor c1 c2 c3 c4 c5 c6 hz1 hz2 ht
  go_wp2_with (go_at_call 63; refine hor'.out.mono ?_; rintro e w' ⟨rfl, rfl⟩)
  go_ret
  refine ⟨rfl, 1, #[.cells #[.int .i64 a, .int .i64 b, sv s] 101, .cells #[.int .i64 a', .int .i64 b', sv s'] 101, .cells #[.int .i64 r1, .int .i64 r2, .int .i64 r3] 3], ?_⟩
  rw [HW.out, alloc_eq_grow, alloc_eq_grow, grow_grow, alloc_eq_grow, grow_grow]
  rfl
end Go.Proofs.YtdejcdmgcckmoaaGreatDoor
namespace Go.Proofs.YtdejcdmgcckmoaaGreatDoor
open Go.RowKit Go.Sort Lr

def lessZ (p d : Int) (s : Str) (p' d' : Int) (s' : Str) : Int := if p ≠ p' then p - p' else if d ≠ d' then d - d' else if s < s' then -1 else if s' < s then 1 else 0
set_option maxRecDepth 20000 in
set_option maxHeartbeats 1000000 in
theorem less114 (p d : Int) (s : Str) (p' d' : Int) (s' : Str) (h1 : -1 ≤ p ∧ p ≤ 100000) (h2 : -1 ≤ p' ∧ p' ≤ 100000) (h3 : -1 ≤ d ∧ d ≤ 100000) (h4 : -1 ≤ d' ∧ d' ≤ 100000) (W : World) :
    Calls Tryz.prog 114 #[.agg #[.int .i64 p, .int .i64 d, sv s], .agg #[.int .i64 p', .int .i64 d', sv s']] W fun e w' => e = .returned (.int .i64 (lessZ p d s p' d' s')) ∧ ∃ q os', w' = grow (W.drewN q) os' := by
  have k1 : IntKind.i64.wrap (p - p') = p - p' := by rw [IntKind.wrap_i64]; omega
  have k2 : IntKind.i64.wrap (d - d') = d - d' := by rw [IntKind.wrap_i64]; omega
  clear h1 h2 h3 h4
  unfold lessZ
  have hfin : ∀ c c' : Array Value, ∃ q os', (W.alloc (.cells c 101)).alloc (.cells c' 101) = grow (W.drewN q) os' := fun c c' => ⟨0, _, by rw [alloc_eq_grow, alloc_eq_grow, grow_grow]; rfl⟩
  have HF := Lib.hid hfin
  clear hfin
  by_cases e1 : p = p'
  · by_cases e2 : d = d'
    · rw [if_neg (by simpa using e1), if_neg (by simpa using e2)]
      have hB := @bytesLess_eq
      by_cases g1 : s < s'
      · have b1 : Op.bytesLess s s' = true := by rw [hB]; exact decide_eq_true g1
        rw [if_pos g1]
        clear hB g1 k1 k2
        go_enter Tryz.func114, Tryz.ntmps114
        go_wp2
        go_ret
        exact ⟨rfl, HF.out _ _⟩
      · have b1 : Op.bytesLess s s' = false := by rw [hB]; exact decide_eq_false g1
        rw [if_neg g1]
        by_cases g2 : s' < s
        · have b2 : (s == s') = false := by rw [beq_eq_false_iff_ne]; intro e; rw [e] at g2; exact List.lt_irrefl s' g2
          rw [if_pos g2]
          clear hB g1 g2 k1 k2
          go_enter Tryz.func114, Tryz.ntmps114
          go_wp2
          go_ret
          exact ⟨rfl, HF.out _ _⟩
        · obtain rfl := lt_of_not g1 g2
          rw [if_neg g2]
          clear hB g1 g2 k1 k2
          go_enter Tryz.func114, Tryz.ntmps114
          go_wp2
          go_ret
          exact ⟨rfl, HF.out _ _⟩
    · rw [if_neg (by simpa using e1), if_pos (by simpa using e2)]
      go_enter Tryz.func114, Tryz.ntmps114
      go_wp2
      go_ret
      exact ⟨rfl, HF.out _ _⟩
  · rw [if_pos (by simpa using e1)]
    go_enter Tryz.func114, Tryz.ntmps114
    go_wp2
    go_ret
    exact ⟨rfl, HF.out _ _⟩

/-! ### Items as values -/
abbrev itmA (i : Itm) : Value := .agg #[.int .i64 (prodI i.prod), .int .i64 (i.dot : Int), sv i.look]
abbrev edgA (x : Edg) : Value := .agg #[.int .i64 (x.1 : Int), sv x.2.1, .int .i64 (x.2.2 : Int)]
theorem eq_itm (x y : Itm) (w : World) : (Op.equalIn 10000 101 (itmA x) (itmA y)).run Tryz.prog w = .ok (decide (x = y)) w := by
  have u3 := Tryz.underlying3
  have a3 := Tryz.isAgg3
  have z3 := Tryz.sizeOf3
  have u9 := Tryz.underlying9
  have a9 := Tryz.isAgg9
  have z9 := Tryz.sizeOf9
  have hS : Tryz.prog.underlying 101 = some (.struct (Tryz.prog.fieldsOf 101)) := by kernel_rfl
  have hp : Tryz.prog.stoodInHeld 101 = false := by kernel_rfl
  obtain ⟨a, b, c⟩ := x
  obtain ⟨a', b', c'⟩ := y
  rw [show (10000 : Nat) = 9999 + 1 from rfl, run_equalIn_agg w 9999 101 _ _ hS hp]
  simp only [Program.fieldsOf, Tryz.underlying101]
  go_simp
  have hp : (prodI a = prodI a') ↔ a = a' := ⟨prodI_inj, fun e => by rw [e]⟩
  by_cases h1 : a = a' <;> by_cases h2 : b = b' <;> by_cases h3 : c = c' <;> simp [h1, h2, h3, hp, Int.natCast_inj]
theorem eql_itm (x y : Itm) (w : World) : (binOp .eql 101 (itmA x) (itmA y)).run Tryz.prog w = .ok (.bool (decide (x = y))) w := by
  rw [run_eql_struct, eq_itm]; rfl
theorem neq_itm (x y : Itm) (w : World) : (binOp .neq 101 (itmA x) (itmA y)).run Tryz.prog w = .ok (.bool (!decide (x = y))) w := by
  rw [run_neq_struct, eq_itm]; rfl

/-! ### Looking for an item; two rows alike -/
set_option maxRecDepth 20000 in
set_option maxHeartbeats 1000000 in
theorem Index_itm {w : World} {v : Value} {L : List Itm} (h : ItmsAt w v L) (hl : L.length ≤ 1000000) (x : Itm) :
    Calls Tryz.prog 164 #[v, itmA x] w fun e w' => ∃ r : Int, e = .returned (.int .i64 r) ∧ (0 ≤ r ↔ x ∈ L) ∧ New w w' := by
  obtain ⟨a, cap, rfl⟩ := h.slice
  have hgd : Tryz.prog.eqGuardType Tryz.prog.depth 101 = false := by kernel_rfl
  go_enter Tryz.func164, Tryz.ntmps164
  go_wp2
  have hn0 : New w (w.alloc (.cells #[.int .i64 (prodI x.prod), .int .i64 x.dot, sv x.look] 101)) := (New.refl w).alloc _
  have c1 : (w.alloc (.cells #[.int .i64 (prodI x.prod), .int .i64 x.dot, sv x.look] 101)).cell? ⟨w.heap.size, 0, none⟩ = some (.int .i64 (prodI x.prod)) := by simp
  have c2 : (w.alloc (.cells #[.int .i64 (prodI x.prod), .int .i64 x.dot, sv x.look] 101)).cell? ⟨w.heap.size, 1, none⟩ = some (.int .i64 x.dot) := by simp
  have c3 : (w.alloc (.cells #[.int .i64 (prodI x.prod), .int .i64 x.dot, sv x.look] 101)).cell? ⟨w.heap.size, 2, none⟩ = some (sv x.look) := by simp
  have HC := Lib.hid (And.intro h (And.intro hn0 (And.intro c1 (And.intro c2 c3))))
  clear h hn0 c1 c2 c3
  go_loopg [8] L.length (fun gk u8 wr => ∃ k : Nat, k ≤ L.length ∧ gk = L.length - k ∧ u8 = .int .i64 k ∧ Hid (∀ j, j < k → (hj : j < L.length) → L[j] ≠ x) ∧ Hid (New (w.alloc (.cells #[.int .i64 (prodI x.prod), .int .i64 x.dot, sv x.look] 101)) wr))
  case atStart => exact ⟨0, Nat.zero_le _, rfl, rfl, Lib.hid (fun j hj => by omega), Lib.hid (New.refl _)⟩
  case round =>
    obtain ⟨k, hk, rfl, rfl, hne, hn⟩ := hrel
    by_cases hlt : k < L.length
    · obtain ⟨b, o, e1, h1, h2, h3⟩ := (HC.out.1.new (HC.out.2.1.trans hn.out)).elem hlt
      have c1 := hn.out.cell HC.out.2.2.1
      have c2 := hn.out.cell HC.out.2.2.2.1
      have c3 := hn.out.cell HC.out.2.2.2.2
      cases e1
      simp only [itm3] at h1 h2 h3
      have hq : ∀ w : World, (binOp .eql 101 (.agg #[.int .i64 (prodI x.prod), .int .i64 (x.dot : Int), sv x.look]) (.agg #[.int .i64 (prodI L[k].prod), .int .i64 (L[k].dot : Int), sv L[k].look])).run Tryz.prog w = .ok (.bool (decide (x = L[k]))) w := eql_itm x L[k]
      have hn1 : New w wr := HC.out.2.1.trans hn.out
      have HN := Lib.hid hn1
      clear hn1
      by_cases hx : x = L[k]
      · have hm : x ∈ L := by rw [hx]; exact List.getElem_mem hlt
        have HM := Lib.hid hm
        simp only [decide_eq_true hx] at hq
        clear hx hm
        go_wp2_with fail
        go_still (by kernel_rfl)
        go_wp2
        go_ret
        exact ⟨k, rfl, by simp [HM.out], HN.out.drewN 1⟩
      · simp only [decide_eq_false hx] at hq
        have HX := Lib.hid hx
        clear hx
        go_wp2_with fail
        go_still (by kernel_rfl)
        go_wp2
        go_roundg (L.length - (k + 1))
        case measure => omega
        case rel =>
          refine ⟨k + 1, by omega, rfl, by go_num, Lib.hid fun j hj hjl => ?_, Lib.hid (hn.out.drewN 1)⟩
          by_cases e : j = k
          · subst e; exact fun e2 => HX.out e2.symm
          · exact hne.out j (by omega) hjl
    · go_wp2
      go_ret
      refine ⟨-1, rfl, ?_, HC.out.2.1.trans hn.out⟩
      constructor
      · intro h; omega
      · intro h
        obtain ⟨j, hj, e⟩ := List.getElem_of_mem h
        exact absurd e (hne.out j (by omega) hj)
set_option maxRecDepth 20000 in
set_option maxHeartbeats 1000000 in
theorem Contains_itm {w : World} {v : Value} {L : List Itm} (h : ItmsAt w v L) (hl : L.length ≤ 1000000) (x : Itm) :
    Calls Tryz.prog 113 #[v, itmA x] w fun e w' => e = .returned (.bool (decide (x ∈ L))) ∧ New w w' := by
  obtain ⟨a, cap, rfl⟩ := h.slice
  have hn0 : New w (w.alloc (.cells #[.int .i64 (prodI x.prod), .int .i64 x.dot, sv x.look] 101)) := (New.refl w).alloc _
  have hq := Lib.hid (Index_itm (h.new hn0) hl x)
  have HN := Lib.hid hn0
  clear h hn0
  go_enter Tryz.func113, Tryz.ntmps113
  go_wp2_with (go_at_call 164; refine hq.out.mono ?_; rintro e w' ⟨r, rfl, hr, hn⟩)
  go_ret
  refine ⟨?_, HN.out.trans hn⟩
  refine ret_bool ?_
  by_cases hx : x ∈ L
  · simp [hx]
  · simp [hx]

set_option maxRecDepth 20000 in
set_option maxHeartbeats 1000000 in
theorem Equal_itm {w : World} {v v' : Value} {L M : List Itm} (h : ItmsAt w v L) (h' : ItmsAt w v' M) (hl : L.length ≤ 1000000) :
    Calls Tryz.prog 71 #[v, v'] w fun e w' => e = .returned (.bool (decide (L = M))) ∧ New w w' := by
  obtain ⟨a, cap, rfl⟩ := h.slice
  obtain ⟨a', cap', rfl⟩ := h'.slice
  have hgd : Tryz.prog.eqGuardType Tryz.prog.depth 101 = false := by kernel_rfl
  by_cases hLM : L.length = M.length
  · have HL := Lib.hid hLM
    have HC := Lib.hid (And.intro h h')
    clear h h'
    rw [← hLM]
    clear hLM
    go_enter Tryz.func71, Tryz.ntmps71
    go_wp2
    go_loopg [13] L.length (fun gk u13 wr => ∃ k : Nat, k ≤ L.length ∧ gk = L.length - k ∧ u13 = .int .i64 k ∧ Hid (∀ j, j < k → L[j]? = M[j]?) ∧ Hid (New w wr))
    case atStart => exact ⟨0, Nat.zero_le _, rfl, rfl, Lib.hid (fun j hj => by omega), Lib.hid (New.refl _)⟩
    case round =>
      obtain ⟨k, hk, rfl, rfl, hne, hn⟩ := hrel
      by_cases hlt : k < L.length
      · have hlt' : k < M.length := by rw [← HL.out]; exact hlt
        obtain ⟨b, o, x, e1, hxe, h1, h2, h3⟩ := (HC.out.1.new hn.out).elemX hlt
        obtain ⟨b', o', y, e1', hye, h1', h2', h3'⟩ := (HC.out.2.new hn.out).elemX hlt'
        cases e1
        cases e1'
        simp only [itm3] at h1 h2 h3 h1' h2' h3'
        have HLT := Lib.hid hlt'
        have HXY := Lib.hid (And.intro hxe hye)
        clear hxe hye
        by_cases hx : x = y
        · subst hx
          go_wp2_with fail
          go_still (by kernel_rfl)
          go_wp2
          go_roundg (L.length - (k + 1))
          case measure => omega
          case rel =>
            refine ⟨k + 1, by omega, rfl, by go_num, Lib.hid fun j hj => ?_, Lib.hid (hn.out.drewN 1)⟩
            by_cases e : j = k
            · subst e
              rw [HXY.out.1, HXY.out.2]
            · exact hne.out j (by omega)
        · have hLMne : L ≠ M := fun e => hx (by have q1 := HXY.out.1; rw [e, HXY.out.2] at q1; exact (Option.some.inj q1).symm)
          have HF := Lib.hid (show decide (L = M) = false from decide_eq_false hLMne)
          clear hLMne
          have h3w : (¬ prodI x.prod = prodI y.prod) ∨ (prodI x.prod = prodI y.prod ∧ ¬ (x.dot : Int) = y.dot) ∨ (prodI x.prod = prodI y.prod ∧ (x.dot : Int) = y.dot ∧ ¬ x.look = y.look) := by
            by_cases e1 : prodI x.prod = prodI y.prod
            · by_cases e2 : (x.dot : Int) = y.dot
              · refine .inr (.inr ⟨e1, e2, fun e3 => hx ?_⟩)
                cases x; cases y
                simp only at e1 e2 e3
                rw [prodI_inj e1, Int.natCast_inj.1 e2, e3]
              · exact .inr (.inl ⟨e1, e2⟩)
            · exact .inl e1
          clear hx
          rcases h3w with e1 | ⟨e1, e2⟩ | ⟨e1, e2, e3⟩
          all_goals
            go_wp2_with fail
            go_still (by kernel_rfl)
            go_wp2
            go_ret
            exact ⟨ret_bool HF.out.symm, hn.out.drewN 1⟩
      · go_wp2
        go_ret
        refine ⟨ret_bool ?_, hn.out⟩
        have : L = M := by
          apply List.ext_getElem?
          intro j
          by_cases hj : j < k
          · exact hne.out j hj
          · have := HL.out
            rw [List.getElem?_eq_none (by omega), List.getElem?_eq_none (by omega)]
        simp [this]
  · have hLM' : ¬ (L.length : Int) = (M.length : Int) := by omega
    clear h h'
    go_enter Tryz.func71, Tryz.ntmps71
    go_wp2
    go_ret
    refine ⟨ret_bool ?_, New.refl _⟩
    have : L ≠ M := fun e => hLM (by rw [e])
    simp [this]
end Go.Proofs.YtdejcdmgcckmoaaGreatDoor
