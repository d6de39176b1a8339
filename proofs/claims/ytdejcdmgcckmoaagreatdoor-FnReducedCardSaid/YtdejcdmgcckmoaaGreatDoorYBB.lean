/- The reference: whether states are alike. -/
import Derived.Test.YtdejcdmgcckmoaaGreatDoorYU
import Derived.Test.YtdejcdmgcckmoaaGreatDoorYX
namespace Go.Proofs.YtdejcdmgcckmoaaGreatDoor
open Go.RowKit Go.Sort Lr

set_option maxRecDepth 20000 in
set_option maxHeartbeats 1000000 in
/-- `func(y impl.Edge) bool { return y.From == of[i] && y.Symbol == x.Symbol }` -/
theorem clos73 {w : World} {pof pi px ob oo : Nat} {N cN i : Nat} {j : Int} {X : Str} (y : Edg) (h1 : w.cell? ⟨pof, 0, none⟩ = some (.slice (some ⟨ob, oo, none⟩) N cN)) (h2 : w.cell? ⟨pi, 0, none⟩ = some (.int .i64 (i : Int))) (hi : i < N)
    (h3 : w.cell? ⟨ob, oo + i, none⟩ = some (.int .i64 j)) (h4 : w.cell? ⟨px, 1, none⟩ = some (sv X)) :
    Calls Tryz.prog 73 #[.agg #[.int .i64 (y.1 : Int), sv y.2.1, .int .i64 (y.2.2 : Int)], .pointer (some ⟨pof, 0, none⟩), .pointer (some ⟨pi, 0, none⟩), .pointer (some ⟨px, 0, none⟩)] w fun e w' => e = .returned (.bool (decide ((y.1 : Int) = j ∧ y.2.1 = X))) ∧ New w w' := by
  obtain ⟨a, s, b⟩ := y
  simp only
  have hn : New w (w.alloc (.cells #[.int .i64 (a : Int), sv s, .int .i64 (b : Int)] 64)) := (New.refl w).alloc _
  have g1 := hn.cell h1
  have g2 := hn.cell h2
  have g3 := hn.cell h3
  have g4 := hn.cell h4
  have g5 : (w.alloc (.cells #[.int .i64 (a : Int), sv s, .int .i64 (b : Int)] 64)).cell? ⟨w.heap.size, 0, none⟩ = some (.int .i64 (a : Int)) := by simp
  have g6 : (w.alloc (.cells #[.int .i64 (a : Int), sv s, .int .i64 (b : Int)] 64)).cell? ⟨w.heap.size, 1, none⟩ = some (sv s) := by simp
  have HN := Lib.hid hn
  clear h1 h2 h3 h4 hn
  by_cases hA : (a : Int) = j
  · subst hA
    by_cases hB : s = X
    · have e : decide ((a : Int) = (a : Int) ∧ s = X) = true := decide_eq_true ⟨rfl, hB⟩
      rw [e]
      have hB2 : (s == X) = true := by rw [hB]; simp
      clear e hB
      go_enter Tryz.func73, Tryz.ntmps73
      go_wp2_with fail
      generalize w.alloc (.cells #[.int .i64 (a : Int), sv s, .int .i64 (b : Int)] 64) = W at *
      generalize w.heap.size = pw at *
      go_still (by kernel_rfl)
      go_wp2
      go_ret
      exact ⟨rfl, HN.out.drewN 1⟩
    · have e : decide ((a : Int) = (a : Int) ∧ s = X) = false := decide_eq_false fun h => hB h.2
      rw [e]
      have hB2 : (s == X) = false := by rw [beq_eq_false_iff_ne]; exact hB
      clear e hB
      go_enter Tryz.func73, Tryz.ntmps73
      go_wp2_with fail
      generalize w.alloc (.cells #[.int .i64 (a : Int), sv s, .int .i64 (b : Int)] 64) = W at *
      generalize w.heap.size = pw at *
      go_still (by kernel_rfl)
      go_wp2
      go_ret
      exact ⟨rfl, HN.out.drewN 1⟩
  · have e : decide ((a : Int) = j ∧ s = X) = false := decide_eq_false fun h => hA h.1
    rw [e]
    clear e
    go_enter Tryz.func73, Tryz.ntmps73
    go_wp2_with fail
    generalize w.alloc (.cells #[.int .i64 (a : Int), sv s, .int .i64 (b : Int)] 64) = W at *
    generalize w.heap.size = pw at *
    go_still (by kernel_rfl)
    go_wp2
    go_ret
    exact ⟨rfl, HN.out.drewN 1⟩

set_option maxRecDepth 20000 in
set_option maxHeartbeats 1000000 in
theorem IndexEdg_any {w : World} {v : Value} {F : List Edg} (h : EdgsAt w v F) (hF : F.length ≤ 1000000) {pof pi px ob oo : Nat} {N cN i : Nat} {j : Int} {X : Str} (h1 : w.cell? ⟨pof, 0, none⟩ = some (.slice (some ⟨ob, oo, none⟩) N cN)) (h2 : w.cell? ⟨pi, 0, none⟩ = some (.int .i64 (i : Int))) (hi : i < N)
    (h3 : w.cell? ⟨ob, oo + i, none⟩ = some (.int .i64 j)) (h4 : w.cell? ⟨px, 1, none⟩ = some (sv X)) :
    Calls Tryz.prog 72 #[v, .func (.func 73) #[] #[.pointer (some ⟨pof, 0, none⟩), .pointer (some ⟨pi, 0, none⟩), .pointer (some ⟨px, 0, none⟩)]] w fun e w' => ∃ r : Int, e = .returned (.int .i64 r) ∧ ((r = -1 ∧ ∀ y ∈ F, ¬ ((y.1 : Int) = j ∧ y.2.1 = X)) ∨ ∃ (k : Nat) (y : Edg), r = k ∧ F[k]? = some y ∧ (y.1 : Int) = j ∧ y.2.1 = X) ∧ New w w' := by
  obtain ⟨a, cap, rfl⟩ := h.slice
  have HC := Lib.hid (And.intro h (And.intro h1 (And.intro h2 (And.intro h3 h4))))
  clear h h1 h2 h3 h4
  go_enter Tryz.func72, Tryz.ntmps72
  go_wp2
  go_loopg [8] F.length (fun gk u8 wr => ∃ k : Nat, k ≤ F.length ∧ gk = F.length - k ∧ u8 = .int .i64 k ∧ Hid (∀ t y, t < k → F[t]? = some y → ¬ ((y.1 : Int) = j ∧ y.2.1 = X)) ∧ New w wr)
  case atStart => exact ⟨0, Nat.zero_le _, rfl, rfl, Lib.hid (fun t y ht => by omega), New.refl _⟩
  case round =>
    obtain ⟨k, hk, rfl, rfl, hne, hn'⟩ := hrel
    by_cases hlt : k < F.length
    · obtain ⟨b, o, y, e, hy, c1, c2, c3⟩ := (HC.out.1.new hn').elemX hlt
      cases e
      simp only [edg3] at c1 c2 c3
      have hq : Calls Tryz.prog 73 #[.agg #[.int .i64 (y.1 : Int), sv y.2.1, .int .i64 (y.2.2 : Int)], .pointer (some ⟨pof, 0, none⟩), .pointer (some ⟨pi, 0, none⟩), .pointer (some ⟨px, 0, none⟩)] wr fun e w' => e = .returned (.bool (decide ((y.1 : Int) = j ∧ y.2.1 = X))) ∧ New wr w' :=
        clos73 y (hn'.cell HC.out.2.1) (hn'.cell HC.out.2.2.1) hi (hn'.cell HC.out.2.2.2.1) (hn'.cell HC.out.2.2.2.2)
      have HN := Lib.hid (And.intro hn' hy)
      clear hn' hy
      by_cases hx : (y.1 : Int) = j ∧ y.2.1 = X
      · rw [decide_eq_true hx] at hq
        have hQ := Lib.hid hq
        have HX := Lib.hid hx
        clear hx hq
        go_wp2_with (go_at_call 73; refine hQ.out.mono ?_; rintro e w4 ⟨rfl, hn4⟩)
        go_ret
        exact ⟨k, rfl, .inr ⟨k, y, rfl, HN.out.2, HX.out.1, HX.out.2⟩, HN.out.1.trans hn4⟩
      · rw [decide_eq_false hx] at hq
        have hQ := Lib.hid hq
        have HX := Lib.hid hx
        clear hx hq
        go_wp2_with (go_at_call 73; refine hQ.out.mono ?_; rintro e w4 ⟨rfl, hn4⟩)
        go_roundg (F.length - (k + 1))
        case measure => omega
        case rel =>
          refine ⟨k + 1, by omega, rfl, by go_num, Lib.hid fun t z ht hz => ?_, HN.out.1.trans hn4⟩
          by_cases e : t = k
          · subst e; rw [HN.out.2] at hz; cases hz; exact HX.out
          · exact hne.out t z (by omega) hz
    · go_wp2
      go_ret
      refine ⟨-1, rfl, .inl ⟨rfl, fun y hy => ?_⟩, hn'⟩
      obtain ⟨t, ht⟩ := List.getElem?_of_mem hy
      exact hne.out t y (by have := (List.getElem?_eq_some_iff.1 ht).1; omega) ht
end Go.Proofs.YtdejcdmgcckmoaaGreatDoor
namespace Go.Proofs.YtdejcdmgcckmoaaGreatDoor
open Go.RowKit Go.Sort Lr

theorem T44 : SliceTy Tryz.prog 44 3 1 8 (.int .i64 0) := ⟨Tryz.underlying44, by kernel_rfl, rfl, by omega⟩
/-- A block of numbers. -/
def OfAt (w : World) (ob : Nat) (l : List Int) : Prop := w.heap[ob]? = some (.cells (l.map (Value.int .i64)).toArray 3 (0, 0))
theorem OfAt.cell {w : World} {ob : Nat} {l : List Int} (h : OfAt w ob l) {i : Nat} {x : Int} (hx : l[i]? = some x) : w.cell? ⟨ob, i, none⟩ = some (.int .i64 x) := by
  rw [cell_of_blk h]; simp [hx]
theorem OfAt.set {w : World} {ob : Nat} {l : List Int} (h : OfAt w ob l) (i : Nat) (x : Int) : OfAt (w.setCell ⟨ob, i, none⟩ (.int .i64 x)) ob (l.set i x) := by
  have := set_of_blk h i (.int .i64 x)
  unfold OfAt
  rw [this]; simp [List.map_set]
theorem OfAt.new {w w' : World} {ob : Nat} {l : List Int} (h : OfAt w ob l) (hn : New w w') : OfAt w' ob l := hn.heap h
abbrev encN (n : Nat) : Value := .int .i64 (n : Int)
theorem rep_step {N k : Nat} (hk : k < N) : (List.replicate k (-1 : Int) ++ List.replicate (N - k) 0).set k (-1) = List.replicate (k + 1) (-1) ++ List.replicate (N - (k + 1)) 0 := by
  have e : N - k = (N - (k + 1)) + 1 := by omega
  rw [List.set_append_right _ _ (by simp), List.length_replicate, Nat.sub_self, e, List.replicate_succ, List.set_cons_zero, List.replicate_succ', List.append_assoc]
  rfl
theorem rep_get {N k : Nat} (hk : k < N) : (List.replicate k (-1 : Int) ++ List.replicate (N - k) 0)[k]? = some 0 := by
  rw [List.getElem?_append_right (by simp), List.length_replicate, Nat.sub_self, List.getElem?_replicate, if_pos (by omega)]
set_option maxRecDepth 20000 in
set_option maxHeartbeats 8000000 in
theorem Alike_any {N : Nat} {φ : Nat → Nat} {a b : List (List Itm)} {E F : List Edg} (H : AlikeH N φ a b E F) (hN : N ≤ 1000) (hE : E.length ≤ 1000000) (hrow : ∀ l ∈ a, l.length ≤ 1000000) (va ve vb vf : Value) (w : World) (h1 : MatI w va a) (h2 : EdgsAt w ve E) (h3 : MatI w vb b) (h4 : EdgsAt w vf F) :
    Calls Tryz.prog 24 #[va, ve, vb, vf] w fun e w' => e = .returned (.bool true) ∧ New w w' := by
  obtain ⟨aa, ca, rfl⟩ := h1.slice
  obtain ⟨ae, ce, rfl⟩ := h2.slice
  obtain ⟨ab, cb, rfl⟩ := h3.slice
  obtain ⟨af, cf, rfl⟩ := h4.slice
  have HH := Lib.hid (And.intro H (And.intro h1 (And.intro h2 (And.intro h3 h4))))
  have hpos := H.pos
  rw [H.alen, H.blen, ← H.elen] at *
  clear h1 h2 h3 h4
  have hN0 : ¬ (N : Int) = 0 := by omega
  have hN0b : ((N : Int) == 0) = false := by rw [beq_eq_false_iff_ne]; exact hN0
  have hmk := make_one T44 rfl N (by omega) (by omega) w
  clear H
  go_enter Tryz.func24, Tryz.ntmps24
  go_wp2_with fail
  clear hmk
  have hof0 : OfAt ((w.alloc (.cells (Array.replicate N (.int .i64 0)) 3)).alloc (.cells #[.slice (some ⟨w.heap.size, 0, none⟩) N N] 44)) w.heap.size (List.replicate 0 (-1) ++ List.replicate (N - 0) 0) := by
    unfold OfAt
    rw [Below.heap_alloc _ _ _ (by simp), heap_alloc_new]
    simp
  have hbx0 : ((w.alloc (.cells (Array.replicate N (.int .i64 0)) 3)).alloc (.cells #[.slice (some ⟨w.heap.size, 0, none⟩) N N] 44)).heap[w.heap.size + 1]? = some (.cells #[.slice (some ⟨w.heap.size, 0, none⟩) N N] 44 (0, 0)) := by
    have := heap_alloc_new (w.alloc (.cells (Array.replicate N (.int .i64 0)) 3)) (.cells #[.slice (some ⟨w.heap.size, 0, none⟩) N N] 44)
    simpa using this
  have hn0 : New w ((w.alloc (.cells (Array.replicate N (.int .i64 0)) 3)).alloc (.cells #[.slice (some ⟨w.heap.size, 0, none⟩) N N] 44)) := ((New.refl w).alloc _).alloc _
  have H0 := Lib.hid (And.intro hof0 (And.intro hbx0 hn0))
  clear hof0 hbx0 hn0
  go_loopg [39] N (fun gk u39 wr => ∃ k : Nat, k ≤ N ∧ gk = N - k ∧ u39 = .int .i64 k ∧ OfAt wr w.heap.size (List.replicate k (-1) ++ List.replicate (N - k) 0) ∧ wr.heap[w.heap.size + 1]? = some (.cells #[.slice (some ⟨w.heap.size, 0, none⟩) N N] 44 (0, 0)) ∧ New w wr)
  case atStart => exact ⟨0, Nat.zero_le _, rfl, rfl, H0.out.1, H0.out.2.1, H0.out.2.2⟩
  case round =>
    clear H0
    obtain ⟨k, hk, rfl, rfl, hO, hB, hn⟩ := hrel
    by_cases hlt : k < N
    · have c0 : wr.cell? ⟨w.heap.size + 1, 0, none⟩ = some (.slice (some ⟨w.heap.size, 0, none⟩) N N) := (cell_of_blk hB 0).trans rfl
      have c1 := hO.cell (rep_get hlt)
      have f1 := free_of_blk hO k
      have hO2 := hO.set k (-1)
      rw [rep_step hlt] at hO2
      have hB2 : (wr.setCell ⟨w.heap.size, k, none⟩ (.int .i64 (-1))).heap[w.heap.size + 1]? = some (.cells #[.slice (some ⟨w.heap.size, 0, none⟩) N N] 44 (0, 0)) := blk_setOther hB (by simp) _
      have hn2 : New w (wr.setCell ⟨w.heap.size, k, none⟩ (.int .i64 (-1))) := hn.setCell (Nat.le_refl _) _
      have H2 := Lib.hid (And.intro hO2 (And.intro hB2 hn2))
      clear hO hB hn hO2 hB2 hn2
      go_wp2
      go_roundg (N - (k + 1))
      case measure => omega
      case rel => exact ⟨k + 1, by omega, rfl, by go_num, H2.out⟩
    · have ekN : N = k := by omega
      subst ekN
      rw [Nat.sub_self, List.replicate_zero, List.append_nil] at hO
      have c0 : wr.cell? ⟨w.heap.size + 1, 0, none⟩ = some (.slice (some ⟨w.heap.size, 0, none⟩) N N) := (cell_of_blk hB 0).trans rfl
      have c1 : wr.cell? ⟨w.heap.size, 0, none⟩ = some (.int .i64 (-1)) := hO.cell (by rw [List.getElem?_replicate, if_pos hpos])
      have f1 := free_of_blk hO 0
      have hO2 := hO.set 0 0
      have hB2 : (wr.setCell ⟨w.heap.size, 0, none⟩ (.int .i64 0)).heap[w.heap.size + 1]? = some (.cells #[.slice (some ⟨w.heap.size, 0, none⟩) N N] 44 (0, 0)) := blk_setOther hB (by simp) _
      have hn2 : New w (wr.setCell ⟨w.heap.size, 0, none⟩ (.int .i64 0)) := hn.setCell (Nat.le_refl _) _
      have hsz2 := hn2.size
      have hbsz := lt_of_block hB2
      have H2 := Lib.hid (And.intro hO2 (And.intro hB2 hn2))
      clear hO hB hn hO2 hB2 hn2
      go_wp2_with fail
      clear c0 c1 f1
      have hWs : (wr.setCell ⟨w.heap.size, 0, none⟩ (.int .i64 0)).heap.size = wr.heap.size := by simp
      generalize wr.setCell ⟨w.heap.size, 0, none⟩ (.int .i64 0) = W0 at *
      have hrow0 : (W0.alloc (.cells #[.int .i64 0] 3)).ownsRow w.heap.size 3 1 (.slice (some ⟨W0.heap.size, 0, none⟩) 1 1) 1 [.int .i64 0] := ⟨rfl, .inr ⟨W0.heap.size, 1, _, rfl, hsz2, heap_alloc_new _ _, Nat.le_refl _, by unfold maxLen; omega, rfl, rfl⟩⟩
      have hne0 : (Value.slice (some ⟨W0.heap.size, 0, none⟩) 1 1).ownBlock ≠ some w.heap.size := fun e => by
        simp only [Value.ownBlock, Option.some.injEq] at e
        omega
      have hI0 : AlikeI N φ E ((List.replicate N (-1 : Int)).set 0 0) [0] 0 := AlikeI.init hpos HH.out.1.zero
      rw [hWs] at hrow0 hne0
      have H3 := Lib.hid (And.intro (H2.out.1.new ((New.refl W0).alloc (.cells #[.int .i64 0] 3))) (And.intro (((New.refl W0).alloc (.cells #[.int .i64 0] 3)).heap H2.out.2.1) (And.intro (H2.out.2.2.alloc (.cells #[.int .i64 0] 3)) (And.intro hrow0 (And.intro hne0 hI0)))))
      clear hrow0 hne0 hI0 H2 hbsz hWs
      go_loopg [11, 12] N (fun gk u11 u12 wr => ∃ (p : Nat) (row : List Nat) (ofL : List Int), p ≤ row.length ∧ gk = N - p ∧ u12 = .int .i64 p ∧ AlikeI N φ E ofL row p ∧ OfAt wr w.heap.size ofL ∧ wr.heap[w.heap.size + 1]? = some (.cells #[.slice (some ⟨w.heap.size, 0, none⟩) N N] 44 (0, 0)) ∧ wr.ownsRow w.heap.size 3 1 u11 row.length (row.map encN) ∧ Hid (u11.ownBlock ≠ some w.heap.size) ∧ New w wr)
      case atStart => exact ⟨0, [0], _, Nat.zero_le _, rfl, rfl, H3.out.2.2.2.2.2, H3.out.1, H3.out.2.1, H3.out.2.2.2.1, Lib.hid H3.out.2.2.2.2.1, H3.out.2.2.1⟩
      case round =>
        clear H3
        obtain ⟨p, row, ofL, hp, rfl, rfl, hI, hO, hB, hR, hne, hn⟩ := hrel
        have hrowN := hI.le
        by_cases hpl : p < row.length
        · obtain ⟨rb, rc, e, hrlt, hrB, hrc⟩ := row_ptr hR (by omega)
          subst e
          have hiN : row[p] < N := hI.lt _ (List.getElem_mem hpl)
          have r0 := hrc p (encN row[p]) (by simp [hpl])
          have hof := hI.set _ (List.getElem_mem hpl)
          have hnA : New w (wr.alloc (.cells #[.int .i64 (row[p] : Int)] 3)) := hn.alloc _
          obtain ⟨ba, oa, a1, c1, ea, ha1, ha2⟩ := (HH.out.2.1.new hnA).elem (k := row[p]) (by rw [HH.out.1.alen]; exact hiN)
          cases ea
          have hφ := HH.out.1.lt _ hiN
          obtain ⟨bb, ob, b1, d1, eb, hb1, hb2⟩ := (HH.out.2.2.2.1.new hnA).elem (k := φ row[p]) (by rw [HH.out.1.blen]; exact hφ)
          cases eb
          have hab : a[row[p]]'(by rw [HH.out.1.alen]; exact hiN) = b[φ row[p]]'(by rw [HH.out.1.blen]; exact hφ) := by
            have := HH.out.1.sets _ hiN
            rw [List.getElem?_eq_getElem (by rw [HH.out.1.alen]; exact hiN), List.getElem?_eq_getElem (by rw [HH.out.1.blen]; exact hφ)] at this
            exact Option.some.inj this
          have hq : ∀ W, New (wr.alloc (.cells #[.int .i64 (row[p] : Int)] 3)) W → Calls Tryz.prog 71 #[.slice a1 _ c1, .slice b1 _ d1] W fun e w' => e = .returned (.bool true) ∧ New W w' := fun W hW => by
            have := Equal_itm (ha2.new hW) (hb2.new hW) (hrow _ (List.getElem_mem _))
            rw [decide_eq_true hab] at this
            exact this
          have HQ := Lib.hid hq
          clear hq
          have hbnd1 : ¬ (N : Int) ≤ (row[p] : Int) := by omega
          have hbnd2 : ¬ (N : Int) ≤ (φ row[p] : Int) := by omega
          have HX := Lib.hid (And.intro hI (And.intro hO (And.intro hB (And.intro hR (And.intro hne.out hn)))))
          have k0 : (wr.alloc (.cells #[.int .i64 (row[p] : Int)] 3)).cell? ⟨w.heap.size + 1, 0, none⟩ = some (.slice (some ⟨w.heap.size, 0, none⟩) N N) := ((New.refl wr).alloc _).cell ((cell_of_blk hB 0).trans rfl)
          have k1 : (wr.alloc (.cells #[.int .i64 (row[p] : Int)] 3)).cell? ⟨w.heap.size, row[p], none⟩ = some (.int .i64 (φ row[p] : Int)) := ((New.refl wr).alloc _).cell (hO.cell hof)
          have k2 : (wr.alloc (.cells #[.int .i64 (row[p] : Int)] 3)).cell? ⟨wr.heap.size, 0, none⟩ = some (.int .i64 (row[p] : Int)) := by simp
          have hszr := hn.size
          clear hI hO hB hR hne hn ha2 hb2 hab hof hnA hrc
          have hpg : row[p]? = some row[p] := List.getElem?_eq_getElem hpl
          have HPG := Lib.hid hpg
          clear hpg
          generalize row[p] = i at *
          have hb1b : decide (N ≤ i) = false := decide_eq_false (by omega)
          have hb2b : decide (N ≤ φ i) = false := decide_eq_false (by omega)
          go_wp2_with fail
          have hpi := heap_alloc_new wr (.cells #[.int .i64 (i : Int)] 3)
          have HW := Lib.hid ((New.refl wr).alloc (.cells #[.int .i64 (i : Int)] 3))
          generalize hWg : wr.alloc (.cells #[.int .i64 (i : Int)] 3) = W at *
          clear hWg
          go_still_tail 25, (by kernel_rfl)
          change wpList _ _ _ _ _ (World.drew _)
          go_wp2_with (go_at_call 71; refine (HQ.out _ ((New.refl W).drewN 1)).mono ?_; rintro e w4 ⟨rfl, hn4⟩)
          obtain ⟨pi, hpie⟩ : ∃ pi, pi = wr.heap.size := ⟨_, rfl⟩
          rw [← hpie] at hpi k2 hszr
          rw [← hpie]
          have hnr4 : New wr w4 := HW.out.trans (((New.refl W).drewN 1).trans hn4)
          have hpi4 : w4.heap[pi]? = some (.cells #[.int .i64 (i : Int)] 3 (0, 0)) := (((New.refl W).drewN 1).trans hn4).heap hpi
          have hnep : (Value.slice (some ⟨rb, 0, none⟩) row.length rc).ownBlock ≠ some pi := fun e => by
            have := (HX.out.2.2.2.1.lt pi e).2
            omega
          have H4 := Lib.hid (And.intro HX.out.1 (And.intro (HX.out.2.1.new hnr4) (And.intro (hnr4.heap HX.out.2.2.1) (And.intro (ownsRow_new HX.out.2.2.2.1 hnr4) (And.intro hpi4 (And.intro (HX.out.2.2.2.2.2.trans hnr4) hnep))))))
          have hpw : w.heap.size + 1 < pi := by have := lt_of_block HX.out.2.2.1; omega
          clear hpi k0 k1 k2 hnr4 hpi4 hnep hn4 r0 ha1 hb1 hpie hrlt
          go_loopg [11, 89] E.length (fun gj u11 u89 wr => ∃ (j : Nat) (row' : List Nat) (ofL' : List Int), j ≤ E.length ∧ gj = E.length - j ∧ u89 = .int .i64 j ∧ AlikeI N φ E ofL' row' p ∧ Hid (∀ t x, t < j → E[t]? = some x → x.1 = i → x.2.2 ∈ row') ∧ Hid (row'[p]? = some i) ∧ OfAt wr w.heap.size ofL' ∧ wr.heap[w.heap.size + 1]? = some (.cells #[.slice (some ⟨w.heap.size, 0, none⟩) N N] 44 (0, 0)) ∧ wr.heap[pi]? = some (.cells #[.int .i64 (i : Int)] 3 (0, 0)) ∧ wr.ownsRow w.heap.size 3 1 u11 row'.length (row'.map encN) ∧ Hid (u11.ownBlock ≠ some w.heap.size) ∧ Hid (u11.ownBlock ≠ some pi) ∧ New w wr)
          case atStart => exact ⟨0, row, ofL, Nat.zero_le _, rfl, rfl, H4.out.1, Lib.hid (fun t x ht => by omega), HPG, H4.out.2.1, H4.out.2.2.1, H4.out.2.2.2.2.1, H4.out.2.2.2.1, Lib.hid HX.out.2.2.2.2.1, Lib.hid H4.out.2.2.2.2.2.2, H4.out.2.2.2.2.2.1⟩
          case round =>
            clear H4
            obtain ⟨j, row', ofL', hj, rfl, rfl, hI, hD, hP, hO, hB, hpi, hR, hne, hnep, hn⟩ := hrel
            have hpl' : p < row'.length := (List.getElem?_eq_some_iff.1 hP.out).1
            have hrowN' := hI.le
            by_cases hjl : j < E.length
            · obtain ⟨eb, eo, x, ee, hx, x1, x2, x3⟩ := (HH.out.2.2.1.new hn).elemX hjl
              cases ee
              simp only [edg3] at x1 x2 x3
              have hxE : x ∈ E := List.mem_of_getElem? hx
              have hfr := HH.out.1.fr x hxE
              have d1 : wr.cell? ⟨pi, 0, none⟩ = some (.int .i64 (i : Int)) := (cell_of_blk hpi 0).trans rfl
              have HY := Lib.hid (And.intro hI (And.intro hO (And.intro hB (And.intro hpi (And.intro hR hn)))))
              have HXE := Lib.hid (And.intro hx hxE)
              have hszj := hn.size
              have hlp := lt_of_block hpi
              clear hI hO hB hpi hR hn hx hxE
              by_cases hxi : x.1 = i
              · have hxi2 : ((x.1 : Int) != (i : Int)) = false := by rw [hxi]; simp
                have hsome := HH.out.1.some x HXE.out.2
                have hofi := HY.out.1.set i (List.mem_of_getElem? hP.out)
                have hn1 : New wr (wr.alloc (.cells #[.int .i64 (x.1 : Int), sv x.2.1, .int .i64 (x.2.2 : Int)] 64)) := (New.refl wr).alloc _
                have hFl : F.length ≤ 1000000 := by rw [← HH.out.1.elen]; exact hE
                have hq := Lib.hid (IndexEdg_any (w := wr.alloc (.cells #[.int .i64 (x.1 : Int), sv x.2.1, .int .i64 (x.2.2 : Int)] 64)) (HH.out.2.2.2.2.new (HY.out.2.2.2.2.2.trans hn1)) hFl (pof := w.heap.size + 1) (pi := pi) (px := wr.heap.size) (ob := w.heap.size) (oo := 0) (N := N) (cN := N) (i := i) (j := (φ i : Int)) (X := x.2.1)
                  (hn1.cell ((cell_of_blk HY.out.2.2.1 0).trans rfl)) (hn1.cell d1) hiN (by rw [Nat.zero_add]; exact hn1.cell (HY.out.2.1.cell hofi)) (by simp))
                have HS := Lib.hid (And.intro hsome (And.intro hn1 (And.intro hxi hFl)))
                clear hsome hofi hn1 hxi hFl
                go_wp2_with fail
                refine hq.out.mono ?_
                rintro e w5 ⟨r, rfl, hr, hn5⟩
                clear hq
                rcases hr with ⟨rfl, hno⟩ | ⟨k, y, rfl, hk, hy1, hy2⟩
                · exfalso
                  obtain ⟨y, hyF, e1, e2⟩ := HS.out.1
                  exact hno y hyF ⟨by rw [e1, HS.out.2.2.1], e2⟩
                · have hto : y.2.2 = φ x.2.2 := HH.out.1.to x HXE.out.2 y (List.mem_of_getElem? hk) (by rw [HS.out.2.2.1]; exact Int.natCast_inj.1 hy1) hy2
                  have hnw5 : New wr w5 := HS.out.2.1.trans hn5
                  have hkF : k < F.length := (List.getElem?_eq_some_iff.1 hk).1
                  have hkE : k < E.length := by rw [HH.out.1.elen]; exact hkF
                  obtain ⟨fb, fo, y', ef, hy', _, _, y3⟩ := (HH.out.2.2.2.2.new (HY.out.2.2.2.2.2.trans hnw5)).elemX hkF
                  cases ef
                  rw [hk] at hy'
                  cases hy'
                  simp only [edg3, hto] at y3
                  have e0 : w5.cell? ⟨w.heap.size + 1, 0, none⟩ = some (.slice (some ⟨w.heap.size, 0, none⟩) N N) := hnw5.cell ((cell_of_blk HY.out.2.2.1 0).trans rfl)
                  have e2 : w5.cell? ⟨wr.heap.size, 2, none⟩ = some (.int .i64 (x.2.2 : Int)) := hn5.cell (by simp)
                  have hO5 := HY.out.2.1.new hnw5
                  have H5 := Lib.hid (And.intro hnw5 (And.intro (hnw5.heap HY.out.2.2.1) (And.intro (hnw5.heap HY.out.2.2.2.1) (And.intro (ownsRow_new HY.out.2.2.2.2.1 hnw5) (And.intro (HY.out.2.2.2.2.2.trans hnw5) hO5)))))
                  have hk0 : ¬ (k : Int) < 0 := by omega
                  have ht0 : ¬ (x.2.2 : Int) < 0 := by omega
                  have htN : ¬ (N : Int) ≤ (x.2.2 : Int) := by omega
                  have hφ0 : (0 : Int) ≤ (φ x.2.2 : Int) := by omega
                  have hφ1 : ¬ (φ x.2.2 : Int) < 0 := by omega
                  have htlt := hfr.2
                  have hk0b : decide ((k : Int) < 0) = false := decide_eq_false hk0
                  have ht0b : decide ((x.2.2 : Int) < 0) = false := decide_eq_false ht0
                  have htNb : decide (N ≤ x.2.2) = false := decide_eq_false (by omega)
                  have hDnext : ∀ R : List Nat, (∀ z ∈ row', z ∈ R) → x.2.2 ∈ R → ∀ t z, t < j + 1 → E[t]? = some z → z.1 = i → z.2.2 ∈ R := fun R hsub hin t z ht hz hzi => by
                    by_cases e : t = j
                    · subst e; rw [HXE.out.1] at hz; cases hz; exact hin
                    · exact hsub _ (hD.out t z (by omega) hz hzi)
                  have HDN := Lib.hid hDnext
                  clear hDnext hn5 hk hy1 hy2 hto hkF hfr d1 x1 x2 x3
                  by_cases hin : x.2.2 ∈ row'
                  · have g1 : w5.cell? ⟨w.heap.size, x.2.2, none⟩ = some (.int .i64 (φ x.2.2 : Int)) := hO5.cell (HY.out.1.set _ hin)
                    have HIN := Lib.hid hin
                    clear hO5 hin hnw5
                    go_wp2_with fail
                    go_still (by kernel_rfl)
                    go_wp2
                    go_roundg (E.length - (j + 1))
                    case measure => omega
                    case rel => exact ⟨j + 1, row', ofL', by omega, rfl, by go_num, HY.out.1, Lib.hid (HDN.out row' (fun _ h => h) HIN.out), hP, H5.out.2.2.2.2.2.new ((New.refl w5).drewN 1), ((New.refl w5).drewN 1).heap H5.out.2.1, ((New.refl w5).drewN 1).heap H5.out.2.2.1, ownsRow_new H5.out.2.2.2.1 ((New.refl w5).drewN 1), hne, hnep, H5.out.2.2.2.2.1.drewN 1⟩
                  · obtain ⟨z, hz⟩ : ∃ z : Int, z = -1 := ⟨_, rfl⟩
                    have g1 : w5.cell? ⟨w.heap.size, x.2.2, none⟩ = some (.int .i64 z) := hO5.cell (by rw [hz]; exact HY.out.1.free _ htlt hin)
                    have hz0 : ¬ (0 : Int) ≤ z := by omega
                    have hz1 : z < 0 := by omega
                    have hz0b : decide ((0 : Int) ≤ z) = false := decide_eq_false hz0
                    clear hz
                    have f1 := free_of_blk hO5 x.2.2
                    have HIN := Lib.hid hin
                    clear hO5 hin hnw5
                    go_wp2_with fail
                    go_quiet (fail)
                    have HZ := Lib.hid ((New.refl w5).drewN nq)
                    have e0' := HZ.out.cell e0
                    have e2' := HZ.out.cell e2
                    have g1' := HZ.out.cell g1
                    have y3' := HZ.out.cell y3
                    have f1' : (w5.drewN nq).frozen? ⟨w.heap.size, x.2.2, none⟩ = false := f1
                    clear e0 e2 g1 y3 f1
                    generalize hW6 : w5.drewN nq = w6 at *
                    clear hW6
                    have hpx : ¬ w.heap.size = wr.heap.size := by omega
                    have hn6 := HZ.out.drewN 1
                    have hOS : OfAt (World.setCell w6.drew ⟨w.heap.size, x.2.2, none⟩ (.int .i64 (φ x.2.2 : Int))) w.heap.size (ofL'.set x.2.2 (φ x.2.2 : Int)) := (H5.out.2.2.2.2.2.new hn6).set _ _
                    have hBS : (World.setCell w6.drew ⟨w.heap.size, x.2.2, none⟩ (.int .i64 (φ x.2.2 : Int))).heap[w.heap.size + 1]? = some (.cells #[.slice (some ⟨w.heap.size, 0, none⟩) N N] 44 (0, 0)) := blk_setOther (hn6.heap H5.out.2.1) (by simp) _
                    have hPS : (World.setCell w6.drew ⟨w.heap.size, x.2.2, none⟩ (.int .i64 (φ x.2.2 : Int))).heap[pi]? = some (.cells #[.int .i64 (i : Int)] 3 (0, 0)) := blk_setOther (hn6.heap H5.out.2.2.1) (show w.heap.size ≠ pi by omega) _
                    have hRS := ownsRow_setCell_other (ownsRow_new H5.out.2.2.2.1 hn6) (a := ⟨w.heap.size, x.2.2, none⟩) hne.out (.int .i64 (φ x.2.2 : Int))
                    have hnS : New w (World.setCell w6.drew ⟨w.heap.size, x.2.2, none⟩ (.int .i64 (φ x.2.2 : Int))) := (H5.out.2.2.2.2.1.trans hn6).setCell (Nat.le_refl _) _
                    have HZS := Lib.hid (And.intro hOS (And.intro hBS (And.intro hPS (And.intro hRS hnS))))
                    have hszS := hnS.size
                    clear hOS hBS hPS hRS hnS hn6
                    go_wp2_with fail
                    go_still_tail 9, (by kernel_rfl)
                    change wpList _ _ _ _ _ (World.drew _)
                    go_wp2_with (at_builtin; go_must (refine wpList_push _ rfl _ _ _ _ rfl T44 w.heap.size _ row'.length (row'.map encN) rfl HZS.out.2.2.2.1 [_] rfl rfl _ _ rfl (by first | rfl | simp) (by omega) (by omega) hszS ?_))
                    intro v' w7 hown7 hgrow hne7 hat
                    obtain ⟨hOS, hBS, hPS, hRS, hnS⟩ := HZS.out
                    have hg : (World.setCell w6.drew ⟨w.heap.size, x.2.2, none⟩ (.int .i64 (φ x.2.2 : Int))).grownBy w7 u11.ownBlock := ⟨hgrow.os, hgrow.tape, hgrow.output, hgrow.size, hgrow.block⟩
                    have hO7 : OfAt w7 w.heap.size (ofL'.set x.2.2 (φ x.2.2 : Int)) := (hg.block _ (lt_of_block hOS) (fun e => hne.out e.symm)).trans hOS
                    have hB7 : w7.heap[w.heap.size + 1]? = some (.cells #[.slice (some ⟨w.heap.size, 0, none⟩) N N] 44 (0, 0)) := (hg.block _ (lt_of_block hBS) (fun e => ownBlock_ne hRS hBS (by decide) e.symm)).trans hBS
                    have hP7 : w7.heap[pi]? = some (.cells #[.int .i64 (i : Int)] 3 (0, 0)) := (hg.block _ (lt_of_block hPS) (fun e => hnep.out e.symm)).trans hPS
                    have hn7 : New w w7 := Below.push hnS hRS hg hszS
                    have hszp := lt_of_block hPS
                    have hszo := lt_of_block hOS
                    have hat' : v'.ownBlock = u11.ownBlock ∨ ∃ b, v'.ownBlock = some b ∧ (World.setCell w6.drew ⟨w.heap.size, x.2.2, none⟩ (.int .i64 (φ x.2.2 : Int))).heap.size ≤ b := hat.imp id fun ⟨b, e, hb⟩ => ⟨b, e, by simpa using hb⟩
                    have hv1 : v'.ownBlock ≠ some w.heap.size := by
                      rcases hat' with e | ⟨b, e, hb⟩
                      · rw [e]; exact hne.out
                      · rw [e]; intro e2; injection e2 with e2; omega
                    have hv2 : v'.ownBlock ≠ some pi := by
                      rcases hat' with e | ⟨b, e, hb⟩
                      · rw [e]; exact hnep.out
                      · rw [e]; intro e2; injection e2 with e2; omega
                    have hR7 : w7.ownsRow w.heap.size 3 1 v' (row' ++ [x.2.2]).length ((row' ++ [x.2.2]).map encN) := by
                      rw [List.length_append, List.map_append]; exact hown7
                    have hI7 := HY.out.1.put (Nat.le_of_lt hpl') htlt HIN.out
                    have hP7' : (row' ++ [x.2.2])[p]? = some i := by rw [List.getElem?_append_left hpl']; exact hP.out
                    have hD7 := HDN.out (row' ++ [x.2.2]) (fun z hz => List.mem_append.2 (.inl hz)) (by simp)
                    have HFI := Lib.hid (And.intro hO7 (And.intro hB7 (And.intro hP7 (And.intro hn7 (And.intro hv1 (And.intro hv2 (And.intro hR7 (And.intro hI7 (And.intro hP7' hD7)))))))))
                    obtain ⟨av, cv, rfl⟩ := owns_slice hown7
                    clear hOS hBS hPS hRS hnS hg hO7 hB7 hP7 hn7 hszp hszo hat' hv1 hv2 hR7 hI7 hP7' hD7 hgrow hne7 hat hown7
                    go_wp2
                    go_roundg (E.length - (j + 1))
                    case measure => omega
                    case rel =>
                      obtain ⟨k1, k2, k3, k4, k5, k6, k7, k8, k9, k10⟩ := HFI.out
                      exact ⟨j + 1, _, _, by omega, rfl, by go_num, k8, Lib.hid k10, Lib.hid k9, k1, k2, k3, k7, Lib.hid k5, Lib.hid k6, k4⟩
              · have hxi2 : ((x.1 : Int) != (i : Int)) = true := by simp; omega
                have hxi3 : ¬ (x.1 : Int) = (i : Int) := by omega
                have HD := Lib.hid (show ∀ t y, t < j + 1 → E[t]? = some y → y.1 = i → y.2.2 ∈ row' from fun t y ht hy hyi => by
                  by_cases e : t = j
                  · subst e; rw [HXE.out.1] at hy; cases hy; exact absurd hyi hxi
                  · exact hD.out t y (by omega) hy hyi)
                clear hxi
                go_wp2
                have hnw : New wr (wr.alloc (.cells #[.int .i64 (x.1 : Int), sv x.2.1, .int .i64 (x.2.2 : Int)] 64)) := (New.refl wr).alloc _
                go_roundg (E.length - (j + 1))
                case measure => omega
                case rel => exact ⟨j + 1, row', ofL', by omega, rfl, by go_num, HY.out.1, HD, hP, HY.out.2.1.new hnw, hnw.heap HY.out.2.2.1, hnw.heap HY.out.2.2.2.1, ownsRow_new HY.out.2.2.2.2.1 hnw, hne, hnep, HY.out.2.2.2.2.2.trans hnw⟩
            · have hI2 := Lib.hid (hI.next hpl' fun x hx e => by
                have e1 : row'[p] = i := (List.getElem?_eq_some_iff.1 hP.out).2
                rw [e1] at e
                obtain ⟨t, ht⟩ := List.getElem?_of_mem hx
                exact hD.out t x (by have := (List.getElem?_eq_some_iff.1 ht).1; omega) ht e)
              clear hI
              go_wp2
              go_roundg (N - (p + 1))
              case measure => omega
              case rel => exact ⟨p + 1, row', ofL', by omega, rfl, by go_num, hI2.out, hO, hB, hR, hne, hn⟩
        · have hlen := Lib.hid (hI.end HH.out.1 (by omega))
          obtain ⟨aR, cR, eR⟩ := owns_slice hR
          subst eR
          have hlb : (row.length : Int) = (N : Int) := by rw [hlen.out]
          have HN := Lib.hid hn
          clear hI hO hB hR hne hn
          go_wp2
          go_ret
          exact ⟨ret_bool (by simp), HN.out⟩
end Go.Proofs.YtdejcdmgcckmoaaGreatDoor
