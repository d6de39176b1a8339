/- The reference: what is said at a state and a terminal. -/
import Derived.Test.YtdejcdmgcckmoaaGreatDoorYKK
namespace Go.Proofs.YtdejcdmgcckmoaaGreatDoor
open Go.RowKit Go.Sort Lr

/-! Looking for an action, for an edge. -/
abbrev acA (x : Ac) : Value := .agg #[.int .i64 (x.1 : Int), sv x.2.1, .int .i64 x.2.2.1, .int .i64 x.2.2.2]
theorem eq_ac (x y : Ac) (w : World) : (Op.equalIn 10000 61 (acA x) (acA y)).run Tryz.prog w = .ok (decide (x = y)) w := by
  have u3 := Tryz.underlying3
  have a3 := Tryz.isAgg3
  have z3 := Tryz.sizeOf3
  have u9 := Tryz.underlying9
  have a9 := Tryz.isAgg9
  have z9 := Tryz.sizeOf9
  have hS : Tryz.prog.underlying 61 = some (.struct (Tryz.prog.fieldsOf 61)) := by kernel_rfl
  have hp : Tryz.prog.stoodInHeld 61 = false := by kernel_rfl
  obtain ⟨a, b, c, d⟩ := x
  obtain ⟨a', b', c', d'⟩ := y
  rw [show (10000 : Nat) = 9999 + 1 from rfl, run_equalIn_agg w 9999 61 _ _ hS hp]
  simp only [Program.fieldsOf, Tryz.underlying61]
  go_simp
  by_cases h1 : a = a' <;> by_cases h2 : b = b' <;> by_cases h3 : c = c' <;> by_cases h4 : d = d' <;> simp [h1, h2, h3, h4, Int.natCast_inj]
theorem eql_ac (x y : Ac) (w : World) : (binOp .eql 61 (acA x) (acA y)).run Tryz.prog w = .ok (.bool (decide (x = y))) w := by
  rw [run_eql_struct, eq_ac]; rfl
theorem eq_edg (x y : Edg) (w : World) : (Op.equalIn 10000 64 (edgA x) (edgA y)).run Tryz.prog w = .ok (decide (x = y)) w := by
  have u3 := Tryz.underlying3
  have a3 := Tryz.isAgg3
  have z3 := Tryz.sizeOf3
  have u9 := Tryz.underlying9
  have a9 := Tryz.isAgg9
  have z9 := Tryz.sizeOf9
  have hS : Tryz.prog.underlying 64 = some (.struct (Tryz.prog.fieldsOf 64)) := by kernel_rfl
  have hp : Tryz.prog.stoodInHeld 64 = false := by kernel_rfl
  obtain ⟨a, b, c⟩ := x
  obtain ⟨a', b', c'⟩ := y
  rw [show (10000 : Nat) = 9999 + 1 from rfl, run_equalIn_agg w 9999 64 _ _ hS hp]
  simp only [Program.fieldsOf, Tryz.underlying64]
  go_simp
  by_cases h1 : a = a' <;> by_cases h2 : b = b' <;> by_cases h3 : c = c' <;> simp [h1, h2, h3, Int.natCast_inj]
theorem eql_edg (x y : Edg) (w : World) : (binOp .eql 64 (edgA x) (edgA y)).run Tryz.prog w = .ok (.bool (decide (x = y))) w := by
  rw [run_eql_struct, eq_edg]; rfl
set_option maxRecDepth 20000 in
set_option maxHeartbeats 1000000 in
theorem Index_ac {w : World} {v : Value} {L : List Ac} (h : RowK ac4 4 w v L) (hl : L.length ≤ 1000000) (x : Ac) :
    Calls Tryz.prog 90 #[v, acA x] w fun e w' => ∃ r : Int, e = .returned (.int .i64 r) ∧ (0 ≤ r ↔ x ∈ L) ∧ New w w' := by
  obtain ⟨a, cap, rfl⟩ := h.slice
  have hgd : Tryz.prog.eqGuardType Tryz.prog.depth 61 = false := by kernel_rfl
  go_enter Tryz.func90, Tryz.ntmps90
  go_wp2
  have hn0 : New w (w.alloc (.cells #[.int .i64 (x.1 : Int), sv x.2.1, .int .i64 x.2.2.1, .int .i64 x.2.2.2] 61)) := (New.refl w).alloc _
  have c1 : (w.alloc (.cells #[.int .i64 (x.1 : Int), sv x.2.1, .int .i64 x.2.2.1, .int .i64 x.2.2.2] 61)).cell? ⟨w.heap.size, 0, none⟩ = some (.int .i64 (x.1 : Int)) := by simp
  have c2 : (w.alloc (.cells #[.int .i64 (x.1 : Int), sv x.2.1, .int .i64 x.2.2.1, .int .i64 x.2.2.2] 61)).cell? ⟨w.heap.size, 1, none⟩ = some (sv x.2.1) := by simp
  have c3 : (w.alloc (.cells #[.int .i64 (x.1 : Int), sv x.2.1, .int .i64 x.2.2.1, .int .i64 x.2.2.2] 61)).cell? ⟨w.heap.size, 2, none⟩ = some (.int .i64 x.2.2.1) := by simp
  have c4 : (w.alloc (.cells #[.int .i64 (x.1 : Int), sv x.2.1, .int .i64 x.2.2.1, .int .i64 x.2.2.2] 61)).cell? ⟨w.heap.size, 3, none⟩ = some (.int .i64 x.2.2.2) := by simp
  have HC := Lib.hid (And.intro h (And.intro hn0 (And.intro c1 (And.intro c2 (And.intro c3 c4)))))
  clear h hn0 c1 c2 c3 c4
  go_loopg [8] L.length (fun gk u8 wr => ∃ k : Nat, k ≤ L.length ∧ gk = L.length - k ∧ u8 = .int .i64 k ∧ Hid (∀ j, j < k → (hj : j < L.length) → L[j] ≠ x) ∧ Hid (New (w.alloc (.cells #[.int .i64 (x.1 : Int), sv x.2.1, .int .i64 x.2.2.1, .int .i64 x.2.2.2] 61)) wr))
  case atStart => exact ⟨0, Nat.zero_le _, rfl, rfl, Lib.hid (fun j hj => by omega), Lib.hid (New.refl _)⟩
  case round =>
    obtain ⟨k, hk, rfl, rfl, hne, hn⟩ := hrel
    by_cases hlt : k < L.length
    · obtain ⟨b, o, e1, hcell⟩ := ((HC.out.1.new ac4_len (HC.out.2.1.trans hn.out))).elem hlt
      obtain ⟨h1, h2, h3, h4⟩ := elem4 hcell
      have c1 := hn.out.cell HC.out.2.2.1
      have c2 := hn.out.cell HC.out.2.2.2.1
      have c3 := hn.out.cell HC.out.2.2.2.2.1
      have c4 := hn.out.cell HC.out.2.2.2.2.2
      cases e1
      simp only [ac4, List.getElem?_cons_zero, List.getElem?_cons_succ] at h1 h2 h3 h4
      have hq : ∀ w : World, (binOp .eql 61 (.agg #[.int .i64 (x.1 : Int), sv x.2.1, .int .i64 x.2.2.1, .int .i64 x.2.2.2]) (.agg #[.int .i64 (L[k].1 : Int), sv L[k].2.1, .int .i64 L[k].2.2.1, .int .i64 L[k].2.2.2])).run Tryz.prog w = .ok (.bool (decide (x = L[k]))) w := eql_ac x L[k]
      have hn1 : New w wr := HC.out.2.1.trans hn.out
      have HN := Lib.hid hn1
      clear hn1 hcell
      by_cases hx : x = L[k]
      · have hm : x ∈ L := by rw [hx]; exact List.getElem_mem hlt
        have HM := Lib.hid hm
        simp only [decide_eq_true hx] at hq
        clear hx hm
        go_wp2_with fail
        go_still (by kernel_rfl)
        go_wp2
        go_ret
        exact ⟨k, rfl, by simp [HM.out], HN.out.drewN 1⟩
      · simp only [decide_eq_false hx] at hq
        have HX := Lib.hid hx
        clear hx
        go_wp2_with fail
        go_still (by kernel_rfl)
        go_wp2
        go_roundg (L.length - (k + 1))
        case measure => omega
        case rel =>
          refine ⟨k + 1, by omega, rfl, by go_num, Lib.hid fun j hj hjl => ?_, Lib.hid (hn.out.drewN 1)⟩
          by_cases e : j = k
          · subst e; exact fun e2 => HX.out e2.symm
          · exact hne.out j (by omega) hjl
    · go_wp2
      go_ret
      refine ⟨-1, rfl, ?_, HC.out.2.1.trans hn.out⟩
      constructor
      · intro h; omega
      · intro h
        obtain ⟨j, hj, e⟩ := List.getElem_of_mem h
        exact absurd e (hne.out j (by omega) hj)
set_option maxRecDepth 20000 in
set_option maxHeartbeats 1000000 in
theorem Contains_ac {w : World} {v : Value} {L : List Ac} (h : RowK ac4 4 w v L) (hl : L.length ≤ 1000000) (x : Ac) :
    Calls Tryz.prog 38 #[v, acA x] w fun e w' => e = .returned (.bool (decide (x ∈ L))) ∧ New w w' := by
  obtain ⟨a, cap, rfl⟩ := h.slice
  have hn0 : New w (w.alloc (.cells #[.int .i64 (x.1 : Int), sv x.2.1, .int .i64 x.2.2.1, .int .i64 x.2.2.2] 61)) := (New.refl w).alloc _
  have hq := Lib.hid (Index_ac (h.new ac4_len hn0) hl x)
  have HN := Lib.hid hn0
  clear h hn0
  go_enter Tryz.func38, Tryz.ntmps38
  go_wp2_with (go_at_call 90; refine hq.out.mono ?_; rintro e w' ⟨r, rfl, hr, hn⟩)
  go_ret
  refine ⟨?_, HN.out.trans hn⟩
  refine ret_bool ?_
  by_cases hx : x ∈ L
  · simp [hx]
  · simp [hx]
set_option maxRecDepth 20000 in
set_option maxHeartbeats 1000000 in
theorem Index_edg {w : World} {v : Value} {L : List Edg} (h : EdgsAt w v L) (hl : L.length ≤ 1000000) (x : Edg) :
    Calls Tryz.prog 91 #[v, edgA x] w fun e w' => ∃ r : Int, e = .returned (.int .i64 r) ∧ (0 ≤ r ↔ x ∈ L) ∧ New w w' := by
  obtain ⟨a, cap, rfl⟩ := h.slice
  have hgd : Tryz.prog.eqGuardType Tryz.prog.depth 64 = false := by kernel_rfl
  go_enter Tryz.func91, Tryz.ntmps91
  go_wp2
  have hn0 : New w (w.alloc (.cells #[.int .i64 (x.1 : Int), sv x.2.1, .int .i64 (x.2.2 : Int)] 64)) := (New.refl w).alloc _
  have c1 : (w.alloc (.cells #[.int .i64 (x.1 : Int), sv x.2.1, .int .i64 (x.2.2 : Int)] 64)).cell? ⟨w.heap.size, 0, none⟩ = some (.int .i64 (x.1 : Int)) := by simp
  have c2 : (w.alloc (.cells #[.int .i64 (x.1 : Int), sv x.2.1, .int .i64 (x.2.2 : Int)] 64)).cell? ⟨w.heap.size, 1, none⟩ = some (sv x.2.1) := by simp
  have c3 : (w.alloc (.cells #[.int .i64 (x.1 : Int), sv x.2.1, .int .i64 (x.2.2 : Int)] 64)).cell? ⟨w.heap.size, 2, none⟩ = some (.int .i64 (x.2.2 : Int)) := by simp
  have HC := Lib.hid (And.intro h (And.intro hn0 (And.intro c1 (And.intro c2 c3))))
  clear h hn0 c1 c2 c3
  go_loopg [8] L.length (fun gk u8 wr => ∃ k : Nat, k ≤ L.length ∧ gk = L.length - k ∧ u8 = .int .i64 k ∧ Hid (∀ j, j < k → (hj : j < L.length) → L[j] ≠ x) ∧ Hid (New (w.alloc (.cells #[.int .i64 (x.1 : Int), sv x.2.1, .int .i64 (x.2.2 : Int)] 64)) wr))
  case atStart => exact ⟨0, Nat.zero_le _, rfl, rfl, Lib.hid (fun j hj => by omega), Lib.hid (New.refl _)⟩
  case round =>
    obtain ⟨k, hk, rfl, rfl, hne, hn⟩ := hrel
    by_cases hlt : k < L.length
    · obtain ⟨b, o, e1, h1, h2, h3⟩ := (HC.out.1.new (HC.out.2.1.trans hn.out)).elem hlt
      have c1 := hn.out.cell HC.out.2.2.1
      have c2 := hn.out.cell HC.out.2.2.2.1
      have c3 := hn.out.cell HC.out.2.2.2.2
      cases e1
      simp only [edg3] at h1 h2 h3
      have hq : ∀ w : World, (binOp .eql 64 (.agg #[.int .i64 (x.1 : Int), sv x.2.1, .int .i64 (x.2.2 : Int)]) (.agg #[.int .i64 (L[k].1 : Int), sv L[k].2.1, .int .i64 (L[k].2.2 : Int)])).run Tryz.prog w = .ok (.bool (decide (x = L[k]))) w := eql_edg x L[k]
      have hn1 : New w wr := HC.out.2.1.trans hn.out
      have HN := Lib.hid hn1
      clear hn1
      by_cases hx : x = L[k]
      · have hm : x ∈ L := by rw [hx]; exact List.getElem_mem hlt
        have HM := Lib.hid hm
        simp only [decide_eq_true hx] at hq
        clear hx hm
        go_wp2_with fail
        go_still (by kernel_rfl)
        go_wp2
        go_ret
        exact ⟨k, rfl, by simp [HM.out], HN.out.drewN 1⟩
      · simp only [decide_eq_false hx] at hq
        have HX := Lib.hid hx
        clear hx
        go_wp2_with fail
        go_still (by kernel_rfl)
        go_wp2
        go_roundg (L.length - (k + 1))
        case measure => omega
        case rel =>
          refine ⟨k + 1, by omega, rfl, by go_num, Lib.hid fun j hj hjl => ?_, Lib.hid (hn.out.drewN 1)⟩
          by_cases e : j = k
          · subst e; exact fun e2 => HX.out e2.symm
          · exact hne.out j (by omega) hjl
    · go_wp2
      go_ret
      refine ⟨-1, rfl, ?_, HC.out.2.1.trans hn.out⟩
      constructor
      · intro h; omega
      · intro h
        obtain ⟨j, hj, e⟩ := List.getElem_of_mem h
        exact absurd e (hne.out j (by omega) hj)
set_option maxRecDepth 20000 in
set_option maxHeartbeats 1000000 in
theorem Contains_edg {w : World} {v : Value} {L : List Edg} (h : EdgsAt w v L) (hl : L.length ≤ 1000000) (x : Edg) :
    Calls Tryz.prog 40 #[v, edgA x] w fun e w' => e = .returned (.bool (decide (x ∈ L))) ∧ New w w' := by
  obtain ⟨a, cap, rfl⟩ := h.slice
  have hn0 : New w (w.alloc (.cells #[.int .i64 (x.1 : Int), sv x.2.1, .int .i64 (x.2.2 : Int)] 64)) := (New.refl w).alloc _
  have hq := Lib.hid (Index_edg (h.new hn0) hl x)
  have HN := Lib.hid hn0
  clear h hn0
  go_enter Tryz.func40, Tryz.ntmps40
  go_wp2_with (go_at_call 91; refine hq.out.mono ?_; rintro e w' ⟨r, rfl, hr, hn⟩)
  go_ret
  refine ⟨?_, HN.out.trans hn⟩
  refine ret_bool ?_
  by_cases hx : x ∈ L
  · simp [hx]
  · simp [hx]
end Go.Proofs.YtdejcdmgcckmoaaGreatDoor
namespace Go.Proofs.YtdejcdmgcckmoaaGreatDoor
open Go.RowKit Go.Sort Lr

/-! What the reference says at a state and a terminal. -/
def acsOf (i : Nat) (s : Str) (S : List KN) : List Ac := S.map fun y => (i, s, y.1, y.2)
theorem acsOf_mem {i : Nat} {s : Str} {S : List KN} {y : KN} : ((i, s, y.1, y.2) : Ac) ∈ acsOf i s S ↔ y ∈ S := by
  unfold acsOf
  rw [List.mem_map]
  constructor
  · rintro ⟨z, hz, e⟩
    have : z = y := by
      obtain ⟨z1, z2⟩ := z
      simp only [Prod.mk.injEq] at e
      exact Prod.ext e.2.2.1 e.2.2.2
    rw [← this]; exact hz
  · intro h; exact ⟨y, h, rfl⟩
theorem acsOf_has {i : Nat} {s : Str} {S : List KN} {y : KN} (h : y ∈ S) : acsOf i s (addA S y) = acsOf i s S := by
  unfold addA; rw [if_pos (by simpa using h)]
theorem acsOf_new {i : Nat} {s : Str} {S : List KN} {y : KN} (h : y ∉ S) : acsOf i s (addA S y) = acsOf i s S ++ [(i, s, y.1, y.2)] := by
  unfold addA; rw [if_neg (by simpa using h)]; simp [acsOf]
theorem acsOf_len (i : Nat) (s : Str) (S : List KN) : (acsOf i s S).length = S.length := by simp [acsOf]
/-- The reference's list under way: its cell, and the row. -/
structure OutAt (w : World) (B p : Nat) (L : List Ac) (vO : Value) : Prop where
  blk : w.heap[p]? = some (.cells #[vO] 49 (0, 0))
  own : OwnK ac4 4 61 w B vO L
  hB : B ≤ p
  hsz : B ≤ w.heap.size
theorem OutAt.new {w w' : World} {B p : Nat} {L : List Ac} {vO : Value} (h : OutAt w B p L vO) (hn : New w w') : OutAt w' B p L vO := ⟨hn.heap h.blk, ownsRow_new h.own hn, h.hB, Nat.le_trans h.hsz hn.size⟩
set_option maxRecDepth 20000 in
set_option maxHeartbeats 1000000 in
theorem add_any {w : World} {B p b8 b9 : Nat} {S : List KN} {vO : Value} {i : Nat} {s : Str} (h : OutAt w B p (acsOf i s S) vO) (c8 : w.cell? ⟨b8, 0, none⟩ = some (.int .i64 (i : Int))) (c9 : w.cell? ⟨b9, 0, none⟩ = some (sv s)) (hl : S.length ≤ 500000) (k n : Int) :
    Calls Tryz.prog 87 #[.int .i64 k, .int .i64 n, .pointer (some ⟨b8, 0, none⟩), .pointer (some ⟨b9, 0, none⟩), .pointer (some ⟨p, 0, none⟩)] w fun e w' => e = .returned (.tuple #[]) ∧ ∃ vO', OutAt w' B p (acsOf i s (addA S (k, n))) vO' ∧ Below B w w' := by
  obtain ⟨a, c, eO⟩ := owns_slice h.own
  subst eO
  have cp := cell_of_blk h.blk 0
  simp only [List.getElem?_toArray, List.getElem?_cons_zero] at cp
  have hn0 : New w (w.alloc (.cells #[.int .i64 (i : Int), sv s, .int .i64 k, .int .i64 n] 61)) := (New.refl w).alloc _
  have hq := Lib.hid (Contains_ac (RowK.of_owns ac4_len (h.new hn0).own) (by rw [acsOf_len]; omega) (i, s, k, n))
  have hpl := lt_of_block h.blk
  have HH := Lib.hid (And.intro h hn0)
  have hlen := acsOf_len i s S
  have HL := Lib.hid hlen
  clear h hn0 hlen
  by_cases hm : (k, n) ∈ S
  · have hd : decide (((i, s, k, n) : Ac) ∈ acsOf i s S) = true := decide_eq_true (acsOf_mem (y := (k, n)).2 hm)
    rw [hd] at hq
    rw [acsOf_has hm]
    clear hd hm
    go_enter Tryz.func87, Tryz.ntmps87
    go_wp2_with (go_at_call 38; refine hq.out.mono ?_; rintro e w' ⟨rfl, hn⟩)
    go_end0
    exact ⟨rfl, _, HH.out.1.new (HH.out.2.trans hn), (HH.out.2.trans hn).mono HH.out.1.hsz⟩
  · have hd : decide (((i, s, k, n) : Ac) ∈ acsOf i s S) = false := decide_eq_false (fun h => hm (acsOf_mem (y := (k, n)).1 h))
    rw [hd] at hq
    rw [acsOf_new hm]
    clear hd hm
    have d0 : (w.alloc (.cells #[.int .i64 (i : Int), sv s, .int .i64 k, .int .i64 n] 61)).cell? ⟨w.heap.size, 0, none⟩ = some (.int .i64 (i : Int)) := by simp
    have d1 : (w.alloc (.cells #[.int .i64 (i : Int), sv s, .int .i64 k, .int .i64 n] 61)).cell? ⟨w.heap.size, 1, none⟩ = some (sv s) := by simp
    have d2 : (w.alloc (.cells #[.int .i64 (i : Int), sv s, .int .i64 k, .int .i64 n] 61)).cell? ⟨w.heap.size, 2, none⟩ = some (.int .i64 k) := by simp
    have d3 : (w.alloc (.cells #[.int .i64 (i : Int), sv s, .int .i64 k, .int .i64 n] 61)).cell? ⟨w.heap.size, 3, none⟩ = some (.int .i64 n) := by simp
    have HD := Lib.hid (And.intro d0 (And.intro d1 (And.intro d2 d3)))
    clear d0 d1 d2 d3
    go_enter Tryz.func87, Tryz.ntmps87
    go_wp2_with (first | (go_at_call 38; refine hq.out.mono ?_; rintro e w1 ⟨rfl, hn⟩; have cp := (HH.out.2.trans hn).cell cp; have d0 := hn.cell HD.out.1; have d1 := hn.cell HD.out.2.1; have d2 := hn.cell HD.out.2.2.1; have d3 := hn.cell HD.out.2.2.2; have H1 := Lib.hid (HH.out.1.new (HH.out.2.trans hn)); have hsz := hn.size; have HN := Lib.hid hn; clear hn) | (at_builtin; go_must (refine wpList_push _ rfl _ _ _ _ rfl T49 B _ _ _ rfl H1.out.own [_, _, _, _] rfl rfl _ _ rfl (by simp) (by rw [acsOf_len]; omega) (by rw [acsOf_len]; omega) H1.out.hsz ?_)))
    intro v8 w8 hown8 hgrow8 hne8 hat8
    have hb8 := (hgrow8.block p (by have := HN.out.size; simp at this; omega) (fun e => ownBlock_ne H1.out.own H1.out.blk (by decide) e.symm)).trans H1.out.blk
    have e1 := cell_of_blk hb8 0
    simp only [List.getElem?_toArray, List.getElem?_cons_zero] at e1
    have e2 := free_of_blk hb8 0
    have hO8 := OwnK.push (x := (i, s, k, n)) (L := acsOf i s S) (enc := ac4) hown8
    have hB8 := Below.push ((HH.out.2.trans HN.out).mono HH.out.1.hsz) H1.out.own hgrow8 H1.out.hsz
    have hs8 := set_of_blk hb8 0 v8
    have HX := Lib.hid (And.intro hO8 (And.intro hB8 hs8))
    have HB := Lib.hid hb8
    obtain ⟨a9, c9', e9⟩ := owns_slice hown8
    subst e9
    clear hO8 hB8 hs8 hb8 hown8 hgrow8 hne8 hat8
    go_wp2
    go_end0
    refine ⟨rfl, _, ⟨?_, ownsRow_setCell_other HX.out.1 (a := ⟨p, 0, none⟩) (ownBlock_ne HX.out.1 HB.out (by decide)) _, H1.out.hB, ?_⟩, HX.out.2.1.setCell H1.out.hB _⟩
    · rw [HX.out.2.2]; simp
    · exact Nat.le_trans HH.out.1.hsz (HX.out.2.1.setCell H1.out.hB _).size
end Go.Proofs.YtdejcdmgcckmoaaGreatDoor
namespace Go.Proofs.YtdejcdmgcckmoaaGreatDoor
open Go.RowKit Go.Sort Lr

theorem saidE_take {i : Nat} {s : Str} {E : List Edg} {j : Nat} (h : j < E.length) : saidE i s (E.take (j + 1)) = stepE i s (saidE i s (E.take j)) E[j] := by
  unfold saidE; rw [List.take_succ_eq_append_getElem h, List.foldl_append]; rfl
def saidP (g : Gram) (l : List Itm) (E : List Edg) (i : Nat) (s : Str) (j : Nat) : List KN := (l.take j).foldl (stepW g s) (saidE i s E)
theorem saidP_take {g : Gram} {l : List Itm} {E : List Edg} {i : Nat} {s : Str} {j : Nat} (h : j < l.length) : saidP g l E i s (j + 1) = stepW g s (saidP g l E i s j) l[j] := by
  unfold saidP; rw [List.take_succ_eq_append_getElem h, List.foldl_append]; rfl
theorem saidP_len (g : Gram) (l : List Itm) (E : List Edg) (i : Nat) (s : Str) (j : Nat) : (saidP g l E i s j).length ≤ E.length + l.length := by
  have h1 := saidF_len g (l.take j) E i s
  rw [List.length_take] at h1
  unfold saidF at h1
  unfold saidP; omega
theorem new_of_below {W0 wr : World} {B : Nat} (h : Below B W0 wr) (e : W0.heap.size = B) : New W0 wr := by subst e; exact h
theorem stepW_some {g : Gram} {s : Str} {S : List KN} {x : Itm} {a : KN} (h : whatI g s x = some a) : stepW g s S x = addA S a := by unfold stepW; rw [h]
theorem stepW_none {g : Gram} {s : Str} {S : List KN} {x : Itm} (h : nextS g x ≠ [] ∨ x.look ≠ s) : stepW g s S x = S := by
  have : whatI g s x = none := by change nxt g x ≠ [] ∨ _ at h; unfold whatI; rw [if_pos h]
  unfold stepW; rw [this]
theorem stepW_acc {g : Gram} {s : Str} {S : List KN} {d : Nat} (h : nextS g ⟨none, d, s⟩ = []) : stepW g s S ⟨none, d, s⟩ = addA S (3, 0) := stepW_some (what_some.2 ⟨h, rfl, .inl ⟨rfl, rfl⟩⟩)
theorem stepW_red {g : Gram} {s : Str} {S : List KN} {p d : Nat} (h : nextS g ⟨some p, d, s⟩ = []) : stepW g s S ⟨some p, d, s⟩ = addA S (2, (p : Int)) := stepW_some (what_some.2 ⟨h, rfl, .inr ⟨p, rfl, rfl⟩⟩)
theorem nextS_nxt (g : Gram) (i : Itm) : nextS g i = nxt g i := rfl
set_option maxRecDepth 20000 in
set_option maxHeartbeats 2000000 in
theorem Said_any {g : Gram} (hg : GOk g) {γ : List Str} {l : List Itm} (hl : ∀ x ∈ l, Vld g γ x) (hll : l.length ≤ 10000) {E : List Edg} (hEl : E.length ≤ 200000) (v vl vE : Value) (i : Nat) (s : Str) (hs0 : 0 < s.length) (w : World) (h : GramAt w v g) (hL : ItmsAt w vl l) (hE : EdgsAt w vE E) :
    Calls Tryz.prog 35 #[v, vl, vE, .int .i64 (i : Int), sv s] w fun e w' => ∃ v', e = .returned v' ∧ RowK ac4 4 w' v' (acsOf i s (saidF g l E i s)) ∧ New w w' := by
  have hm := hg.toSm
  obtain ⟨a, cap, rfl⟩ := h.slice
  obtain ⟨al, cl, rfl⟩ := hL.slice
  obtain ⟨aE, cE, rfl⟩ := hE.slice
  have hn0 : New w ((w.alloc (.cells #[.int .i64 (i : Int)] 3)).alloc (.cells #[sv s] 9)) := ((New.refl w).alloc _).alloc _
  have HH := Lib.hid (And.intro (h.new hn0) (And.intro (hL.new hn0) (And.intro (hE.new hn0) (And.intro hn0 hl))))
  have c8 : ((w.alloc (.cells #[.int .i64 (i : Int)] 3)).alloc (.cells #[sv s] 9)).cell? ⟨w.heap.size, 0, none⟩ = some (.int .i64 (i : Int)) := by simp
  have c9 : ((w.alloc (.cells #[.int .i64 (i : Int)] 3)).alloc (.cells #[sv s] 9)).cell? ⟨w.heap.size + 1, 0, none⟩ = some (sv s) := by
    simp
  have HC := Lib.hid (And.intro c8 c9)
  clear h hL hE hn0 hl c8 c9
  go_enter Tryz.func35, Tryz.ntmps35
  go_wp2
  have hO0 : OutAt ((((w.alloc (.cells #[.int .i64 (i : Int)] 3)).alloc (.cells #[sv s] 9)).alloc (.cells #[] 61)).alloc (.cells #[.slice (some ⟨w.heap.size + 1 + 1, 0, none⟩) 0 0] 49)) (w.heap.size + 1 + 1) (w.heap.size + 1 + 1 + 1) (acsOf i s (saidE i s (E.take 0))) (.slice (some ⟨w.heap.size + 1 + 1, 0, none⟩) 0 0) := by
    have e1 : ((w.alloc (.cells #[.int .i64 (i : Int)] 3)).alloc (.cells #[sv s] 9)).heap.size = w.heap.size + 1 + 1 := by simp
    have e2 : (((w.alloc (.cells #[.int .i64 (i : Int)] 3)).alloc (.cells #[sv s] 9)).alloc (.cells #[] 61)).heap.size = w.heap.size + 1 + 1 + 1 := by simp
    refine ⟨?_, ?_, by omega, by simp⟩
    · have := heap_alloc_new (((w.alloc (.cells #[.int .i64 (i : Int)] 3)).alloc (.cells #[sv s] 9)).alloc (.cells #[] 61)) (.cells #[.slice (some ⟨w.heap.size + 1 + 1, 0, none⟩) 0 0] 49)
      rwa [e2] at this
    · have h1 := World.ownsRow_made ((w.alloc (.cells #[.int .i64 (i : Int)] 3)).alloc (.cells #[sv s] 9)) (base := w.heap.size + 1 + 1) (e := 61) (size := 4) #[] 0 (by simp) (Nat.zero_le _) rfl
      rw [e1] at h1
      exact h1.alloc _
  have hB0 : Below (w.heap.size + 1 + 1) ((w.alloc (.cells #[.int .i64 (i : Int)] 3)).alloc (.cells #[sv s] 9)) ((((w.alloc (.cells #[.int .i64 (i : Int)] 3)).alloc (.cells #[sv s] 9)).alloc (.cells #[] 61)).alloc (.cells #[.slice (some ⟨w.heap.size + 1 + 1, 0, none⟩) 0 0] 49)) :=
    (((Below.refl _ _).alloc (by simp) _).alloc (by simp) _)
  have hsB : ((w.alloc (.cells #[.int .i64 (i : Int)] 3)).alloc (.cells #[sv s] 9)).heap.size = w.heap.size + 1 + 1 := by simp
  have HS := Lib.hid (And.intro hO0 (And.intro hB0 hsB))
  clear hO0 hB0 hsB
  generalize ((((w.alloc (.cells #[.int .i64 (i : Int)] 3)).alloc (.cells #[sv s] 9)).alloc (.cells #[] 61)).alloc (.cells #[.slice (some ⟨w.heap.size + 1 + 1, 0, none⟩) 0 0] 49)) = Ws at *
  generalize ((w.alloc (.cells #[.int .i64 (i : Int)] 3)).alloc (.cells #[sv s] 9)) = W0 at *
  generalize w.heap.size + 1 + 1 + 1 = p at *
  generalize w.heap.size + 1 + 1 = B at *
  generalize w.heap.size + 1 = b9 at *
  generalize hb8 : w.heap.size = b8 at *
  clear hb8
  go_loopg [21] E.length (fun gk u21 wr => ∃ (j : Nat) (vO : Value), j ≤ E.length ∧ gk = E.length - j ∧ u21 = .int .i64 j ∧ Hid (OutAt wr B p (acsOf i s (saidE i s (E.take j))) vO) ∧ Hid (Below B W0 wr))
  case atStart => exact ⟨0, _, Nat.zero_le _, rfl, rfl, Lib.hid HS.out.1, Lib.hid HS.out.2.1⟩
  case round =>
    obtain ⟨j, vO, hj, rfl, rfl, hO, hB⟩ := hrel
    by_cases hlt : j < E.length
    · have hnw := new_of_below hB.out HS.out.2.2
      obtain ⟨b, o, x, e, hx, h1, h2, h3⟩ := (HH.out.2.2.1.new hnw).elemX hlt
      cases e
      have d8 := hnw.cell HC.out.1
      have d9 := hnw.cell HC.out.2
      have hxe : E[j] = x := (List.getElem?_eq_some_iff.1 hx).2
      have hT := saidE_take (i := i) (s := s) hlt
      rw [hxe] at hT
      have HT := Lib.hid hT
      have hlS := saidE_len i s (E.take j)
      rw [List.length_take] at hlS
      have HLS := Lib.hid hlS
      obtain ⟨f, y, t⟩ := x
      simp only [edg3] at h1 h2 h3
      clear hx hxe hT hlS
      have a8 := ((New.refl wr).alloc (.cells #[.int .i64 (f : Int), sv y, .int .i64 (t : Int)] 64)).cell d8
      have a9 := ((New.refl wr).alloc (.cells #[.int .i64 (f : Int), sv y, .int .i64 (t : Int)] 64)).cell d9
      have HN := Lib.hid hnw
      clear hnw
      have hsz := hO.out.hsz
      by_cases hf : f = i
      · subst hf
        by_cases hy : y = s
        · subst hy
          cases hgr : greatB y with
          | true =>
            have hst : stepE f y (saidE f y (E.take j)) (f, y, t) = saidE f y (E.take j) := by unfold stepE; rw [if_neg (by simp [hgr])]
            have hqg := Lib.hid (fun W => great_any y W hs0)
            rw [hgr] at hqg
            go_wp2_with (go_at_call 43; refine (hqg.out _).mono ?_; rintro e w' ⟨rfl, rfl⟩)
            go_roundg (E.length - (j + 1))
            case measure => omega
            case rel => exact ⟨j + 1, vO, by omega, rfl, by go_num, Lib.hid (by rw [HT.out, hst]; exact hO.out.new ((New.refl _).alloc _)), Lib.hid (hB.out.alloc hsz _)⟩
          | false =>
            have hst : stepE f y (saidE f y (E.take j)) (f, y, t) = addA (saidE f y (E.take j)) (1, (t : Int)) := by unfold stepE; rw [if_pos ⟨rfl, rfl, hgr⟩]
            have hqg := Lib.hid (fun W => great_any y W hs0)
            rw [hgr] at hqg
            have hO1 := hO.out.new ((New.refl wr).alloc (.cells #[.int .i64 (f : Int), sv y, .int .i64 (t : Int)] 64))
            have hqa := Lib.hid (add_any hO1 a8 a9 (by have := HLS.out; omega) 1 (t : Int))
            clear hO1
            go_wp2_with (first | (go_at_call 43; refine (hqg.out _).mono ?_; rintro e w' ⟨rfl, rfl⟩) | (go_at_call 87; refine hqa.out.mono ?_; rintro e w5 ⟨rfl, vO', hO5, hB5⟩))
            go_roundg (E.length - (j + 1))
            case measure => omega
            case rel => exact ⟨j + 1, vO', by omega, rfl, by go_num, Lib.hid (by rw [HT.out, hst]; exact hO5), Lib.hid ((hB.out.alloc hsz _).trans hB5)⟩
        · have hyb : (y == s) = false := beq_eq_false_iff_ne.2 hy
          have hst : stepE f s (saidE f s (E.take j)) (f, y, t) = saidE f s (E.take j) := by unfold stepE; rw [if_neg (fun h => hy h.2.1)]
          clear hy
          go_wp2_with fail
          go_roundg (E.length - (j + 1))
          case measure => omega
          case rel => exact ⟨j + 1, vO, by omega, rfl, by go_num, Lib.hid (by rw [HT.out, hst]; exact hO.out.new ((New.refl _).alloc _)), Lib.hid (hB.out.alloc hsz _)⟩
      · have hfb : ((f : Int) == (i : Int)) = false := beq_eq_false_iff_ne.2 (by omega)
        have hst : stepE i s (saidE i s (E.take j)) (f, y, t) = saidE i s (E.take j) := by unfold stepE; rw [if_neg (fun h => hf h.1)]
        clear hf
        go_wp2_with fail
        go_roundg (E.length - (j + 1))
        case measure => omega
        case rel => exact ⟨j + 1, vO, by omega, rfl, by go_num, Lib.hid (by rw [HT.out, hst]; exact hO.out.new ((New.refl _).alloc _)), Lib.hid (hB.out.alloc hsz _)⟩
    · have e : E.take j = E := List.take_of_length_le (by omega)
      rw [e] at hO
      have HO := Lib.hid (And.intro hO.out hB.out)
      clear hO hB e
      go_wp2_with fail
      go_loopg [47] l.length (fun gk u47 wr => ∃ (j : Nat) (vO : Value), j ≤ l.length ∧ gk = l.length - j ∧ u47 = .int .i64 j ∧ Hid (OutAt wr B p (acsOf i s (saidP g l E i s j)) vO) ∧ Hid (Below B W0 wr))
      case atStart => exact ⟨0, vO, Nat.zero_le _, rfl, rfl, Lib.hid HO.out.1, Lib.hid HO.out.2⟩
      case round =>
        clear vO HO hlt hj
        obtain ⟨j, vO, hj, rfl, rfl, hO, hB⟩ := hrel
        by_cases hlt : j < l.length
        · have hnw := new_of_below hB.out HS.out.2.2
          obtain ⟨b, o, x, e, hx, h1, h2, h3⟩ := (HH.out.2.1.new hnw).elemX hlt
          cases e
          have d8 := hnw.cell HC.out.1
          have d9 := hnw.cell HC.out.2
          have hxe : l[j] = x := (List.getElem?_eq_some_iff.1 hx).2
          have hv : Vld g γ x := HH.out.2.2.2.2 x (List.mem_of_getElem? hx)
          have hT := saidP_take (g := g) (E := E) (i := i) (s := s) hlt
          rw [hxe] at hT
          have HT := Lib.hid hT
          have HLS := Lib.hid (saidP_len g l E i s j)
          have hn1 : New wr (wr.alloc (.cells #[.int .i64 (prodI x.prod), .int .i64 (x.dot : Int), sv x.look] 101)) := (New.refl wr).alloc _
          have a9 := hn1.cell d9
          have a8 := hn1.cell d8
          have hqn := Lib.hid (next_any (HH.out.1.new (hnw.trans hn1)) hm (prdOk_vld hv))
          have hsz := hO.out.hsz
          have k0 : (wr.alloc (.cells #[.int .i64 (prodI x.prod), .int .i64 (x.dot : Int), sv x.look] 101)).cell? ⟨wr.heap.size, 0, none⟩ = some (.int .i64 (prodI x.prod)) := by simp
          have k1 : (wr.alloc (.cells #[.int .i64 (prodI x.prod), .int .i64 (x.dot : Int), sv x.look] 101)).cell? ⟨wr.heap.size, 2, none⟩ = some (sv x.look) := by simp
          have HK := Lib.hid (And.intro k0 (And.intro k1 (And.intro a8 a9)))
          have HB1 := Lib.hid (hB.out.alloc hsz (.cells #[.int .i64 (prodI x.prod), .int .i64 (x.dot : Int), sv x.look] 101))
          have HO1 := Lib.hid (hO.out.new hn1)
          simp only [itm3] at h1 h2 h3
          clear hx hxe hT k0 k1 hn1 hnw d8 d9 hv a8 a9
          obtain ⟨xp, xd, xl⟩ := x
          simp only at hqn h1 h2 h3 HK HB1 HO1
          by_cases hn : nextS g ⟨xp, xd, xl⟩ = []
          · rw [hn] at hqn
            by_cases hxl : xl = s
            · subst hxl
              cases xp with
              | none =>
                have hst := stepW_acc (S := saidP g l E i xl j) hn
                simp only [prodI] at h1 HK HB1 HO1 hqn ⊢
                clear hn
                go_wp2_with (first | (go_at_call 88; refine hqn.out.mono ?_; rintro e w5 ⟨rfl, hn5⟩; have k0 := hn5.cell HK.out.1; have k1 := hn5.cell HK.out.2.1; have a8 := hn5.cell HK.out.2.2.1; have a9 := hn5.cell HK.out.2.2.2; have hqa := Lib.hid (add_any (HO1.out.new hn5) a8 a9 (by have := HLS.out; omega) 3 0); have HN5 := Lib.hid hn5; clear hn5) | (go_at_call 87; refine hqa.out.mono ?_; rintro e w6 ⟨rfl, vO', hO6, hB6⟩))
                go_roundg (l.length - (j + 1))
                case measure => omega
                case rel => exact ⟨j + 1, vO', by omega, rfl, by go_num, Lib.hid (by rw [HT.out, hst]; exact hO6), Lib.hid ((HB1.out.trans (HN5.out.mono HO1.out.hsz)).trans hB6)⟩
              | some p' =>
                have hst := stepW_red (S := saidP g l E i xl j) hn
                simp only [prodI] at h1 HK HB1 HO1 hqn ⊢
                have hp0 : ¬ ((p' : Int) < 0) := by omega
                clear hn
                go_wp2_with (first | (go_at_call 88; refine hqn.out.mono ?_; rintro e w5 ⟨rfl, hn5⟩; have k0 := hn5.cell HK.out.1; have k1 := hn5.cell HK.out.2.1; have a8 := hn5.cell HK.out.2.2.1; have a9 := hn5.cell HK.out.2.2.2; have hqa := Lib.hid (add_any (HO1.out.new hn5) a8 a9 (by have := HLS.out; omega) 2 (p' : Int)); have HN5 := Lib.hid hn5; clear hn5) | (go_at_call 87; refine hqa.out.mono ?_; rintro e w6 ⟨rfl, vO', hO6, hB6⟩))
                go_roundg (l.length - (j + 1))
                case measure => omega
                case rel => exact ⟨j + 1, vO', by omega, rfl, by go_num, Lib.hid (by rw [HT.out, hst]; exact hO6), Lib.hid ((HB1.out.trans (HN5.out.mono HO1.out.hsz)).trans hB6)⟩
            · have hst := stepW_none (g := g) (S := saidP g l E i s j) (x := ⟨xp, xd, xl⟩) (.inr hxl)
              have hxb : (xl == s) = false := beq_eq_false_iff_ne.2 hxl
              clear hn hxl
              go_wp2_with (first | (go_at_call 88; refine hqn.out.mono ?_; rintro e w5 ⟨rfl, hn5⟩; have k0 := hn5.cell HK.out.1; have k1 := hn5.cell HK.out.2.1; have a8 := hn5.cell HK.out.2.2.1; have a9 := hn5.cell HK.out.2.2.2; have HN5 := Lib.hid hn5; clear hn5))
              go_roundg (l.length - (j + 1))
              case measure => omega
              case rel => exact ⟨j + 1, vO, by omega, rfl, by go_num, Lib.hid (by rw [HT.out, hst]; exact HO1.out.new HN5.out), Lib.hid (HB1.out.trans (HN5.out.mono HO1.out.hsz))⟩
          · have hst := stepW_none (g := g) (s := s) (S := saidP g l E i s j) (x := ⟨xp, xd, xl⟩) (.inl hn)
            have hnb : (nextS g ⟨xp, xd, xl⟩ == []) = false := beq_eq_false_iff_ne.2 hn
            clear hn
            generalize nextS g ⟨xp, xd, xl⟩ = nx at *
            go_wp2_with (first | (go_at_call 88; refine hqn.out.mono ?_; rintro e w5 ⟨rfl, hn5⟩; have HN5 := Lib.hid hn5; clear hn5))
            go_roundg (l.length - (j + 1))
            case measure => omega
            case rel => exact ⟨j + 1, vO, by omega, rfl, by go_num, Lib.hid (by rw [HT.out, hst]; exact HO1.out.new HN5.out), Lib.hid (HB1.out.trans (HN5.out.mono HO1.out.hsz))⟩
        · have e : saidP g l E i s j = saidF g l E i s := by unfold saidP saidF; rw [List.take_of_length_le (by omega)]
          rw [e] at hO
          have hcp := cell_of_blk hO.out.blk 0
          simp only [List.getElem?_toArray, List.getElem?_cons_zero] at hcp
          obtain ⟨aO, cO, eO⟩ := owns_slice hO.out.own
          subst eO
          have HF := Lib.hid (And.intro hO.out (new_of_below hB.out HS.out.2.2))
          clear hO hB e
          go_wp2
          go_ret
          exact ⟨_, rfl, RowK.of_owns ac4_len HF.out.1.own, HH.out.2.2.2.1.trans HF.out.2⟩
end Go.Proofs.YtdejcdmgcckmoaaGreatDoor
