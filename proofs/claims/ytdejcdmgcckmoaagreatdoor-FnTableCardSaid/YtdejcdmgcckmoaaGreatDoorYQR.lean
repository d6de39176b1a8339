/- The reference: which action stands at a conflict. -/
import Derived.Test.YtdejcdmgcckmoaaGreatDoorYNN
namespace Go.Proofs.YtdejcdmgcckmoaaGreatDoor
open Go.RowKit Go.Sort Lr

/-- A row of actions behind its first. -/
theorem acs_tail {w : World} {a : Option Addr} {n c : Nat} {L : List Ac} (h : RowK ac4 4 w (.slice a n c) L) (h0 : 0 < L.length) :
    ∃ a' c', (∀ W, (Instr.slice 49 (.slice a n c) (some (.int .i64 1)) none none).run Tryz.prog W = .ok (.slice a' (L.drop 1).length c') W) ∧ RowK ac4 4 w (.slice a' (L.drop 1).length c') (L.drop 1) := by
  obtain ⟨a1, c1, e, hcap, hc⟩ := h
  cases e
  obtain ⟨b, o, rfl, hcc⟩ := hc h0
  refine ⟨some ⟨b, if c = 1 then o else o + 4, none⟩, c - 1, fun W => ?_, ?_⟩
  · rw [run_slice_l W 49 (some ⟨b, o, none⟩) L.length c (by rw [show Tryz.prog.elem 49 = 61 from by kernel_rfl]; exact T49.und) .i64 1 (by omega) (by omega)]
    have hs : (sizeOf (Tryz.prog.elem 49)).run Tryz.prog W = .ok 4 W := by kernel_rfl
    rw [hs]
    have e1 : (1 : Int).toNat = 1 := rfl
    simp only [Result.andThen_ok, sliced, e1, List.length_drop]
    by_cases h : c = 1
    · simp [h]
    · simp [h, Addr.add]
  · refine ⟨_, _, rfl, by rw [List.length_drop]; omega, fun h0 => ⟨b, if c = 1 then o else o + 4, rfl, fun j hj k hk => ?_⟩⟩
    have h1 : ¬ c = 1 := by rw [List.length_drop] at h0; omega
    rw [if_neg h1]
    rw [List.length_drop] at hj
    have := hcc (1 + j) (by omega) k hk
    rw [show o + 4 + j * 4 + k = o + (1 + j) * 4 + k by omega, this]
    simp [Nat.add_comm 1 j]
theorem set4 {w : World} {q : Nat} {c0 c1 c2 c3 : Value} {t : TypeId} (h : w.heap[q]? = some (.cells #[c0, c1, c2, c3] t (0, 0))) (u0 u1 u2 u3 : Value) :
    ((((w.setCell ⟨q, 0, none⟩ u0).setCell ⟨q, 1, none⟩ u1).setCell ⟨q, 2, none⟩ u2).setCell ⟨q, 3, none⟩ u3).heap[q]? = some (.cells #[u0, u1, u2, u3] t (0, 0)) := by
  have := set_of_blk (set_of_blk (set_of_blk (set_of_blk h 0 u0) 1 u1) 2 u2) 3 u3
  simpa using this
theorem new4 {w0 w : World} (h : New w0 w) {q : Nat} (hq : w0.heap.size ≤ q) (u0 u1 u2 u3 : Value) : New w0 ((((w.setCell ⟨q, 0, none⟩ u0).setCell ⟨q, 1, none⟩ u1).setCell ⟨q, 2, none⟩ u2).setCell ⟨q, 3, none⟩ u3) :=
  (((h.setCell (a := ⟨q, 0, none⟩) hq _).setCell (a := ⟨q, 1, none⟩) hq _).setCell (a := ⟨q, 2, none⟩) hq _).setCell (a := ⟨q, 3, none⟩) hq _
theorem resolved_take {S : List KN} {j : Nat} (h : 1 + j < S.length) : resolvedF (S.take (1 + j + 1)) = stepR (resolvedF (S.take (1 + j))) S[1 + j] := by
  match S, h with
  | x :: l, h =>
    have hl : j < l.length := by simp at h; omega
    have e1 : (x :: l).take (1 + j + 1) = x :: l.take (j + 1) := by rw [show 1 + j + 1 = (j + 1) + 1 by omega]; rfl
    have e2 : (x :: l).take (1 + j) = x :: l.take j := by rw [show 1 + j = j + 1 by omega]; rfl
    have e3 : (x :: l)[1 + j] = l[j] := by simp [show 1 + j = j + 1 by omega]
    rw [e1, e2, e3]
    show (l.take (j + 1)).foldl stepR x = stepR ((l.take j).foldl stepR x) l[j]
    rw [List.take_succ_eq_append_getElem hl, List.foldl_append]; rfl
set_option maxRecDepth 20000 in
set_option maxHeartbeats 2000000 in
theorem Resolved_any {w : World} {v : Value} {i : Nat} {s : Str} {S : List KN} (h : RowK ac4 4 w v (acsOf i s S)) (hS : 0 < S.length) (hl : S.length ≤ 1000000) :
    Calls Tryz.prog 39 #[v] w fun e w' => e = .returned (acA (i, s, (resolvedF S).1, (resolvedF S).2)) ∧ New w w' := by
  obtain ⟨a, cap, rfl⟩ := h.slice
  have hlen := acsOf_len i s S
  obtain ⟨a', c', hsl, htl⟩ := acs_tail h (by omega)
  obtain ⟨b, o, e, hcell⟩ := h.elem (j := 0) (by omega)
  cases e
  obtain ⟨d0, d1, d2, d3⟩ := elem4 hcell
  have he0 : (acsOf i s S)[0]'(by omega) = (i, s, S[0].1, S[0].2) := by simp [acsOf]
  rw [he0] at d0 d1 d2 d3
  simp only [ac4, List.getElem?_cons_zero, List.getElem?_cons_succ, Nat.zero_mul, Nat.add_zero] at d0 d1 d2 d3
  have htl2 : (acsOf i s S).drop 1 = acsOf i s (S.drop 1) := by simp [acsOf]
  rw [htl2] at hsl htl
  simp only [acsOf_len] at hsl htl
  have HT := Lib.hid htl
  have HL := Lib.hid hlen
  clear h hcell he0 htl htl2
  go_enter Tryz.func39, Tryz.ntmps39
  rw [hlen]
  clear hlen
  obtain ⟨D, hD⟩ : ∃ D, D = S.drop 1 := ⟨_, rfl⟩
  rw [← hD] at hsl HT
  have hDl : D.length + 1 = S.length := by rw [hD, List.length_drop]; omega
  have HD := Lib.hid (And.intro hD hDl)
  clear hD
  have hDb : D.length ≤ 1000000 := by omega
  clear hDl
  have hn0 : New w (w.alloc (.cells #[.int .i64 0, .string ⟨#[]⟩, .int .i64 0, .int .i64 0] 61)) := (New.refl w).alloc _
  have d0 := hn0.cell d0
  have d1 := hn0.cell d1
  have d2 := hn0.cell d2
  have d3 := hn0.cell d3
  have H0 := Lib.hid (And.intro hn0 (heap_alloc_new w (.cells #[.int .i64 0, .string ⟨#[]⟩, .int .i64 0, .int .i64 0] 61)))
  clear hn0
  go_wp2_with fail
  have hO0 : ((w.alloc (.cells #[.int .i64 0, .string ⟨#[]⟩, .int .i64 0, .int .i64 0] 61)).alloc (.cells #[.int .i64 (i : Int), sv s, .int .i64 S[0].1, .int .i64 S[0].2] 61)).heap[(w.alloc (.cells #[.int .i64 0, .string ⟨#[]⟩, .int .i64 0, .int .i64 0] 61)).heap.size]? = some (.cells #[.int .i64 (i : Int), sv s, .int .i64 (resolvedF (S.take (1 + 0))).1, .int .i64 (resolvedF (S.take (1 + 0))).2] 61 (0, 0)) := by
    have e : resolvedF (S.take (1 + 0)) = S[0] := by
      match S, hS with
      | x :: l, _ => rfl
    rw [e]
    exact heap_alloc_new _ _
  have hsz0 : (w.alloc (.cells #[.int .i64 0, .string ⟨#[]⟩, .int .i64 0, .int .i64 0] 61)).heap.size = w.heap.size + 1 := by simp
  rw [hsz0] at hO0
  have hN1 : New (w.alloc (.cells #[.int .i64 0, .string ⟨#[]⟩, .int .i64 0, .int .i64 0] 61)) ((w.alloc (.cells #[.int .i64 0, .string ⟨#[]⟩, .int .i64 0, .int .i64 0] 61)).alloc (.cells #[.int .i64 (i : Int), sv s, .int .i64 S[0].1, .int .i64 S[0].2] 61)) := (New.refl _).alloc _
  have H1 := Lib.hid (And.intro hO0 (And.intro hN1 hsz0))
  have Hr := Lib.hid (show w.heap.size < w.heap.size + 1 by omega)
  have Hr2 := Lib.hid (show w.heap.size = w.heap.size from rfl)
  clear hO0 hN1 hsz0 d0 d1 d2 d3
  generalize ((w.alloc (.cells #[.int .i64 0, .string ⟨#[]⟩, .int .i64 0, .int .i64 0] 61)).alloc (.cells #[.int .i64 (i : Int), sv s, .int .i64 S[0].1, .int .i64 S[0].2] 61)) = W1 at *
  generalize w.alloc (.cells #[.int .i64 0, .string ⟨#[]⟩, .int .i64 0, .int .i64 0] 61) = w0 at *
  generalize w.heap.size + 1 = q at *
  generalize hr : w.heap.size = r at *
  have Hr3 := Lib.hid hr
  clear hr
  go_loopg [12] D.length (fun gk u12 wr => ∃ j : Nat, j ≤ D.length ∧ gk = D.length - j ∧ u12 = .int .i64 j ∧ Hid (wr.heap[q]? = some (.cells #[.int .i64 (i : Int), sv s, .int .i64 (resolvedF (S.take (1 + j))).1, .int .i64 (resolvedF (S.take (1 + j))).2] 61 (0, 0))) ∧ Hid (New w0 wr))
  case atStart => exact ⟨0, Nat.zero_le _, rfl, rfl, Lib.hid H1.out.1, Lib.hid H1.out.2.1⟩
  case round =>
    obtain ⟨j, hj, rfl, rfl, hO, hn⟩ := hrel
    by_cases hlt : j < D.length
    · obtain ⟨b2, o2, e, hcell⟩ := (HT.out.new ac4_len (H0.out.1.trans hn.out)).elem (j := j) (by rw [acsOf_len]; exact hlt)
      cases e
      obtain ⟨d0, d1, d2, d3⟩ := elem4 hcell
      have he0 : (acsOf i s D)[j]'(by rw [acsOf_len]; exact hlt) = (i, s, D[j].1, D[j].2) := by simp [acsOf]
      rw [he0] at d0 d1 d2 d3
      simp only [ac4, List.getElem?_cons_zero, List.getElem?_cons_succ] at d0 d1 d2 d3
      have hDS : ∃ h : 1 + j < S.length, S[1 + j] = D[j] := by
        have h1 := HD.out.2
        have hh : 1 + j < S.length := by omega
        refine ⟨hh, ?_⟩
        have e := HD.out.1
        subst e
        simp [Nat.add_comm 1 j]
      obtain ⟨hjS, hSD⟩ := hDS
      have hrt := resolved_take hjS
      rw [hSD] at hrt
      clear hcell he0 hSD
      generalize D[j] = x at *
      generalize hyy : resolvedF (S.take (1 + j + 1)) = y' at *
      generalize resolvedF (S.take (1 + j)) = y at *
      obtain ⟨x1, x2⟩ := x
      obtain ⟨y1, y2⟩ := y
      simp only at d0 d1 d2 d3 hO
      have hA : New wr (wr.alloc (.cells #[.int .i64 (i : Int), sv s, .int .i64 x1, .int .i64 x2] 61)) := (New.refl wr).alloc _
      have hb := hA.heap hO.out
      have e2 := (cell_of_blk hb 2).trans rfl
      have e3 := (cell_of_blk hb 3).trans rfl
      have e0 := (cell_of_blk hb 0).trans rfl
      have e1 := (cell_of_blk hb 1).trans rfl
      have f0 := free_of_blk hb
      have g0 := (cell_of_blk hO.out 0).trans rfl
      have g1 := (cell_of_blk hO.out 1).trans rfl
      have g2 := (cell_of_blk hO.out 2).trans rfl
      have g3 := (cell_of_blk hO.out 3).trans rfl
      have k0 := free_of_blk hO.out
      have HO := Lib.hid hO.out
      have hql := lt_of_block hO.out
      have HB := Lib.hid (And.intro hb (And.intro (hn.out.trans hA) hrt))
      have hq0 : w0.heap.size ≤ q := Nat.le_of_eq H1.out.2.2
      clear hb hA hrt hO
      have HYY := Lib.hid hyy
      clear hyy
      by_cases hs1 : x1 < y1
      · have hs1b : decide (x1 < y1) = true := decide_eq_true hs1
        have HST := Lib.hid (show stepR (y1, y2) (x1, x2) = (x1, x2) from if_pos (.inl hs1))
        go_wp2_with fail
        go_roundg (D.length - (j + 1))
        case measure => omega
        case rel => exact ⟨j + 1, by omega, rfl, by go_num, Lib.hid (by rw [show 1 + (j + 1) = 1 + j + 1 by omega, HYY.out, HB.out.2.2, HST.out]; exact ((New.refl _).alloc _).heap (set4 HO.out _ _ _ _)), Lib.hid ((new4 hn.out hq0 _ _ _ _).alloc _)⟩
      · have hs1b : decide (x1 < y1) = false := decide_eq_false hs1
        by_cases hs2 : x1 = y1
        · subst hs2
          by_cases hs3 : x2 < y2
          · have hs3b : decide (x2 < y2) = true := decide_eq_true hs3
            have HST := Lib.hid (show stepR (x1, y2) (x1, x2) = (x1, x2) from if_pos (.inr ⟨rfl, hs3⟩))
            go_wp2_with fail
            go_roundg (D.length - (j + 1))
            case measure => omega
            case rel => exact ⟨j + 1, by omega, rfl, by go_num, Lib.hid (by rw [show 1 + (j + 1) = 1 + j + 1 by omega, HYY.out, HB.out.2.2, HST.out]; exact ((New.refl _).alloc _).heap (set4 HO.out _ _ _ _)), Lib.hid ((new4 hn.out hq0 _ _ _ _).alloc _)⟩
          · have hs3b : decide (x2 < y2) = false := decide_eq_false hs3
            have HST := Lib.hid (show stepR (x1, y2) (x1, x2) = (x1, y2) from if_neg (by rintro (h | ⟨_, h⟩); exact hs1 h; exact hs3 h))
            go_wp2_with fail
            go_roundg (D.length - (j + 1))
            case measure => omega
            case rel => exact ⟨j + 1, by omega, rfl, by go_num, Lib.hid (by rw [show 1 + (j + 1) = 1 + j + 1 by omega, HYY.out, HB.out.2.2, HST.out]; exact HB.out.1), Lib.hid HB.out.2.1⟩
        · have hs2b : (x1 == y1) = false := beq_eq_false_iff_ne.2 hs2
          have HST := Lib.hid (show stepR (y1, y2) (x1, x2) = (y1, y2) from if_neg (by rintro (h | ⟨h, _⟩); exact hs1 h; exact hs2 h))
          go_wp2_with fail
          go_roundg (D.length - (j + 1))
          case measure => omega
          case rel => exact ⟨j + 1, by omega, rfl, by go_num, Lib.hid (by rw [show 1 + (j + 1) = 1 + j + 1 by omega, HYY.out, HB.out.2.2, HST.out]; exact HB.out.1), Lib.hid HB.out.2.1⟩
    · have e : S.take (1 + j) = S := List.take_of_length_le (by have := HD.out.2; omega)
      rw [e] at hO
      have hbr := hn.out.heap H0.out.2
      have g0 := (cell_of_blk hO.out 0).trans rfl
      have g1 := (cell_of_blk hO.out 1).trans rfl
      have g2 := (cell_of_blk hO.out 2).trans rfl
      have g3 := (cell_of_blk hO.out 3).trans rfl
      have e0 := (cell_of_blk hbr 0).trans rfl
      have e1 := (cell_of_blk hbr 1).trans rfl
      have e2 := (cell_of_blk hbr 2).trans rfl
      have e3 := (cell_of_blk hbr 3).trans rfl
      have k0 := free_of_blk hbr
      have hb7 := set4 hbr (.int .i64 (i : Int)) (.string ⟨s.toArray⟩) (.int .i64 (resolvedF S).1) (.int .i64 (resolvedF S).2)
      have hn7 := new4 (H0.out.1.trans hn.out) (q := r) (Nat.le_of_eq Hr3.out) (.int .i64 (i : Int)) (.string ⟨s.toArray⟩) (.int .i64 (resolvedF S).1) (.int .i64 (resolvedF S).2)
      have H7 := Lib.hid (And.intro hb7 hn7)
      clear hO hbr hn hb7 hn7
      go_wp2_with fail
      (try simp only [Exit.inBlock, Exit.then])
      refine bodyPost_ret (results_cell_row rfl _ _ r 61 _ (0, 0) _ rfl H7.out.1 Tryz.underlying61 rfl (by kernel_rfl)) rfl ?_
      exact ⟨rfl, H7.out.2⟩
end Go.Proofs.YtdejcdmgcckmoaaGreatDoor
