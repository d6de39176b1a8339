/- The reference: which parts of a word the grammar has. -/
import Derived.Test.YtdejcdmgcckmoaaGreatDoorYUB
import Derived.Test.YtdejcdmgcckmoaaGreatDoorYUA
import Derived.Test.YtdejcdmgcckmoaaGreatDoorYKK
namespace Go.Proofs.YtdejcdmgcckmoaaGreatDoor
open Go.RowKit Go.Sort Lr

/-! Parts of a word, and places in it. -/
def prt3 (x : Part) : Value × Value × Value := (sv x.1, .int .i64 (x.2.1 : Int), .int .i64 (x.2.2 : Int))
abbrev prtA (x : Part) : Value := .agg #[sv x.1, .int .i64 (x.2.1 : Int), .int .i64 (x.2.2 : Int)]
def nat1 (n : Nat) : List Value := [.int .i64 (n : Int)]
theorem nat1_len (n : Nat) : (nat1 n).length = 1 := rfl
theorem T125 : SliceTy Tryz.prog 125 128 3 32 (.agg #[.string ByteArray.empty, .int .i64 0, .int .i64 0]) := ⟨Tryz.underlying125, by kernel_rfl, rfl, by omega⟩
theorem eq_prt (x y : Part) (w : World) : (Op.equalIn 10000 128 (prtA x) (prtA y)).run Tryz.prog w = .ok (decide (x = y)) w := by
  have u3 := Tryz.underlying3
  have a3 := Tryz.isAgg3
  have z3 := Tryz.sizeOf3
  have u9 := Tryz.underlying9
  have a9 := Tryz.isAgg9
  have z9 := Tryz.sizeOf9
  have hS : Tryz.prog.underlying 128 = some (.struct (Tryz.prog.fieldsOf 128)) := by kernel_rfl
  have hp : Tryz.prog.stoodInHeld 128 = false := by kernel_rfl
  obtain ⟨a, b, c⟩ := x
  obtain ⟨a', b', c'⟩ := y
  rw [show (10000 : Nat) = 9999 + 1 from rfl, run_equalIn_agg w 9999 128 _ _ hS hp]
  simp only [Program.fieldsOf, Tryz.underlying128]
  go_simp
  by_cases h1 : a = a' <;> by_cases h2 : b = b' <;> by_cases h3 : c = c' <;> simp [h1, h2, h3, Int.natCast_inj]
theorem eql_prt (x y : Part) (w : World) : (binOp .eql 128 (prtA x) (prtA y)).run Tryz.prog w = .ok (.bool (decide (x = y))) w := by
  rw [run_eql_struct, eq_prt]; rfl
set_option maxRecDepth 20000 in
set_option maxHeartbeats 1000000 in
theorem Index_prt {w : World} {v : Value} {L : List Part} (h : Row3 prt3 w v L) (hl : L.length ≤ 1000000) (x : Part) :
    Calls Tryz.prog 122 #[v, prtA x] w fun e w' => ∃ r : Int, e = .returned (.int .i64 r) ∧ (0 ≤ r ↔ x ∈ L) ∧ New w w' := by
  obtain ⟨a, cap, rfl⟩ := h.slice
  have hgd : Tryz.prog.eqGuardType Tryz.prog.depth 128 = false := by kernel_rfl
  go_enter Tryz.func122, Tryz.ntmps122
  go_wp2
  have hn0 : New w (w.alloc (.cells #[sv x.1, .int .i64 (x.2.1 : Int), .int .i64 (x.2.2 : Int)] 128)) := (New.refl w).alloc _
  have c1 : (w.alloc (.cells #[sv x.1, .int .i64 (x.2.1 : Int), .int .i64 (x.2.2 : Int)] 128)).cell? ⟨w.heap.size, 0, none⟩ = some (sv x.1) := by simp
  have c2 : (w.alloc (.cells #[sv x.1, .int .i64 (x.2.1 : Int), .int .i64 (x.2.2 : Int)] 128)).cell? ⟨w.heap.size, 1, none⟩ = some (.int .i64 (x.2.1 : Int)) := by simp
  have c3 : (w.alloc (.cells #[sv x.1, .int .i64 (x.2.1 : Int), .int .i64 (x.2.2 : Int)] 128)).cell? ⟨w.heap.size, 2, none⟩ = some (.int .i64 (x.2.2 : Int)) := by simp
  have HC := Lib.hid (And.intro h (And.intro hn0 (And.intro c1 (And.intro c2 c3))))
  clear h hn0 c1 c2 c3
  go_loopg [8] L.length (fun gk u8 wr => ∃ k : Nat, k ≤ L.length ∧ gk = L.length - k ∧ u8 = .int .i64 k ∧ Hid (∀ j, j < k → (hj : j < L.length) → L[j] ≠ x) ∧ Hid (New (w.alloc (.cells #[sv x.1, .int .i64 (x.2.1 : Int), .int .i64 (x.2.2 : Int)] 128)) wr))
  case atStart => exact ⟨0, Nat.zero_le _, rfl, rfl, Lib.hid (fun j hj => by omega), Lib.hid (New.refl _)⟩
  case round =>
    obtain ⟨k, hk, rfl, rfl, hne, hn⟩ := hrel
    by_cases hlt : k < L.length
    · obtain ⟨b, o, e1, h1, h2, h3⟩ := (HC.out.1.new (HC.out.2.1.trans hn.out)).elem hlt
      have c1 := hn.out.cell HC.out.2.2.1
      have c2 := hn.out.cell HC.out.2.2.2.1
      have c3 := hn.out.cell HC.out.2.2.2.2
      cases e1
      simp only [prt3] at h1 h2 h3
      have hq : ∀ w : World, (binOp .eql 128 (.agg #[sv x.1, .int .i64 (x.2.1 : Int), .int .i64 (x.2.2 : Int)]) (.agg #[sv L[k].1, .int .i64 (L[k].2.1 : Int), .int .i64 (L[k].2.2 : Int)])).run Tryz.prog w = .ok (.bool (decide (x = L[k]))) w := eql_prt x L[k]
      have hn1 : New w wr := HC.out.2.1.trans hn.out
      have HN := Lib.hid hn1
      clear hn1
      by_cases hx : x = L[k]
      · have hm : x ∈ L := by rw [hx]; exact List.getElem_mem hlt
        have HM := Lib.hid hm
        simp only [decide_eq_true hx] at hq
        clear hx hm
        go_wp2_with fail
        go_still (by kernel_rfl)
        go_wp2
        go_ret
        exact ⟨k, rfl, by simp [HM.out], HN.out.drewN 1⟩
      · simp only [decide_eq_false hx] at hq
        have HX := Lib.hid hx
        clear hx
        go_wp2_with fail
        go_still (by kernel_rfl)
        go_wp2
        go_roundg (L.length - (k + 1))
        case measure => omega
        case rel =>
          refine ⟨k + 1, by omega, rfl, by go_num, Lib.hid fun j hj hjl => ?_, Lib.hid (hn.out.drewN 1)⟩
          by_cases e : j = k
          · subst e; exact fun e2 => HX.out e2.symm
          · exact hne.out j (by omega) hjl
    · go_wp2
      go_ret
      refine ⟨-1, rfl, ?_, HC.out.2.1.trans hn.out⟩
      constructor
      · intro h; omega
      · intro h
        obtain ⟨j, hj, e⟩ := List.getElem_of_mem h
        exact absurd e (hne.out j (by omega) hj)
set_option maxRecDepth 20000 in
set_option maxHeartbeats 1000000 in
theorem Contains_prt {w : World} {v : Value} {L : List Part} (h : Row3 prt3 w v L) (hl : L.length ≤ 1000000) (x : Part) :
    Calls Tryz.prog 82 #[v, prtA x] w fun e w' => e = .returned (.bool (decide (x ∈ L))) ∧ New w w' := by
  obtain ⟨a, cap, rfl⟩ := h.slice
  have hn0 : New w (w.alloc (.cells #[sv x.1, .int .i64 (x.2.1 : Int), .int .i64 (x.2.2 : Int)] 128)) := (New.refl w).alloc _
  have hq := Lib.hid (Index_prt (h.new hn0) hl x)
  have HN := Lib.hid hn0
  clear h hn0
  go_enter Tryz.func82, Tryz.ntmps82
  go_wp2_with (go_at_call 122; refine hq.out.mono ?_; rintro e w' ⟨r, rfl, hr, hn⟩)
  go_ret
  refine ⟨?_, HN.out.trans hn⟩
  refine ret_bool ?_
  by_cases hx : x ∈ L
  · simp [hx]
  · simp [hx]
set_option maxRecDepth 20000 in
set_option maxHeartbeats 400000 in
theorem Index_nat {w : World} {v : Value} {L : List Nat} (h : RowK nat1 1 w v L) (hl : L.length ≤ 1000000) (x : Nat) :
    Calls Tryz.prog 168 #[v, .int .i64 (x : Int)] w fun e w' => ∃ r : Int, e = .returned (.int .i64 r) ∧ (0 ≤ r ↔ x ∈ L) ∧ w = w' := by
  obtain ⟨a, cap, rfl⟩ := h.slice
  have HC := Lib.hid h
  clear h
  go_enter Tryz.func168, Tryz.ntmps168
  go_wp2
  go_loopg [8] L.length (fun gk u8 wr => ∃ k : Nat, k ≤ L.length ∧ gk = L.length - k ∧ u8 = .int .i64 k ∧ Hid (∀ j, j < k → (hj : j < L.length) → L[j] ≠ x) ∧ Hid (w = wr))
  case atStart => exact ⟨0, Nat.zero_le _, rfl, rfl, Lib.hid (fun j hj => by omega), Lib.hid rfl⟩
  case round =>
    obtain ⟨k, hk, rfl, rfl, hne, hn⟩ := hrel
    have hnn := hn.out
    subst hnn
    by_cases hlt : k < L.length
    · obtain ⟨b, o, e1, hcell⟩ := HC.out.elem hlt
      have h1 := elem1 hcell
      cases e1
      simp only [nat1, List.getElem?_cons_zero] at h1
      clear hcell
      by_cases hx : x = L[k]
      · have hm : x ∈ L := by rw [hx]; exact List.getElem_mem hlt
        have HM := Lib.hid hm
        have hb : ((x : Int) == (L[k] : Int)) = true := by rw [beq_iff_eq]; omega
        clear hx hm
        go_wp2
        go_ret
        exact ⟨k, rfl, by simp [HM.out], rfl⟩
      · have hb : ((x : Int) == (L[k] : Int)) = false := beq_eq_false_iff_ne.2 (by omega)
        have HX := Lib.hid hx
        clear hx
        go_wp2
        go_roundg (L.length - (k + 1))
        case measure => omega
        case rel =>
          refine ⟨k + 1, by omega, rfl, by go_num, Lib.hid fun j hj hjl => ?_, Lib.hid rfl⟩
          by_cases e : j = k
          · subst e; exact fun e2 => HX.out e2.symm
          · exact hne.out j (by omega) hjl
    · go_wp2
      go_ret
      refine ⟨-1, rfl, ?_, rfl⟩
      constructor
      · intro h; omega
      · intro h
        obtain ⟨j, hj, e⟩ := List.getElem_of_mem h
        exact absurd e (hne.out j (by omega) hj)
set_option maxRecDepth 20000 in
theorem Contains_nat {w : World} {v : Value} {L : List Nat} (h : RowK nat1 1 w v L) (hl : L.length ≤ 1000000) (x : Nat) :
    Calls Tryz.prog 121 #[v, .int .i64 (x : Int)] w fun e w' => e = .returned (.bool (decide (x ∈ L))) ∧ w = w' := by
  obtain ⟨a, cap, rfl⟩ := h.slice
  have hq := Lib.hid (Index_nat h hl x)
  clear h
  go_enter Tryz.func121, Tryz.ntmps121
  go_wp2_with (go_at_call 168; refine hq.out.mono ?_; rintro e w' ⟨r, rfl, hr, rfl⟩)
  go_ret
  refine ⟨?_, rfl⟩
  refine ret_bool ?_
  by_cases hx : x ∈ L
  · simp [hx]
  · simp [hx]
end Go.Proofs.YtdejcdmgcckmoaaGreatDoor
namespace Go.Proofs.YtdejcdmgcckmoaaGreatDoor
open Go.RowKit Go.Sort Lr

theorem fold_take {α β : Type} {f : β → α → β} {x : β} {l : List α} {j : Nat} (h : j < l.length) : (l.take (j + 1)).foldl f x = f ((l.take j).foldl f x) l[j] := by
  rw [List.take_succ_eq_append_getElem h, List.foldl_append]; rfl
set_option maxRecDepth 20000 in
set_option maxHeartbeats 2000000 in
theorem ends_any {w : World} {vh vw vl : Value} {hs : List Part} {word l : List Str} (hH : Row3 prt3 w vh hs) (hw : StrsAt w vw word) (hl : StrsAt w vl l) (fr : Nat) (hfr : fr ≤ word.length) (hwl : word.length ≤ 12) (hll : l.length ≤ 4) (hsl : hs.length ≤ 100000)
    (hl0 : ∀ s ∈ l, 0 < s.length) (hp : ∀ x ∈ hs, x.2.2 ≤ word.length) :
    Calls Tryz.prog 81 #[vh, vw, vl, .int .i64 (fr : Int)] w fun e w' => ∃ v', e = .returned v' ∧ OwnK nat1 1 3 w' w.heap.size v' (endsF hs word l fr) ∧ New w w' := by
  have HH := Lib.hid (And.intro hH (And.intro hw (And.intro hl (And.intro hl0 (And.intro hp hfr)))))
  obtain ⟨ah, ch, rfl⟩ := hH.slice
  obtain ⟨aw, cw, rfl⟩ := hw.slice
  obtain ⟨al, cl, rfl⟩ := hl.slice
  clear hH hw hl hl0 hp
  go_enter Tryz.func81, Tryz.ntmps81
  go_wp2
  have hr0 : OwnK nat1 1 3 (w.alloc (.cells #[.int .i64 (fr : Int)] 3)) w.heap.size (.slice (some ⟨w.heap.size, 0, none⟩) 1 1) [fr] :=
    ⟨rfl, .inr ⟨w.heap.size, 1, _, rfl, Nat.le_refl _, heap_alloc_new w _, by simp, by unfold maxLen; omega, by simp, by simp [nat1]⟩⟩
  have H0 := Lib.hid (And.intro hr0 ((New.refl w).alloc (.cells #[.int .i64 (fr : Int)] 3)))
  clear hr0
  go_loopg [9, 21] l.length (fun gk u9 u21 wr => ∃ j : Nat, j ≤ l.length ∧ gk = l.length - j ∧ u21 = .int .i64 j ∧ Hid (OwnK nat1 1 3 wr w.heap.size u9 ((l.take j).foldl (endsS hs word) [fr])) ∧ Hid (New w wr))
  case atStart => exact ⟨0, Nat.zero_le _, rfl, rfl, Lib.hid H0.out.1, Lib.hid H0.out.2⟩
  case round =>
    obtain ⟨j, hj, rfl, rfl, hR, hn⟩ := hrel
    by_cases hlt : j < l.length
    · obtain ⟨b, o, e, h1⟩ := (HH.out.2.2.1.new hn.out).elem hlt
      cases e
      have hs0 := HH.out.2.2.2.1 _ (List.getElem_mem hlt)
      have hft := fold_take (f := endsS hs word) (x := [fr]) hlt
      have hple := endsL_le HH.out.2.2.2.2.1 (l.take j) (pl := [fr]) (by simpa using HH.out.2.2.2.2.2)
      have hpnd := endsL_nodup (hs := hs) (w := word) (l.take j) (pl := [fr]) (by simp)
      have HF := Lib.hid hft
      clear hft
      generalize hpl : (l.take j).foldl (endsS hs word) [fr] = pl at *
      have hpll := nat_le hpnd hple
      have HP := Lib.hid (And.intro hpl (And.intro hple hpnd))
      clear hpl hple hpnd
      generalize l[j] = s at *
      obtain ⟨a9, c9, e9⟩ := owns_slice hR.out
      subst e9
      have hqg := Lib.hid (fun W => great_any s W hs0)
      have HRN := Lib.hid (And.intro (RowK.of_owns nat1_len hR.out) hn.out)
      clear hR hn
      go_wp2_with fail
      have hO0 : OwnK nat1 1 3 (wr.alloc (.cells #[] 3)) wr.heap.size (.slice (some ⟨wr.heap.size, 0, none⟩) 0 0) [] := World.ownsRow_made wr #[] 0 (Nat.le_refl _) (Nat.zero_le _) rfl
      have HO0 := Lib.hid (And.intro hO0 ((New.refl wr).alloc (.cells #[] 3)))
      clear hO0
      obtain ⟨w4, hw4⟩ : ∃ w4 : World, w4 = wr := ⟨_, rfl⟩
      rw [← hw4] at HRN HO0
      have HW4 := Lib.hid hw4
      clear hw4
      go_loopg [12, 28] pl.length (fun gi u12 u28 wr => ∃ i : Nat, i ≤ pl.length ∧ gi = pl.length - i ∧ u28 = .int .i64 i ∧ Hid (OwnK nat1 1 3 wr w4.heap.size u12 ((pl.take i).foldl (goK hs word s) [])) ∧ Hid (New w4 wr))
      case atStart => exact ⟨0, Nat.zero_le _, rfl, rfl, Lib.hid (by rw [HW4.out] at HO0 ⊢; exact HO0.out.1), Lib.hid (by rw [HW4.out] at HO0 ⊢; exact HO0.out.2)⟩
      case round =>
        obtain ⟨i, hi, rfl, rfl, hO, hn⟩ := hrel
        by_cases hil : i < pl.length
        · obtain ⟨b2, o2, e, hcell⟩ := (HRN.out.1.new nat1_len hn.out).elem hil
          cases e
          have hk1 := elem1 hcell
          simp only [nat1, List.getElem?_cons_zero] at hk1
          have hkw : pl[i] ≤ word.length := HP.out.2.1 _ (List.getElem_mem hil)
          have hst := fold_take (f := goK hs word s) (x := []) hil
          have HST := Lib.hid hst
          have hond := (endsS_gen (hs := hs) (w := word) (s := s) (pl.take i) [] List.nodup_nil)
          have honl := nat_le (N := word.length) hond.1 (fun m hm => by
            rcases (hond.2 m).1 hm with h | ⟨k, _, h | ⟨_, h, rfl⟩⟩
            · cases h
            · exact HH.out.2.2.2.2.1 _ h.2
            · exact (List.getElem?_eq_some_iff.1 h).1)
          clear hst hcell hond
          generalize hone : (pl.take i).foldl (goK hs word s) [] = on at *
          have HONE := Lib.hid hone
          clear hone
          generalize pl[i] = k at *
          have hO1 := hO.out
          obtain ⟨a12, c12, e12⟩ := owns_slice hO1
          subst e12
          have HON := Lib.hid (And.intro hO1 hn.out)
          have hqc := fun m => Contains_nat (RowK.of_owns nat1_len hO1) (by omega) m
          clear hO hn hO1
          cases hg : greatB s with
          | false =>
            rw [hg] at hqg
            have hgk : goK hs word s on k = goT word s on k := by unfold goK; rw [hg]; rfl
            by_cases hkl : k < word.length
            · obtain ⟨b3, o3, e, hwk⟩ := (HH.out.2.1.new (HRN.out.2.trans HON.out.2)).elem hkl
              cases e
              by_cases hws : word[k] = s
              · have hgt : goT word s on k = addN on (k + 1) := by unfold goT; rw [if_pos (by rw [List.getElem?_eq_getElem hkl, hws])]
                have hwb : (word[k] == s) = true := by rw [beq_iff_eq]; exact hws
                have hqk := hqc (k + 1)
                rw [Int.natCast_add, Int.natCast_one] at hqk
                by_cases hm : (k + 1) ∈ on
                · rw [decide_eq_true hm] at hqk
                  have hqk := Lib.hid hqk
                  have hfin : goK hs word s on k = on := by rw [hgk, hgt, addN_has hm]
                  have HFI := Lib.hid hfin
                  clear hgk hgt hws hqc hm hfin hg
                  generalize word[k] = wk at *
                  go_wp2_with (first | (go_at_call 43; refine (hqg.out _).mono ?_; rintro e w' ⟨rfl, rfl⟩) | (go_at_call 121; refine hqk.out.mono ?_; rintro e w' ⟨rfl, rfl⟩))
                  go_roundg (pl.length - (i + 1))
                  case measure => omega
                  case rel => exact ⟨i + 1, by omega, rfl, by go_num, Lib.hid (by rw [HST.out, HFI.out]; exact HON.out.1), Lib.hid HON.out.2⟩
                · rw [decide_eq_false hm] at hqk
                  have hqk := Lib.hid hqk
                  have hfin : goK hs word s on k = on ++ [k + 1] := by rw [hgk, hgt, addN_new hm]
                  have HFI := Lib.hid hfin
                  clear hgk hgt hws hqc hm hfin hg
                  generalize word[k] = wk at *
                  go_wp2_with (first | (go_at_call 43; refine (hqg.out _).mono ?_; rintro e w' ⟨rfl, rfl⟩) | (go_at_call 121; refine hqk.out.mono ?_; rintro e w' ⟨rfl, rfl⟩) | (at_builtin; go_must (refine wpList_push _ rfl _ _ _ _ rfl T44 w4.heap.size _ _ _ rfl HON.out.1 [_] rfl rfl _ _ rfl (by simp) (by omega) (by omega) HON.out.2.size ?_)))
                  intro v8 w8 hown8 hgrow8 hne8 hat8
                  have hn8 : New w4 w8 := Below.push HON.out.2 HON.out.1 hgrow8 HON.out.2.size
                  have hO8 : OwnK nat1 1 3 w8 w4.heap.size v8 (on ++ [k + 1]) := OwnK.push (x := k + 1) (enc := nat1) (by unfold nat1; rw [Int.natCast_add, Int.natCast_one]; exact hown8)
                  have HX := Lib.hid (And.intro hO8 hn8)
                  obtain ⟨a9', c9', e9⟩ := owns_slice hown8
                  subst e9
                  clear hn8 hO8 hown8 hgrow8 hne8 hat8
                  go_wp2
                  go_roundg (pl.length - (i + 1))
                  case measure => omega
                  case rel => exact ⟨i + 1, by omega, rfl, by go_num, Lib.hid (by rw [HST.out, HFI.out]; exact HX.out.1), Lib.hid HX.out.2⟩
              · have hgt : goT word s on k = on := by unfold goT; rw [if_neg (by rw [List.getElem?_eq_getElem hkl]; exact fun h => hws (Option.some.inj h))]
                have hwb : (word[k] == s) = false := beq_eq_false_iff_ne.2 hws
                have HFI := Lib.hid (hgk.trans hgt)
                clear hgk hgt hws hqc hg
                generalize word[k] = wk at *
                go_wp2_with (first | (go_at_call 43; refine (hqg.out _).mono ?_; rintro e w' ⟨rfl, rfl⟩))
                go_roundg (pl.length - (i + 1))
                case measure => omega
                case rel => exact ⟨i + 1, by omega, rfl, by go_num, Lib.hid (by rw [HST.out, HFI.out]; exact HON.out.1), Lib.hid HON.out.2⟩
            · have hgt : goT word s on k = on := by unfold goT; rw [if_neg (by rw [List.getElem?_eq_none (by omega)]; simp)]
              have HFI := Lib.hid (hgk.trans hgt)
              clear hgk hgt hqc hg
              go_wp2_with (first | (go_at_call 43; refine (hqg.out _).mono ?_; rintro e w' ⟨rfl, rfl⟩))
              go_roundg (pl.length - (i + 1))
              case measure => omega
              case rel => exact ⟨i + 1, by omega, rfl, by go_num, Lib.hid (by rw [HST.out, HFI.out]; exact HON.out.1), Lib.hid HON.out.2⟩
          | true =>
            rw [hg] at hqg
            have hgk : goK hs word s on k = hs.foldl (goH s k) on := by unfold goK; rw [hg]; rfl
            have HGK := Lib.hid hgk
            have hond : Hid on.Nodup := Lib.hid (by
              have := (endsS_gen (hs := hs) (w := word) (s := s) (pl.take i) [] List.nodup_nil).1
              rw [HONE.out] at this; exact this)
            have honw : Hid (∀ m ∈ on, m ≤ word.length) := Lib.hid (fun m hm => by
              rw [← HONE.out] at hm
              rcases ((endsS_gen (hs := hs) (w := word) (s := s) (pl.take i) [] List.nodup_nil).2 m).1 hm with h | ⟨k, _, h | ⟨_, h, rfl⟩⟩
              · cases h
              · exact HH.out.2.2.2.2.1 _ h.2
              · exact (List.getElem?_eq_some_iff.1 h).1)
            clear hgk hqc hg
            go_wp2_with (first | (go_at_call 43; refine (hqg.out _).mono ?_; rintro e w' ⟨rfl, rfl⟩))
            go_loopg [12, 61] hs.length (fun gm u12 u61 wr => ∃ m : Nat, m ≤ hs.length ∧ gm = hs.length - m ∧ u61 = .int .i64 m ∧ Hid (OwnK nat1 1 3 wr w4.heap.size u12 ((hs.take m).foldl (goH s k) on)) ∧ Hid (New w4 wr))
            case atStart => exact ⟨0, Nat.zero_le _, rfl, rfl, Lib.hid HON.out.1, Lib.hid HON.out.2⟩
            case round =>
              clear HON
              obtain ⟨m, hm, rfl, rfl, hO, hn⟩ := hrel
              by_cases hml : m < hs.length
              · obtain ⟨b3, o3, x, e, hx, d0, d1, d2⟩ := (HH.out.1.new (HRN.out.2.trans hn.out)).elemX hml
                cases e
                have hxm := List.mem_of_getElem? hx
                have hxw := HH.out.2.2.2.2.1 x hxm
                have hs3 := fold_take (f := goH s k) (x := on) hml
                rw [(List.getElem?_eq_some_iff.1 hx).2] at hs3
                have HS3 := Lib.hid hs3
                have honl3 := nat_le (N := word.length) (goH_gen (s := s) (k := k) (hs.take m) on hond.out).1 (fun y hy => by
                  rcases ((goH_gen (s := s) (k := k) (hs.take m) on hond.out).2 y).1 hy with h | h
                  · exact honw.out y h
                  · exact HH.out.2.2.2.2.1 _ (List.mem_of_mem_take h))
                clear hx hxm hs3
                generalize (hs.take m).foldl (goH s k) on = on3 at *
                have hO1 := hO.out
                obtain ⟨a12, c12, e12⟩ := owns_slice hO1
                subst e12
                have hA : New wr (wr.alloc (.cells #[sv x.1, .int .i64 (x.2.1 : Int), .int .i64 (x.2.2 : Int)] 128)) := (New.refl wr).alloc _
                have hqk := Contains_nat (RowK.of_owns nat1_len (ownsRow_new hO1 hA)) (by omega) x.2.2
                have HON := Lib.hid (And.intro (ownsRow_new hO1 hA) (hn.out.trans hA))
                clear hO hn hO1 hA
                obtain ⟨x1, x2, x3⟩ := x
                simp only [prt3] at d0 d1 d2 hqk HON hxw
                by_cases hx1 : x1 = s
                · by_cases hx2 : x2 = k
                  · subst hx1; subst hx2
                    have hgh : goH x1 x2 on3 (x1, x2, x3) = addN on3 x3 := if_pos ⟨rfl, rfl⟩
                    by_cases hm3 : x3 ∈ on3
                    · rw [decide_eq_true hm3] at hqk
                      have hqk := Lib.hid hqk
                      have HFI := Lib.hid (hgh.trans (addN_has hm3))
                      clear hgh hm3
                      go_wp2_with (first | (go_at_call 121; refine hqk.out.mono ?_; rintro e w' ⟨rfl, rfl⟩))
                      go_roundg (hs.length - (m + 1))
                      case measure => omega
                      case rel => exact ⟨m + 1, by omega, rfl, by go_num, Lib.hid (by rw [HS3.out, HFI.out]; exact HON.out.1), Lib.hid HON.out.2⟩
                    · rw [decide_eq_false hm3] at hqk
                      have hqk := Lib.hid hqk
                      have HFI := Lib.hid (hgh.trans (addN_new hm3))
                      clear hgh hm3
                      have e2 : (wr.alloc (.cells #[sv x1, .int .i64 (x2 : Int), .int .i64 (x3 : Int)] 128)).cell? ⟨wr.heap.size, 2, none⟩ = some (.int .i64 (x3 : Int)) := by simp
                      go_wp2_with (first | (go_at_call 121; refine hqk.out.mono ?_; rintro e w' ⟨rfl, rfl⟩) | (at_builtin; go_must (refine wpList_push _ rfl _ _ _ _ rfl T44 w4.heap.size _ _ _ rfl HON.out.1 [_] rfl rfl _ _ rfl (by simp) (by omega) (by omega) HON.out.2.size ?_)))
                      intro v8 w8 hown8 hgrow8 hne8 hat8
                      have hn8 : New w4 w8 := Below.push HON.out.2 HON.out.1 hgrow8 HON.out.2.size
                      have hO8 : OwnK nat1 1 3 w8 w4.heap.size v8 (on3 ++ [x3]) := OwnK.push (x := x3) (enc := nat1) hown8
                      have HX := Lib.hid (And.intro hO8 hn8)
                      obtain ⟨a9', c9', e9⟩ := owns_slice hown8
                      subst e9
                      clear hn8 hO8 hown8 hgrow8 hne8 hat8
                      go_wp2
                      go_roundg (hs.length - (m + 1))
                      case measure => omega
                      case rel => exact ⟨m + 1, by omega, rfl, by go_num, Lib.hid (by rw [HS3.out, HFI.out]; exact HX.out.1), Lib.hid HX.out.2⟩
                  · have hgh : goH s k on3 (x1, x2, x3) = on3 := if_neg (fun h => hx2 h.2)
                    have hx2b : ((x2 : Int) == (k : Int)) = false := beq_eq_false_iff_ne.2 (by omega)
                    have hx1b : (x1 == s) = true := by rw [beq_iff_eq]; exact hx1
                    have HFI := Lib.hid hgh
                    clear hgh hx1 hx2 hqk
                    go_wp2_with fail
                    go_roundg (hs.length - (m + 1))
                    case measure => omega
                    case rel => exact ⟨m + 1, by omega, rfl, by go_num, Lib.hid (by rw [HS3.out, HFI.out]; exact HON.out.1), Lib.hid HON.out.2⟩
                · have hgh : goH s k on3 (x1, x2, x3) = on3 := if_neg (fun h => hx1 h.1)
                  have hx1b : (x1 == s) = false := beq_eq_false_iff_ne.2 hx1
                  have HFI := Lib.hid hgh
                  clear hgh hx1 hqk
                  go_wp2_with fail
                  go_roundg (hs.length - (m + 1))
                  case measure => omega
                  case rel => exact ⟨m + 1, by omega, rfl, by go_num, Lib.hid (by rw [HS3.out, HFI.out]; exact HON.out.1), Lib.hid HON.out.2⟩
              · rw [List.take_of_length_le (by omega)] at hO
                have HON := Lib.hid (And.intro hO.out hn.out)
                obtain ⟨a12, c12, e12⟩ := owns_slice hO.out
                subst e12
                clear hO hn
                go_wp2_with fail
                go_roundg (pl.length - (i + 1))
                case measure => omega
                case rel => exact ⟨i + 1, by omega, rfl, by go_num, Lib.hid (by rw [HST.out, HGK.out]; exact HON.out.1), Lib.hid HON.out.2⟩
        · rw [List.take_of_length_le (by omega)] at hO
          have hend : OwnK nat1 1 3 wr w.heap.size u12 (endsS hs word pl s) := owns_base hO.out HRN.out.2.size
          have HEND := Lib.hid (And.intro hend (HRN.out.2.trans hn.out))
          obtain ⟨a12, c12, e12⟩ := owns_slice hend
          subst e12
          clear hO hn hend
          go_wp2_with fail
          go_roundg (l.length - (j + 1))
          case measure => omega
          case rel => exact ⟨j + 1, by omega, rfl, by go_num, Lib.hid (by rw [HF.out]; exact HEND.out.1), Lib.hid HEND.out.2⟩
    · rw [List.take_of_length_le (by omega)] at hR
      have HEND := Lib.hid (And.intro hR.out hn.out)
      obtain ⟨a9, c9, e9⟩ := owns_slice hR.out
      subst e9
      clear hR hn
      go_wp2
      go_ret
      exact ⟨_, rfl, HEND.out.1, HEND.out.2⟩
end Go.Proofs.YtdejcdmgcckmoaaGreatDoor
namespace Go.Proofs.YtdejcdmgcckmoaaGreatDoor
open Go.RowKit Go.Sort Lr

set_option maxRecDepth 20000 in
set_option maxHeartbeats 4000000 in
/-- Whether the reference says that a grammar has a word. -/
theorem Has_any {g : Gram} (hm : Sm g) (v vw : Value) (word : List Str) (w : World) (h : GramAt w v g) (hw : StrsAt w vw word) (hwl : word.length ≤ 12) :
    Calls Tryz.prog 30 #[v, vw] w fun e w' => ∃ b, e = .returned (.bool b) ∧ (b = true ↔ ∃ n, D g n [Lr.start g] word) ∧ New w w' := by
  have hgl := hm.len
  have hg0 := hm.pos
  have HH := Lib.hid (And.intro h hw)
  obtain ⟨a, cap, rfl⟩ := h.slice
  obtain ⟨aw, cw, rfl⟩ := hw.slice
  clear h hw
  go_enter Tryz.func30, Tryz.ntmps30
  go_wp2
  have hO0 : Own3 prt3 128 (w.alloc (.cells #[] 128)) w.heap.size (.slice (some ⟨w.heap.size, 0, none⟩) 0 0) ([] : List Part) := World.ownsRow_made w #[] 0 (Nat.le_refl _) (Nat.zero_le _) rfl
  have H0 := Lib.hid (And.intro hO0 ((New.refl w).alloc (.cells #[] 128)))
  clear hO0
  go_loopg [5, 6] 2030 (fun gk u5 u6 wr => ∃ (hs : List Part) (ch : Bool), gk = (2029 - hs.length) + (if ch then 1 else 0) ∧ u6 = .bool ch ∧ Hid (Own3 prt3 128 wr w.heap.size u5 hs) ∧ Hid (PartsOk g word hs ∧ hs.Nodup ∧ (ch = false → ClosedH g word hs)) ∧ Hid (New w wr))
  case atStart => exact ⟨[], true, rfl, rfl, Lib.hid H0.out.1, Lib.hid ⟨⟨(fun _ _ _ h => by cases h), (fun _ _ _ h => by cases h)⟩, List.nodup_nil, (fun h => by cases h)⟩, Lib.hid H0.out.2⟩
  case round =>
    obtain ⟨hs, ch, rfl, rfl, hO, hP, hn⟩ := hrel
    have hsl := parts_le hP.out.2.1 hP.out.1 hgl hwl
    obtain ⟨a5, c5, e5⟩ := owns_slice hO.out
    subst e5
    cases ch with
    | true =>
      have HS := Lib.hid (HasP.init (g := g) hP.out.1 hP.out.2.1)
      have HO := Lib.hid (And.intro hO.out hn.out)
      clear hO hP hn
      go_wp2_with fail
      obtain ⟨hsS, hhs⟩ : ∃ hsS, hsS = hs := ⟨_, rfl⟩
      have HSE := Lib.hid hhs
      go_loopg [5, 6, 17] g.length (fun gj u5 u6 u17 wr => ∃ (k : Nat) (hs' : List Part) (ch : Bool), k ≤ g.length ∧ gj = g.length - k ∧ u17 = .int .i64 k ∧ u6 = .bool ch ∧ Hid (Own3 prt3 128 wr w.heap.size u5 hs') ∧ Hid (HasP g word hsS hs' ch k 0) ∧ Hid (New w wr))
      case atStart => exact ⟨0, hs, false, Nat.zero_le _, rfl, rfl, rfl, Lib.hid HO.out.1, Lib.hid (by rw [hhs]; exact HS.out), Lib.hid HO.out.2⟩
      case round =>
        clear HO HS
        obtain ⟨k, hs', ch, hk, rfl, rfl, rfl, hO, hP, hn⟩ := hrel
        obtain ⟨a5', c5', e5⟩ := owns_slice hO.out
        subst e5
        by_cases hkl : k < g.length
        · obtain ⟨b, o, a', c', e, h1, h2, h3⟩ := (HH.out.1.new hn.out).elem hkl
          cases e
          have hmem := List.getElem_mem hkl
          have hbl := hm.body _ hmem
          have hA : New wr (wr.alloc (.cells #[sv g[k].1, .slice a' g[k].2.length c'] 67)) := (New.refl wr).alloc _
          have d0 : (wr.alloc (.cells #[sv g[k].1, .slice a' g[k].2.length c'] 67)).cell? ⟨wr.heap.size, 0, none⟩ = some (sv g[k].1) := by simp
          have d1 : (wr.alloc (.cells #[sv g[k].1, .slice a' g[k].2.length c'] 67)).cell? ⟨wr.heap.size, 1, none⟩ = some (.slice a' g[k].2.length c') := by simp
          have hb0 := heap_alloc_new wr (.cells #[sv g[k].1, .slice a' g[k].2.length c'] 67)
          have H3 := Lib.hid (And.intro (ownsRow_new hO.out hA) (And.intro (hn.out.trans hA) hb0))
          have HP3 := Lib.hid hP.out
          obtain ⟨b9, o9, a9, c9, e9, g1, g2, g3⟩ := HH.out.1.elem hkl
          cases e9
          have e9 := (hn.out.cell g2).symm.trans h2
          cases e9
          have HB3 := Lib.hid g3
          have hpw : Hid (w.heap.size ≤ wr.heap.size) := Lib.hid hn.out.size
          clear hO hP hn hA h3 d0 d1 hb0 g1 g2 g3
          go_wp2_with fail
          generalize wr.heap.size = pb at *
          generalize wr.alloc (.cells #[sv g[k].1, .slice a' g[k].2.length c'] 67) = W2 at *
          go_loopg [5, 6, 9] (word.length + 1) (fun gj u5 u6 u9 wr => ∃ (a : Nat) (hs' : List Part) (ch : Bool), a ≤ word.length + 1 ∧ gj = word.length + 1 - a ∧ u9 = .int .i64 a ∧ u6 = .bool ch ∧ Hid (Own3 prt3 128 wr w.heap.size u5 hs') ∧ Hid (HasP g word hsS hs' ch k a) ∧ Hid (New w wr) ∧ Hid (wr.heap[pb]? = some (.cells #[sv g[k].1, .slice a' g[k].2.length c'] 67 (0, 0))))
          case atStart => exact ⟨0, hs', ch, Nat.zero_le _, rfl, rfl, rfl, Lib.hid H3.out.1, HP3, Lib.hid H3.out.2.1, Lib.hid H3.out.2.2⟩
          case round =>
            clear H3 HP3 hs' ch
            obtain ⟨a, hs', ch, ha, rfl, rfl, rfl, hO, hP, hn, hb⟩ := hrel
            obtain ⟨a5', c5', e5⟩ := owns_slice hO.out
            subst e5
            by_cases hal : a ≤ word.length
            · have hz : (a : Int) ≤ (word.length : Int) := by omega
              have hzb : decide ((a : Int) ≤ (word.length : Int)) = true := decide_eq_true hz
              have d0 := (cell_of_blk hb.out 0).trans rfl
              have d1 := (cell_of_blk hb.out 1).trans rfl
              have hsl' := parts_le hP.out.nd hP.out.ok hgl hwl
              have hpx : ∀ x ∈ hs', x.2.2 ≤ word.length := fun x hx => (hP.out.ok.le x.1 x.2.1 x.2.2 hx).2
              have hqe := Lib.hid (ends_any (Row3.of_owns hO.out) (HH.out.2.new hn.out) (HB3.out.new hn.out) a hal hwl (by omega) (by omega) (fun s hs => hm.sym_pos hmem hs) hpx)
              have hTn : (endsF hs' word g[k].2 a).Nodup := endsL_nodup g[k].2 (pl := [a]) (by simp)
              have hTw := endsL_le hpx g[k].2 (pl := [a]) (by simpa using hal)
              have hTl := nat_le hTn hTw
              have hTm : ∀ t, t ∈ endsF hs' word g[k].2 a ↔ EndsR g hs' word g[k].2 a t := fun t => endsF_mem fun s hs => hm.great_iff hmem hs
              have HT := Lib.hid (And.intro hTm (And.intro hO.out (And.intro hP.out (And.intro hn.out hb.out))))
              clear hTn hTw hTm hO hP hn hb hpx
              generalize endsF hs' word g[k].2 a = T at *
              go_wp2_with (go_at_call 81; refine hqe.out.mono ?_; rintro e w6 ⟨vT, rfl, hT6, hn6⟩; have HT6 := Lib.hid (And.intro hT6 hn6); obtain ⟨aT, cT, eT⟩ := owns_slice hT6; subst eT; clear hT6 hn6)
              have H6 := Lib.hid (And.intro (ownsRow_new HT.out.2.1 HT6.out.2) (And.intro (HT.out.2.2.2.1.trans HT6.out.2) (And.intro (HT6.out.2.heap HT.out.2.2.2.2) (owns_base HT6.out.1 (Nat.zero_le _)))))
              go_loopg [5, 6, 34] T.length (fun gj u5 u6 u34 wr => ∃ (m : Nat) (hs2 : List Part) (ch2 : Bool), m ≤ T.length ∧ gj = T.length - m ∧ u34 = .int .i64 m ∧ u6 = .bool ch2 ∧ Hid (Own3 prt3 128 wr w.heap.size u5 hs2) ∧ Hid (HasQ g word hsS hs2 ch2 k a g[k].1 T m ∧ ∀ x ∈ hs', x ∈ hs2) ∧ Hid (New w wr) ∧ Hid (wr.heap[pb]? = some (.cells #[sv g[k].1, .slice a' g[k].2.length c'] 67 (0, 0))) ∧ Hid (OwnK nat1 1 3 wr 0 (.slice aT T.length cT) T))
              case atStart => exact ⟨0, hs', ch, Nat.zero_le _, rfl, rfl, rfl, Lib.hid H6.out.1, Lib.hid ⟨HasQ.start HT.out.2.2.1 _ _, fun x h => h⟩, Lib.hid H6.out.2.1, Lib.hid H6.out.2.2.1, Lib.hid H6.out.2.2.2⟩
              case round =>
                clear H6
                obtain ⟨m, hs2, ch2, hmm, rfl, rfl, rfl, hO, hQ, hn, hb, hTo⟩ := hrel
                obtain ⟨a5', c5', e5⟩ := owns_slice hO.out
                subst e5
                by_cases hml : m < T.length
                · obtain ⟨b3, o3, e, hcell⟩ := (RowK.of_owns nat1_len hTo.out).elem hml
                  cases e
                  have ht1 := elem1 hcell
                  simp only [nat1, List.getElem?_cons_zero] at ht1
                  have d0 := (cell_of_blk hb.out 0).trans rfl
                  have hsl2 := parts_le hQ.out.1.nd hQ.out.1.ok hgl hwl
                  have her : EndsR g hs2 word g[k].2 a T[m] := EndsR.mono hQ.out.2 ((HT.out.1 T[m]).1 (List.getElem_mem hml))
                  have hkg : g[k]? = some (g[k].1, g[k].2) := List.getElem?_eq_getElem hkl
                  have hA : New wr (wr.alloc (.cells #[sv g[k].1, .int .i64 (a : Int), .int .i64 (T[m] : Int)] 128)) := (New.refl wr).alloc _
                  have hqc := Contains_prt (Row3.of_owns (ownsRow_new hO.out hA)) (by omega) (g[k].1, a, T[m])
                  have hold := fun h => HasQ.old hQ.out.1 hml h
                  have hnew := fun h => HasQ.new hQ.out.1 hkg hal hml h her
                  have HM := Lib.hid (And.intro hold (And.intro hnew hQ.out.2))
                  have HO := Lib.hid (And.intro (ownsRow_new hO.out hA) (And.intro (hn.out.trans hA) (And.intro (hA.heap hb.out) (ownsRow_new hTo.out hA))))
                  clear hcell her hkg hA hold hnew hO hQ hn hb hTo
                  generalize T[m] = t at *
                  by_cases hx : ((g[k].1, a, t) : Part) ∈ hs2
                  · have HX := Lib.hid hx
                    rw [decide_eq_true hx] at hqc
                    have hqc := Lib.hid hqc
                    clear hx
                    go_wp2_with (go_at_call 82; refine hqc.out.mono ?_; rintro e w7 ⟨rfl, hn7⟩)
                    go_roundg (T.length - (m + 1))
                    case measure => omega
                    case rel => exact ⟨m + 1, hs2, ch2, by omega, rfl, by go_num, rfl, Lib.hid (ownsRow_new HO.out.1 hn7), Lib.hid ⟨HM.out.1 HX.out, HM.out.2.2⟩, Lib.hid (HO.out.2.1.trans hn7), Lib.hid (hn7.heap HO.out.2.2.1), Lib.hid (ownsRow_new HO.out.2.2.2 hn7)⟩
                  · have HX := Lib.hid hx
                    rw [decide_eq_false hx] at hqc
                    have hqc := Lib.hid hqc
                    clear hx
                    have k0 : (wr.alloc (.cells #[sv g[k].1, .int .i64 (a : Int), .int .i64 (t : Int)] 128)).cell? ⟨wr.heap.size, 0, none⟩ = some (sv g[k].1) := by simp
                    have k1 : (wr.alloc (.cells #[sv g[k].1, .int .i64 (a : Int), .int .i64 (t : Int)] 128)).cell? ⟨wr.heap.size, 1, none⟩ = some (.int .i64 (a : Int)) := by simp
                    have k2 : (wr.alloc (.cells #[sv g[k].1, .int .i64 (a : Int), .int .i64 (t : Int)] 128)).cell? ⟨wr.heap.size, 2, none⟩ = some (.int .i64 (t : Int)) := by simp
                    have HK := Lib.hid (And.intro k0 (And.intro k1 k2))
                    clear k0 k1 k2
                    go_wp2_with (first | (go_at_call 82; refine hqc.out.mono ?_; rintro e w7 ⟨rfl, hn7⟩; have k0 := hn7.cell HK.out.1; have k1 := hn7.cell HK.out.2.1; have k2 := hn7.cell HK.out.2.2; have H7 := Lib.hid (And.intro (ownsRow_new HO.out.1 hn7) (And.intro (HO.out.2.1.trans hn7) (And.intro (hn7.heap HO.out.2.2.1) (ownsRow_new HO.out.2.2.2 hn7)))); clear hn7) | (at_builtin; go_must (refine wpList_push _ rfl _ _ _ _ rfl T125 w.heap.size _ _ _ rfl H7.out.1 [_, _, _] rfl rfl _ _ rfl (by simp) (by omega) (by omega) H7.out.2.1.size ?_)))
                    intro v8 w8 hown8 hgrow8 hne8 hat8
                    have hn8 : New w w8 := Below.push H7.out.2.1 H7.out.1 hgrow8 H7.out.2.1.size
                    have hO8 : Own3 prt3 128 w8 w.heap.size v8 (hs2 ++ [(g[k].1, a, t)]) := Own3.push (e := prt3) (x := ((g[k].1, a, t) : Part)) hown8
                    have hb8 := (hgrow8.block pb (lt_of_block H7.out.2.2.1) (fun e => ownBlock_ne H7.out.1 H7.out.2.2.1 (by decide) e.symm)).trans H7.out.2.2.1
                    have hT8 := World.ownsRow.kept H7.out.2.2.2 hgrow8 (ownBlock_ne_row H7.out.2.2.2 H7.out.1 (by decide))
                    have H8 := Lib.hid (And.intro hO8 (And.intro hn8 (And.intro hb8 hT8)))
                    obtain ⟨a9', c9', e9⟩ := owns_slice hown8
                    subst e9
                    clear hn8 hO8 hb8 hT8 hown8 hgrow8 hne8 hat8
                    go_wp2
                    go_roundg (T.length - (m + 1))
                    case measure => omega
                    case rel => exact ⟨m + 1, _, true, by omega, rfl, by go_num, rfl, Lib.hid H8.out.1, Lib.hid ⟨HM.out.2.1 HX.out, fun x h => List.mem_append.2 (.inl (HM.out.2.2 x h))⟩, Lib.hid H8.out.2.1, Lib.hid H8.out.2.2.1, Lib.hid H8.out.2.2.2⟩
                · have hkg : g[k]? = some (g[k].1, g[k].2) := List.getElem?_eq_getElem hkl
                  have hdone := HasQ.done hQ.out.1 hkg (by omega) (fun t ht => (HT.out.1 t).2 (EndsR.mono HT.out.2.2.1.sub ht))
                  have HD := Lib.hid (And.intro hdone (And.intro hO.out (And.intro hn.out hb.out)))
                  clear hdone hkg hO hQ hn hb hTo
                  go_wp2_with fail
                  go_roundg (word.length + 1 - (a + 1))
                  case measure => omega
                  case rel => exact ⟨a + 1, hs2, ch2, by omega, rfl, by go_num, rfl, Lib.hid HD.out.2.1, Lib.hid HD.out.1, Lib.hid HD.out.2.2.1, Lib.hid HD.out.2.2.2⟩
            · have hz : ¬ (a : Int) ≤ (word.length : Int) := by omega
              have hzb : decide ((a : Int) ≤ (word.length : Int)) = false := decide_eq_false hz
              have HD := Lib.hid (And.intro (hP.out.next (by omega)) (And.intro hO.out hn.out))
              clear hO hP hn hb
              go_wp2_with fail
              go_roundg (g.length - (k + 1))
              case measure => omega
              case rel => exact ⟨k + 1, hs', ch, by omega, rfl, by go_num, rfl, Lib.hid HD.out.2.1, Lib.hid HD.out.1, Lib.hid HD.out.2.2⟩
        · have hkk : g.length ≤ k := by omega
          have HD := Lib.hid (And.intro hP.out (And.intro hO.out hn.out))
          have hl' := parts_le hP.out.nd hP.out.ok hgl hwl
          have hcl : Hid (ch = false → ClosedH g word hs') := Lib.hid (fun e => by have h := hP.out; subst e; exact h.closed hkk)
          have hmeas : (2029 - hs'.length) + (if ch then 1 else 0) < (2029 - hs.length) + (if true then 1 else 0) := by
            cases ch with
            | true => have := hP.out.grow rfl; rw [hhs] at this; simp; omega
            | false => have := hP.out.same rfl; rw [this, hhs]; simp
          clear hO hP hn
          go_wp2_with fail
          go_roundg ((2029 - hs'.length) + (if ch then 1 else 0))
          case measure => exact hmeas
          case rel => exact ⟨hs', ch, rfl, rfl, Lib.hid HD.out.2.1, Lib.hid ⟨HD.out.1.ok, HD.out.1.nd, hcl.out⟩, Lib.hid HD.out.2.2⟩
    | false =>
      obtain ⟨b, o, a', c', e, h1, h2, h3⟩ := (HH.out.1.new hn.out).elem hg0
      cases e
      simp only [Nat.zero_mul, Nat.add_zero] at h1
      have hst : Lr.start g = g[0].1 := start_get hg0
      have hiff := has_iffD hP.out.1 (hP.out.2.2 rfl) (start_head hg0)
      rw [hst] at hiff
      have hqc := Lib.hid (Contains_prt (Row3.of_owns hO.out) (by omega) (g[0].1, 0, word.length))
      have HF := Lib.hid (And.intro hiff (And.intro hst hn.out))
      clear hO hP hn hiff hst h2 h3
      generalize g[0].1 = A at *
      go_wp2_with (go_at_call 82; refine hqc.out.mono ?_; rintro e w7 ⟨rfl, hn7⟩)
      go_ret
      refine ⟨_, rfl, ?_, HF.out.2.2.trans hn7⟩
      rw [decide_eq_true_iff, HF.out.2.1]
      exact HF.out.1
end Go.Proofs.YtdejcdmgcckmoaaGreatDoor
