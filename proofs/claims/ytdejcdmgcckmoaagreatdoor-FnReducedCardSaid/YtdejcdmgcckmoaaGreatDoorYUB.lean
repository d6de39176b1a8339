/- What the parser answers; the reference: clean, a word, light. -/
import Derived.Test.YtdejcdmgcckmoaaGreatDoorYHH
import Derived.Test.YtdejcdmgcckmoaaGreatDoorYNN
import Derived.Test.YtdejcdmgcckmoaaGreatDoorYUA
import Derived.Test.YtdejcdmgcckmoaaGreatDoorYI
namespace Go.Proofs.YtdejcdmgcckmoaaGreatDoor
open Lr

/-! What the parser answers. -/
/-- A word's terminals. -/
structure WordOk (g : Gram) (w : List Str) : Prop where
  len : w.length ≤ 12
  trm : ∀ s ∈ w, symbolOkB s = true ∧ isHead g s = false
  mem : ∀ s ∈ w, s ∈ terminalsF g
theorem WordOk.noEnd {g : Gram} {w : List Str} (h : WordOk g w) : endS ∉ w := fun hc => absurd (h.trm _ hc).1 (by decide)
theorem WordOk.raw {g : Gram} {w : List Str} (h : WordOk g w) : ∀ s ∈ w, toldS s = s ∧ TrmS g s := fun s hs => ⟨told_ok (h.trm s hs).1, .inr (h.trm s hs)⟩
section
variable {g : Gram} {Γ : List (List Str)} {w γ r : List Str} {ps st : List Nat} {a : Str}
theorem Drv.bound (hm : Sm g) (hg : GOk g) (hs : Single g) (hL : Lite g) (hw : WordOk g w) (h : Drv g Γ w γ (a :: r) ps st) {x : Does} (hx : Says g γ a x) : ps.length ≤ 9300 :=
  Run.bound hs (noEnd_of hm) hg.prod hL hw.len hw.noEnd h.run hx
theorem Drv.no (hs : Single g) (h : Drv g Γ w γ (a :: r) ps st) (ha : ∀ x, ¬ Says g γ a x) : ¬ ∃ n, D g n [Lr.start g] w := fun ⟨_, hd⟩ => Run.none hs h.run ha hd
theorem Drv.yes (hm : Sm g) (hw : WordOk g w) (h : Drv g Γ w γ (a :: r) ps st) (ha : Says g γ a .accept) : (∃ n, D g n [Lr.start g] w) ∧ Der g [Lr.start g] ps.reverse w := by
  obtain ⟨h1, rfl, rfl, rfl⟩ := Run.accepted hw.noEnd h.run ha
  refine ⟨⟨_, h1⟩, ?_⟩
  obtain ⟨t, e, hd⟩ := h.run.der (t' := []) rfl (fun x hx => by
    rcases List.mem_append.1 hx with hx | hx
    · exact (hw.trm x hx).2
    · simp at hx; rw [hx]; exact (noEnd_of hm).head)
  have : w = t := List.append_cancel_right e
  subst this
  simpa using hd
/-- The word's rest, as the package names it. -/
theorem Drv.rest (h : Drv g Γ w γ r ps st) : ∃ m, r = (w.drop m) ++ [endS] ∧ m ≤ w.length := by
  obtain ⟨v, e, _⟩ := h.run.sound (u := []) (n := 0) .nil
  obtain ⟨r', rfl⟩ := h.fin
  have e2 : w = v ++ r' := by
    rw [← List.append_assoc] at e
    exact List.append_cancel_right e
  exact ⟨v.length, by rw [e2]; simp, by rw [e2]; simp⟩
end
/-! ### The reductions, read back -/
theorem der_cons {g : Gram} {row : List Str} {p : Nat} {ps : List Nat} {w : List Str} (h : Der g row (p :: ps) w) : ∃ α A b t, row = α ++ A :: t ∧ g[p]? = some (A, b) ∧ (∀ x ∈ t, isHead g x = false) ∧ Der g (α ++ b ++ t) ps w := by
  cases h with
  | step h1 h2 h3 => exact ⟨_, _, _, _, rfl, h1, h2, h3⟩
theorem der_nil {g : Gram} {row w : List Str} (h : Der g row [] w) : row = w := by
  cases h; rfl
/-- Symbols of the grammar alone. -/
def SymsOk (g : Gram) (row : List Str) : Prop := ∀ s ∈ row, symbolOkB s = true ∧ greatB s = isHead g s
theorem syms_body {g : Gram} (hm : Sm g) {p : Nat} {A : Str} {b : List Str} (hp : g[p]? = some (A, b)) : SymsOk g b := fun s hs => ⟨hm.sym _ (List.mem_of_getElem? hp) s hs, hm.great_iff (List.mem_of_getElem? hp) hs⟩
theorem syms_start {g : Gram} (hm : Sm g) : SymsOk g [Lr.start g] := fun s hs => by
  simp at hs; subst hs
  exact ⟨symIn_ok hm (.inl rfl), sym_small hm (.inl rfl)⟩
theorem syms_step {g : Gram} (hm : Sm g) {p : Nat} {A : Str} {α b t : List Str} (hp : g[p]? = some (A, b)) (h : SymsOk g (α ++ A :: t)) : SymsOk g (α ++ b ++ t) := fun s hs => by
  rcases List.mem_append.1 hs with hs | hs
  · rcases List.mem_append.1 hs with hs | hs
    · exact h s (List.mem_append.2 (.inl hs))
    · exact syms_body hm hp s hs
  · exact h s (List.mem_append.2 (.inr (List.mem_cons_of_mem _ hs)))
end Go.Proofs.YtdejcdmgcckmoaaGreatDoor
namespace Go.Proofs.YtdejcdmgcckmoaaGreatDoor
open Go.RowKit Go.Sort Lr

set_option maxRecDepth 20000 in
set_option maxHeartbeats 2000000 in
/-- Where the reference calls a grammar clean, nowhere two actions are said. -/
theorem Clean_any {g : Gram} (hg : GOk g) (hfew : Few g 120) (v : Value) (w : World) (h : GramAt w v g) :
    Calls Tryz.prog 28 #[v] w fun e w' => ∃ b b2, e = .returned (.tuple #[.bool b, .bool b2]) ∧ (b = true → Single g) ∧ New w w' := by
  have hm := hg.toSm
  have hq := Lib.hid (RefStates_any hg v w h)
  have HH := Lib.hid h
  obtain ⟨a, cap, rfl⟩ := h.slice
  clear h
  go_enter Tryz.func28, Tryz.ntmps28
  go_wp2_with fail
  refine hq.out.mono ?_
  rintro e w1 ⟨vL, vE, b, rfl, hn1, hfl, hb⟩
  cases b with
  | false => exact absurd hfew (hfl rfl)
  | true =>
    obtain ⟨Γ, A, E, hT, hM, hE, ho, _, hEl⟩ := hb rfl
    have hAl : A.length ≤ 120 := by rw [hT.len]; exact hfew.le hT.full.toGamOk
    have H1 := Lib.hid (And.intro hT (And.intro hM (And.intro hE (And.intro ho hn1))))
    obtain ⟨aL, cL, rfl⟩ := hM.slice
    obtain ⟨aE, cE, rfl⟩ := hE.slice
    clear hb hfl hT hM hE ho hn1 hq
    go_wp2_with fail
    go_loopg [21] A.length (fun gk u21 wr => ∃ k : Nat, k ≤ A.length ∧ gk = A.length - k ∧ u21 = .int .i64 k ∧ Hid (∀ (i : Nat) (l : List Itm) (s : Str), i < k → A[i]? = some l → s ∈ looksF g → (saidF g l E i s).length ≤ 1) ∧ Hid (New w1 wr))
    case atStart => exact ⟨0, Nat.zero_le _, rfl, rfl, Lib.hid (fun i l s h => by omega), Lib.hid (New.refl w1)⟩
    case round =>
      obtain ⟨k, hk, rfl, rfl, hno, hn⟩ := hrel
      by_cases hlt : k < A.length
      · obtain ⟨b, o, a', c', e, h1, h2⟩ := (H1.out.2.1.new hn.out).elem hlt
        cases e
        have hkΓ : k < Γ.length := by rw [← H1.out.1.len]; exact hlt
        have hl : ∀ x ∈ A[k], Vld g Γ[k] x := fun x hx => (H1.out.1.items k _ _ (List.getElem?_eq_getElem hkΓ) (List.getElem?_eq_getElem hlt) x).1 hx
        have hll := items_le2 hm (H1.out.2.2.2.1 _ (List.getElem_mem hlt)) hl
        have HV := Lib.hid (And.intro hl h2)
        have hqL := Lib.hid (Looks_any _ g wr (HH.out.new (H1.out.2.2.2.2.trans hn.out)) hm)
        have HNR := Lib.hid hn.out
        have HNO := Lib.hid hno.out
        clear hl h2 hn hno
        go_wp2_with (go_at_call 34; refine hqL.out.mono ?_; rintro e w6 ⟨vK, rfl, hK6, hn6⟩; obtain ⟨aK, cK, eK⟩ := owns_slice hK6; subst eK)
        have H6 := Lib.hid (And.intro hK6.at (And.intro (HNR.out.trans hn6) (HV.out.2.new hn6)))
        clear hK6 hn6 hqL
        go_loopg [29] (looksF g).length (fun gj u29 wq => ∃ j : Nat, j ≤ (looksF g).length ∧ gj = (looksF g).length - j ∧ u29 = .int .i64 j ∧ Hid (∀ s ∈ (looksF g).take j, (saidF g A[k] E k s).length ≤ 1) ∧ Hid (New w6 wq))
        case atStart => exact ⟨0, Nat.zero_le _, rfl, rfl, Lib.hid (fun s hs => by simp at hs), Lib.hid (New.refl w6)⟩
        case round =>
          obtain ⟨j, hj, rfl, rfl, hno, hn⟩ := hrel
          by_cases hjl : j < (looksF g).length
          · obtain ⟨b2, o2, e, h4⟩ := (H6.out.1.new hn.out).elem hjl
            cases e
            have hsL := List.getElem_mem hjl
            have hs0 := looks_ne hm hsL
            have hll2 := looks_len hm
            have hq := Lib.hid (Said_any hg HV.out.1 (by omega) (E := E) (by omega) _ _ _ k (looksF g)[j] hs0 wr (HH.out.new ((H1.out.2.2.2.2.trans H6.out.2.1).trans hn.out)) (H6.out.2.2.new hn.out) (H1.out.2.2.1.new (H6.out.2.1.trans hn.out)))
            have hac := acsOf_len k (looksF g)[j] (saidF g A[k] E k (looksF g)[j])
            have hstep : (saidF g A[k] E k (looksF g)[j]).length ≤ 1 → ∀ s ∈ (looksF g).take (j + 1), (saidF g A[k] E k s).length ≤ 1 := fun h1 s hs => by
              rw [List.take_succ_eq_append_getElem hjl] at hs
              rcases List.mem_append.1 hs with hs | hs
              · exact hno.out s hs
              · simp at hs; rw [hs]; exact h1
            have HST := Lib.hid hstep
            have HNA := Lib.hid hn.out
            have hSl := saidF_len g A[k] E k (looksF g)[j]
            clear hn hsL hstep hno
            generalize (looksF g)[j] = s at *
            generalize saidF g A[k] E k s = S at *
            by_cases hS : 1 < S.length
            · have hz : (1 : Int) < (S.length : Int) := by omega
              have hzb : decide ((1 : Int) < (S.length : Int)) = true := decide_eq_true hz
              go_wp2_with (first | (go_at_call 35; refine hq.out.mono ?_; rintro e w7 ⟨vS, rfl, hS7, hn7⟩; obtain ⟨aS, cS, eS⟩ := hS7.slice; subst eS; rw [hac]; have HN8 := Lib.hid (HNA.out.trans hn7); clear hS7 hn7))
              go_ret2
              exact ⟨false, true, rfl, (fun h => by cases h), H1.out.2.2.2.2.trans (H6.out.2.1.trans HN8.out)⟩
            · have hz : ¬ (1 : Int) < (S.length : Int) := by omega
              have hzb : decide ((1 : Int) < (S.length : Int)) = false := decide_eq_false hz
              go_wp2_with (first | (go_at_call 35; refine hq.out.mono ?_; rintro e w7 ⟨vS, rfl, hS7, hn7⟩; obtain ⟨aS, cS, eS⟩ := hS7.slice; subst eS; rw [hac]; have HN8 := Lib.hid (HNA.out.trans hn7); clear hS7 hn7))
              go_roundg ((looksF g).length - (j + 1))
              case measure => omega
              case rel => exact ⟨j + 1, by omega, rfl, by go_num, Lib.hid (HST.out (by omega)), HN8⟩
          · have hfin : ∀ (i : Nat) (l : List Itm) (s : Str), i < k + 1 → A[i]? = some l → s ∈ looksF g → (saidF g l E i s).length ≤ 1 := fun i l s hi he hs => by
              by_cases e : i = k
              · subst e
                rw [List.getElem?_eq_getElem hlt] at he
                cases he
                exact hno.out s (by rw [List.take_of_length_le (by omega)]; exact hs)
              · exact HNO.out i l s (by omega) he hs
            have HF := Lib.hid (And.intro hfin (H6.out.2.1.trans hn.out))
            clear hn hno hfin
            go_wp2
            go_roundg (A.length - (k + 1))
            case measure => omega
            case rel => exact ⟨k + 1, by omega, rfl, by go_num, Lib.hid HF.out.1, Lib.hid HF.out.2⟩
      · have HF := Lib.hid (And.intro hno.out hn.out)
        clear hno hn
        go_wp2
        go_ret2
        exact ⟨true, true, rfl, fun _ => single_of hm H1.out.1 fun i l s hl hs => HF.out.1 i l s (by have := (List.getElem?_eq_some_iff.1 hl).1; omega) hl hs, H1.out.2.2.2.2.trans HF.out.2⟩
end Go.Proofs.YtdejcdmgcckmoaaGreatDoor
namespace Go.Proofs.YtdejcdmgcckmoaaGreatDoor
open Go.RowKit Go.Sort Lr

theorem enters75 : ∀ args w, (callFunc 75 args).run Tryz.prog w = .ok (.enter 75 args) w := enters_of Tryz.func75 (by kernel_rfl) rfl
set_option maxHeartbeats 400000 in
theorem noTerm_any {g : Gram} (hm : Sm g) (s : Str) (v : Value) (b : Nat) (w : World) (h : w.cell? ⟨b, 0, none⟩ = some v) (hg : GramAt w v g) :
    Calls Tryz.prog 75 #[sv s, .pointer (some ⟨b, 0, none⟩)] w fun e w' => e = .returned (.bool (!has (terminalsF g) s)) ∧ New w w' := by
  have hq := Lib.hid (Terminals_any v g w hg hm)
  have h1 := terminals_len hm.body
  have h2 := hm.len
  obtain ⟨a, cap, rfl⟩ := hg.slice
  clear hg
  go_enter Tryz.func75, Tryz.ntmps75
  go_wp2_with (first | (go_at_call 14; refine hq.out.mono ?_; rintro e w1 ⟨vT, rfl, hoT, hn1⟩; have hqc := Lib.hid (Contains_str vT (terminalsF g) s w1 hoT.at (by omega)); have HN := Lib.hid hn1; clear hoT hn1) | (go_at_call 15; refine hqc.out.mono ?_; rintro e w2 ⟨rfl, rfl⟩))
  go_ret
  exact ⟨rfl, HN.out⟩
set_option maxRecDepth 20000 in
set_option maxHeartbeats 400000 in
/-- A word of which is spoken. -/
theorem wordOk_any {g : Gram} (hm : Sm g) (v vw : Value) (word : List Str) (w : World) (h : GramAt w v g) (hw : StrsAt w vw word) (hl : word.length ≤ 9223372036854775807) :
    Calls Tryz.prog 26 #[v, vw] w fun e w' => ∃ b, e = .returned (.bool b) ∧ (b = true → WordOk g word) ∧ New w w' := by
  obtain ⟨aw, cw, rfl⟩ := hw.slice
  by_cases h12 : word.length ≤ 12
  · have hn0 : New w (w.alloc (.cells #[v] 22)) := (New.refl w).alloc _
    have hq := Lib.hid (ContainsFunc_str _ word (w.alloc (.cells #[v] 22)) (hw.new hn0) (by omega) 75 #[.pointer (some ⟨w.heap.size, 0, none⟩)] (fun s => !has (terminalsF g) s) enters75
      (fun k hk w' hn => noTerm_any hm word[k] v w.heap.size w' (hn.cell (by simp)) ((h.new hn0).new hn)))
    have hz : (word.length : Int) ≤ 12 := by omega
    have hzb : decide ((word.length : Int) ≤ 12) = true := decide_eq_true hz
    obtain ⟨a, cap, rfl⟩ := h.slice
    have HN := Lib.hid hn0
    clear hw h hn0
    go_enter Tryz.func26, Tryz.ntmps26
    go_wp2_with (go_at_call 74; refine hq.out.mono ?_; rintro e w1 ⟨rfl, hn1⟩)
    go_ret
    refine ⟨_, rfl, fun hb => ?_, HN.out.trans hn1⟩
    have hall : (word.any fun s => !has (terminalsF g) s) = false := by simpa using hb
    rw [List.any_eq_false] at hall
    have hmem : ∀ s ∈ word, s ∈ terminalsF g := fun s hs => by
      have := hall s hs
      simp only [Bool.not_eq_true', Bool.not_eq_false] at this
      exact has_iff.1 this
    exact ⟨h12, fun s hs => (termsOk hm).sym s (hmem s hs), hmem⟩
  · have hz : ¬ (word.length : Int) ≤ 12 := by omega
    have hzb : decide ((word.length : Int) ≤ 12) = false := decide_eq_false hz
    obtain ⟨a, cap, rfl⟩ := h.slice
    clear hw h
    go_enter Tryz.func26, Tryz.ntmps26
    go_wp2
    go_ret
    exact .inl ⟨rfl, (New.refl w).alloc _⟩
end Go.Proofs.YtdejcdmgcckmoaaGreatDoor
namespace Go.Proofs.YtdejcdmgcckmoaaGreatDoor
open Go.RowKit Go.Sort Lr

/-- The table of empty words, in memory. -/
def mkC (H : List Str) (mk : Str → Nat) : Array Value := (H.map fun A => Value.int .i64 (mk A : Int)).toArray
theorem mkC_get {H : List Str} {mk : Str → Nat} {j : Nat} {s : Str} (h : H[j]? = some s) : (mkC H mk)[j]? = some (.int .i64 (mk s : Int)) := by
  simp [mkC, h]
theorem mkC_put {H : List Str} (hn : H.Nodup) {mk : Str → Nat} {j : Nat} {s : Str} (h : H[j]? = some s) (n : Nat) : (mkC H mk).setIfInBounds j (.int .i64 ((max (mk s) n : Nat) : Int)) = mkC H (putL mk s n) := by
  unfold mkC
  rw [List.setIfInBounds_toArray]
  congr 1
  apply List.ext_getElem?
  intro i
  rw [List.getElem?_map]
  obtain ⟨hj, hjs⟩ := List.getElem?_eq_some_iff.1 h
  by_cases e : i = j
  · subst e
    rw [List.getElem?_set_self (by simpa using hj), h]
    simp [putL]
  · rw [List.getElem?_set_ne (fun x => e x.symm), List.getElem?_map]
    cases hi : H[i]? with
    | none => rfl
    | some t =>
      have hne : t ≠ s := fun e2 => by
        subst e2
        obtain ⟨hi', hit⟩ := List.getElem?_eq_some_iff.1 hi
        exact e ((List.getElem_inj hn).1 (hit.trans hjs.symm))
      simp [putL, hne]
theorem sumL_step {mk : Str → Nat} {l : List Str} {j n : Nat} (hj : j < l.length) : sumL mk (l.drop j) n = if mk l[j] = 0 then 0 else sumL mk (l.drop (j + 1)) (n + mk l[j]) := by
  rw [List.drop_eq_getElem_cons hj]; rfl
theorem mk_head {g : Gram} {mk : Str → Nat} (hL : LtIn g mk) {s : Str} (h : has (headsF g) s = false) : mk s = 0 := by
  apply Classical.byContradiction
  intro hn
  have := (hL.size s hn).2.1
  rw [← headsF_mem, ← has_iff] at this
  rw [h] at this; cases this
set_option maxRecDepth 20000 in
set_option maxHeartbeats 1000000 in
/-- Where the reference calls a grammar light, it is. -/
theorem Light_any {g : Gram} (hm : Sm g) (v : Value) (w : World) (h : GramAt w v g) :
    Calls Tryz.prog 27 #[v] w fun e w' => ∃ b, e = .returned (.bool b) ∧ (b = true → Lite g) ∧ New w w' := by
  have hgl := hm.len
  have hHl := headsF_len g
  have hq := Lib.hid (Heads_any v g w h (by omega))
  have HH := Lib.hid h
  obtain ⟨a, cap, rfl⟩ := h.slice
  clear h
  go_enter Tryz.func27, Tryz.ntmps27
  have hmk := fun W => make_one T44 rfl (headsF g).length (by omega) (by omega) W
  go_wp2_with (go_at_call 16; refine hq.out.mono ?_; rintro e w1 ⟨vH, rfl, hoH, hn1⟩; have HW1 := Lib.hid (And.intro hoH.at hn1); obtain ⟨aH, cH, eH⟩ := owns_slice hoH; subst eH; clear hoH hn1)
  have h0 : (w1.alloc (.cells (Array.replicate (headsF g).length (.int .i64 0)) 3)).heap[w1.heap.size]? = some (.cells (mkC (headsF g) fun _ => 0) 3 (0, 0)) := by
    have := heap_alloc_new w1 (.cells (Array.replicate (headsF g).length (.int .i64 0)) 3)
    rw [this]
    congr 2
    unfold mkC
    rw [← List.toArray_replicate]
    congr 1
    apply List.ext_getElem?
    intro i
    rw [List.getElem?_replicate, List.getElem?_map]
    by_cases hi : i < (headsF g).length
    · rw [if_pos hi, List.getElem?_eq_getElem hi]; rfl
    · rw [if_neg hi, List.getElem?_eq_none (by omega)]; rfl
  have H0 := Lib.hid (And.intro h0 ((New.refl w1).alloc (.cells (Array.replicate (headsF g).length (.int .i64 0)) 3)))
  clear h0 hmk
  have Hqs := Lib.hid (Nat.le_refl w1.heap.size)
  generalize w1.alloc (.cells (Array.replicate (headsF g).length (.int .i64 0)) 3) = W1 at *
  generalize hqq : w1.heap.size = q at *
  have HQ := Lib.hid hqq
  clear hqq Hqs
  have hgl2 : Hid (g.length ≤ 12) := Lib.hid hgl
  go_loopg [20] (g.length + 1) (fun gk u20 wr => ∃ (r : Nat) (mk : Str → Nat), r ≤ g.length + 1 ∧ gk = g.length + 1 - r ∧ u20 = .int .i64 r ∧ Hid (wr.heap[q]? = some (.cells (mkC (headsF g) mk) 3 (0, 0))) ∧ Hid (LtOk g (headsF g) mk r) ∧ Hid (New w1 wr))
  case atStart => exact ⟨0, _, Nat.zero_le _, rfl, rfl, Lib.hid H0.out.1, Lib.hid (LtOk.init g _), Lib.hid H0.out.2⟩
  case round =>
    obtain ⟨r, mk, hr, rfl, rfl, hO, hL, hn⟩ := hrel
    by_cases hlt : r < g.length + 1
    · have hz : (r : Int) < (g.length : Int) + 1 := by omega
      have HE := Lib.hid (And.intro hO.out hn.out)
      clear hO hn
      go_wp2_with fail
      go_loopg [24] g.length (fun gk u24 wr => ∃ (k : Nat) (mk' : Str → Nat), k ≤ g.length ∧ gk = g.length - k ∧ u24 = .int .i64 k ∧ Hid (wr.heap[q]? = some (.cells (mkC (headsF g) mk') 3 (0, 0))) ∧ Hid (LtRd g mk mk' k) ∧ Hid (New w1 wr))
      case atStart => exact ⟨0, mk, Nat.zero_le _, rfl, rfl, Lib.hid HE.out.1, Lib.hid (LtRd.init hL.out.inn), Lib.hid HE.out.2⟩
      case round =>
        clear HE
        obtain ⟨k, mk', hk, rfl, rfl, hO, hR, hn⟩ := hrel
        by_cases hkl : k < g.length
        · obtain ⟨b, o, a', c', e, h1, h2, h3⟩ := (HH.out.new (HW1.out.2.trans hn.out)).elem hkl
          cases e
          have hmem := List.getElem_mem hkl
          have hbl := hm.body _ hmem
          obtain ⟨jx, hjx, hjl⟩ := idxOf_yes (s := g[k].1) (l := headsF g) (k := 0) (has_iff.2 (headsF_mem.2 (isHead_iff.2 ⟨g[k].2, hmem⟩)))
          rw [Nat.zero_add] at hjx
          have hjxl := (List.getElem?_eq_some_iff.1 hjl).1
          have hA : New wr (wr.alloc (.cells #[sv g[k].1, .slice a' g[k].2.length c'] 67)) := (New.refl wr).alloc _
          have d0 : (wr.alloc (.cells #[sv g[k].1, .slice a' g[k].2.length c'] 67)).cell? ⟨wr.heap.size, 0, none⟩ = some (sv g[k].1) := by simp
          have d1 : (wr.alloc (.cells #[sv g[k].1, .slice a' g[k].2.length c'] 67)).cell? ⟨wr.heap.size, 1, none⟩ = some (.slice a' g[k].2.length c') := by simp
          have H3 := Lib.hid (And.intro (hA.heap hO.out) (And.intro (hn.out.trans hA) (And.intro (h3.new hA) (And.intro d0 d1))))
          clear hO hn hA h3 d0 d1
          go_wp2_with fail
          generalize wr.heap.size = pb at *
          generalize wr.alloc (.cells #[sv g[k].1, .slice a' g[k].2.length c'] 67) = W2 at *
          go_loopg [7, 31] g[k].2.length (fun gj u7 u31 wr => ∃ (j n : Nat), j ≤ g[k].2.length ∧ gj = g[k].2.length - j ∧ u31 = .int .i64 j ∧ u7 = .int .i64 n ∧ 0 < n ∧ n ≤ 1 + 10 * j ∧ Hid (sumL mk' g[k].2 1 = sumL mk' (g[k].2.drop j) n) ∧ Hid (New W2 wr))
          case atStart => exact ⟨0, 1, Nat.zero_le _, rfl, rfl, rfl, by omega, by omega, Lib.hid rfl, Lib.hid (New.refl W2)⟩
          case round =>
            obtain ⟨j, n, hj, rfl, rfl, rfl, hn0, hnb, hS, hn⟩ := hrel
            have hO := hn.out.heap H3.out.1
            have d0 := hn.out.cell H3.out.2.2.2.1
            have d1 := hn.out.cell H3.out.2.2.2.2
            by_cases hjl2 : j < g[k].2.length
            · obtain ⟨b2, o2, e, h4⟩ := (H3.out.2.2.1.new hn.out).elem hjl2
              cases e
              have hst := sumL_step (mk := mk') (n := n) hjl2
              have hSt := Lib.hid (hS.out.trans hst)
              have hmkl : mk' (g[k].2[j]) ≠ 0 → mk' (g[k].2[j]) ≤ 10 := fun h0 => (hR.out.inn.size _ h0).1
              have hmkh := mk_head hR.out.inn (s := g[k].2[j])
              have hqi := Lib.hid (fun t => Index_str _ (headsF g) t wr (HW1.out.1.new (H3.out.2.1.trans hn.out)) (by omega))
              have cjx := (cell_of_blk hO jx).trans (mkC_get hjl)
              have fjx := free_of_blk hO
              have HB := Lib.hid (And.intro hO (And.intro hn.out (And.intro hjl (And.intro hR.out (List.getElem_mem hkl)))))
              clear hst hS hn
              cases hh : has (headsF g) g[k].2[j] with
              | false =>
                have hz := hmkh hh
                have hidx := idxOf_no (k := 0) hh
                rw [hz] at hSt
                have HSt := Lib.hid (show sumL mk' g[k].2 1 = 0 from by rw [hSt.out]; rfl)
                clear hz hmkh hmkl hh
                generalize g[k].2[j] = s at *
                go_wp2_with (go_at_call 55; refine (hqi.out _).mono ?_; rintro e w' ⟨rfl, rfl⟩; first | rw [hidx] | rw [hjx])
                have hput := mkC_put (headsF_nodup g) (mk := mk') HB.out.2.2.1 0
                have hnx := HB.out.2.2.2.1.next hkl (by rw [HSt.out]; omega)
                rw [HSt.out] at hnx
                have hset := set_of_blk HB.out.1 jx (.int .i64 ((max (mk' g[k].1) 0 : Nat) : Int))
                rw [hput] at hset
                have HX := Lib.hid (And.intro hset hnx)
                clear hput hnx hset
                go_roundg (g.length - (k + 1))
                case measure => omega
                case rel => exact ⟨k + 1, _, by omega, rfl, by go_num, Lib.hid (by have := HX.out.1; rwa [Nat.max_eq_left (Nat.zero_le _)] at this), Lib.hid HX.out.2, Lib.hid ((H3.out.2.1.trans HB.out.2.1).setCell (Nat.le_of_eq HQ.out) _)⟩
              | true =>
                obtain ⟨js, hjs, hjsl⟩ := idxOf_yes (k := 0) hh
                rw [Nat.zero_add] at hjs
                have hjsl2 := (List.getElem?_eq_some_iff.1 hjsl).1
                have cjs := (cell_of_blk hO js).trans (mkC_get hjsl)
                clear hh hmkh
                have HJS := Lib.hid hjsl
                clear hjsl
                generalize g[k].2[j] = s at *
                by_cases hz : mk' s = 0
                · rw [hz] at hSt cjs
                  have HSt := Lib.hid (show sumL mk' g[k].2 1 = 0 from by rw [hSt.out]; rfl)
                  clear hz hmkl
                  go_wp2_with (go_at_call 55; refine (hqi.out _).mono ?_; rintro e w' ⟨rfl, rfl⟩; first | rw [hjs] | rw [hjx])
                  have hput := mkC_put (headsF_nodup g) (mk := mk') HB.out.2.2.1 0
                  have hnx := HB.out.2.2.2.1.next hkl (by rw [HSt.out]; omega)
                  rw [HSt.out] at hnx
                  have hset := set_of_blk HB.out.1 jx (.int .i64 ((max (mk' g[k].1) 0 : Nat) : Int))
                  rw [hput] at hset
                  have HX := Lib.hid (And.intro hset hnx)
                  clear hput hnx hset
                  go_roundg (g.length - (k + 1))
                  case measure => omega
                  case rel => exact ⟨k + 1, _, by omega, rfl, by go_num, Lib.hid (by have := HX.out.1; rwa [Nat.max_eq_left (Nat.zero_le _)] at this), Lib.hid HX.out.2, Lib.hid ((H3.out.2.1.trans HB.out.2.1).setCell (Nat.le_of_eq HQ.out) _)⟩
                · have hm10 := hmkl hz
                  have hzb : ((mk' s : Int) == 0) = false := beq_eq_false_iff_ne.2 (by omega)
                  have HSt := Lib.hid (show sumL mk' g[k].2 1 = sumL mk' (g[k].2.drop (j + 1)) (n + mk' s) from by rw [hSt.out, if_neg hz])
                  clear hmkl hSt
                  go_wp2_with (go_at_call 55; refine (hqi.out _).mono ?_; rintro e w' ⟨rfl, rfl⟩; first | rw [hjs] | rw [hjx])
                  go_roundg (g[k].2.length - (j + 1))
                  case measure => omega
                  case rel => exact ⟨j + 1, n + mk' s, by omega, rfl, by go_num, by go_num, by omega, by omega, HSt, Lib.hid HB.out.2.1⟩
            · have hSt : sumL mk' g[k].2 1 = n := by rw [hS.out, List.drop_of_length_le (by omega)]; rfl
              have HSt := Lib.hid hSt
              have hqi := Lib.hid (fun t => Index_str _ (headsF g) t wr (HW1.out.1.new (H3.out.2.1.trans hn.out)) (by omega))
              have cjx := (cell_of_blk hO jx).trans (mkC_get hjl)
              have fjx := free_of_blk hO
              have HB := Lib.hid (And.intro hO (And.intro hn.out (And.intro hjl (And.intro hR.out (List.getElem_mem hkl)))))
              clear hS hn hSt
              by_cases h10 : n ≤ 10
              · have hz : ¬ (10 : Int) < (n : Int) := by omega
                have hzb : decide ((10 : Int) < (n : Int)) = false := decide_eq_false hz
                go_wp2_with (go_at_call 55; refine (hqi.out _).mono ?_; rintro e w' ⟨rfl, rfl⟩; rw [hjx])
                have hput := mkC_put (headsF_nodup g) (mk := mk') HB.out.2.2.1 n
                have hnx := HB.out.2.2.2.1.next hkl (by rw [HSt.out]; omega)
                rw [HSt.out] at hnx
                have hset := set_of_blk HB.out.1 jx (.int .i64 ((max (mk' g[k].1) n : Nat) : Int))
                rw [hput] at hset
                have HX := Lib.hid (And.intro hset hnx)
                clear hput hnx hset
                go_roundg (g.length - (k + 1))
                case measure => omega
                case rel => exact ⟨k + 1, _, by omega, rfl, by go_num, Lib.hid (by have := HX.out.1; rwa [show ((max (mk' g[k].1) n : Nat) : Int) = max (mk' g[k].1 : Int) (n : Int) by omega] at this), Lib.hid HX.out.2, Lib.hid ((H3.out.2.1.trans HB.out.2.1).setCell (Nat.le_of_eq HQ.out) _)⟩
              · have hz : (10 : Int) < (n : Int) := by omega
                have hzb : decide ((10 : Int) < (n : Int)) = true := decide_eq_true hz
                go_wp2_with fail
                go_ret
                exact ⟨false, rfl, (fun h => by cases h), HW1.out.2.trans (H3.out.2.1.trans HB.out.2.1)⟩
        · obtain rfl : k = g.length := by omega
          have HF := Lib.hid (And.intro hO.out (And.intro (LtOk.next (fun A hA => headsF_mem.2 hA) hL.out hR.out) hn.out))
          clear hO hR hn
          go_wp2
          go_roundg (g.length + 1 - (r + 1))
          case measure => omega
          case rel => exact ⟨r + 1, mk', by omega, rfl, by go_num, Lib.hid HF.out.1, Lib.hid HF.out.2.1, Lib.hid HF.out.2.2⟩
    · obtain rfl : r = g.length + 1 := by omega
      have hz : ¬ (((g.length + 1 : Nat) : Int) < (g.length : Int) + 1) := by omega
      have HF := Lib.hid (And.intro hL.out hn.out)
      clear hO hL hn
      go_wp2
      go_ret
      exact .inr ⟨rfl, HF.out.1.lite (by omega) hgl2.out hm.body, HW1.out.2.trans HF.out.2⟩
end Go.Proofs.YtdejcdmgcckmoaaGreatDoor
