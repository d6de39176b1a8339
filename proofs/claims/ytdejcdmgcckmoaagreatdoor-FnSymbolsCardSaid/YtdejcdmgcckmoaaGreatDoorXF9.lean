/- A part of the proofs about gocc: F9. -/
import Derived.Test.YtdejcdmgcckmoaaGreatDoorXF8
import Derived.Deep.DeepCutAuto
import Derived.Deep.RegionHeld3
namespace Go.Proofs.YtdejcdmgcckmoaaGreatDoor
open Go.RowKit Lr

/-- Calling a symbol's method, of whichever kind it is. -/
theorem sy_call (sy : Sy) : ∃ ty v fid, sy.val = .iface ty v ∧ (∀ w, (method 481 ty v "SymbolString").run Tryz.prog w = .ok (fid, v) w) ∧ (∀ w, (nilAhead 481 ty v "SymbolString").run Tryz.prog w = .ok (some false) w) ∧
    (∀ w, Calls Tryz.prog fid #[v] w fun e w' => e = .returned (sv sy.str) ∧ w = w') ∧ (fid = 302 ∨ fid = 305 ∨ fid = 308) := by
  cases sy with
  | nt s => exact ⟨142, sv s, 302, rfl, met142 s, fun w => by kernel_rfl, SymStr_nt s, .inl rfl⟩
  | tk s => exact ⟨143, sv s, 305, rfl, met143 s, fun w => by kernel_rfl, SymStr_tk s, .inr (.inl rfl)⟩
  | em => exact ⟨144, .int .i64 0, 308, rfl, met144, fun w => by kernel_rfl, SymStr_em 0, .inr (.inr rfl)⟩

def firstT (ta : Str → Str → Bool) (nk : List Str) (s t : Str) : Bool := if has nk s then ta s t else decide (t = s)
theorem firstF_eq (sg : Str → Option (Nat × (Str → Bool))) (nk : List Str) : firstF sg nk = firstT (tau sg) nk := rfl
theorem seqF_mono {F F' : Str → Str → Bool} (h : ∀ s t, F s t = true → F' s t = true) : ∀ {l : List Str} {t : Str}, seqF F l t = true → seqF F' l t = true
  | [], t, e => by cases e
  | s :: rest, t, e => by
    unfold seqF at e ⊢
    by_cases ht : t = emptyS
    · rw [if_pos ht, List.all_eq_true] at e
      rw [if_pos ht, List.all_eq_true]
      exact fun x hx => h _ _ (e x hx)
    · rw [if_neg ht] at e
      rw [if_neg ht]
      simp only [Bool.or_eq_true, Bool.and_eq_true] at e ⊢
      rcases e with e | ⟨e1, e2⟩
      · exact .inl (h _ _ e)
      · exact .inr ⟨h _ _ e1, seqF_mono h e2⟩
theorem seqF_from {F : Str → Str → Bool} : ∀ {l : List Str} {t : Str}, seqF F l t = true → ∃ s ∈ l, F s t = true
  | [], t, e => by cases e
  | s :: rest, t, e => by
    unfold seqF at e
    by_cases ht : t = emptyS
    · rw [if_pos ht, List.all_eq_true] at e
      exact ⟨s, List.mem_cons_self .., by rw [ht]; exact e s (List.mem_cons_self ..)⟩
    · rw [if_neg ht] at e
      simp only [Bool.or_eq_true, Bool.and_eq_true] at e
      rcases e with e | ⟨e1, e2⟩
      · exact ⟨s, List.mem_cons_self .., e⟩
      · obtain ⟨x, hx, h⟩ := seqF_from e2
        exact ⟨x, List.mem_cons_of_mem _ hx, h⟩
theorem seqF_term {ta : Str → Str → Bool} {nk : List Str} {s : Str} {rest : List Str} (hs : has nk s = false) (he : s = emptyS → rest = []) (t : Str) : seqF (firstT ta nk) (s :: rest) t = decide (t = s) := by
  have hF : ∀ t, firstT ta nk s t = decide (t = s) := fun t => by simp [firstT, hs]
  unfold seqF
  by_cases ht : t = emptyS
  · rw [if_pos ht]
    by_cases hse : s = emptyS
    · rw [he hse]
      simp only [List.all_cons, List.all_nil, Bool.and_true, hF]
      rw [ht]
    · simp only [List.all_cons, hF]
      have : decide (emptyS = s) = false := by simp; exact fun e => hse e.symm
      rw [this, ht, this]; rfl
  · rw [if_neg ht, hF, hF]
    by_cases hse : s = emptyS
    · rw [he hse]; simp [seqF]
    · have : decide (emptyS = s) = false := by simp; exact fun e => hse e.symm
      rw [this]; simp

/-- What the body of a production begins with. -/
def firstB (ta : Str → Str → Bool) (nk : List Str) (p : AP) (t : Str) : Bool := seqF (firstT ta nk) (p.2.map Sy.str) t
def ClosedF (ta : Str → Str → Bool) (nk : List Str) (p : AP) : Prop := ∀ t, firstB ta nk p t = true → ta p.1 t = true
def allT (L : List AP) : List Str := L.flatMap fun p => p.2.map Sy.str
def allU (L : List AP) : List (Str × Str) := L.flatMap fun p => (allT L).map fun s => (p.1, s)
/-- What holds of the first sets all the time. -/
structure FsOk (L : List AP) (nk : List Str) (ta : Str → Str → Bool) : Prop where
  inT : ∀ A t, ta A t = true → t ∈ allT L
  least : ∀ ta', (∀ p ∈ L, ClosedF ta' nk p) → ∀ A t, ta A t = true → ta' A t = true
theorem FsOk.inB {L : List AP} {nk : List Str} {ta : Str → Str → Bool} (h : FsOk L nk ta) {p : AP} (hp : p ∈ L) {t : Str} (ht : firstB ta nk p t = true) : (p.1, t) ∈ allU L := by
  have : t ∈ allT L := by
    obtain ⟨s, hs, hF⟩ := seqF_from ht
    unfold firstT at hF
    by_cases hh : has nk s = true
    · rw [if_pos hh] at hF
      exact h.inT _ _ hF
    · rw [if_neg hh] at hF
      have : t = s := by simpa using hF
      rw [this]
      exact List.mem_flatMap.2 ⟨p, hp, hs⟩
  exact List.mem_flatMap.2 ⟨p, hp, List.mem_map.2 ⟨t, this, rfl⟩⟩
theorem FsOk.add {L : List AP} {nk : List Str} {ta ta' : Str → Str → Bool} (h : FsOk L nk ta) {p : AP} (hp : p ∈ L) (h' : ∀ A' s, ta' A' s = (ta A' s || (decide (A' = p.1) && firstB ta nk p s))) : FsOk L nk ta' := by
  refine ⟨fun A t e => ?_, fun t2 hc A t e => ?_⟩
  · rw [h'] at e
    simp only [Bool.or_eq_true, Bool.and_eq_true] at e
    rcases e with e | ⟨e1, e2⟩
    · exact h.inT _ _ e
    · have := h.inB hp e2
      obtain ⟨q, _, hq⟩ := List.mem_flatMap.1 this
      obtain ⟨s, hs, e⟩ := List.mem_map.1 hq
      injection e with _ e
      rw [← e]; exact hs
  · rw [h'] at e
    simp only [Bool.or_eq_true, Bool.and_eq_true, decide_eq_true_eq] at e
    rcases e with e | ⟨e1, e2⟩
    · exact h.least t2 hc _ _ e
    · rw [e1]
      refine hc p hp t (seqF_mono (fun s t hst => ?_) e2)
      unfold firstT at hst ⊢
      by_cases hh : has nk s = true
      · rw [if_pos hh] at hst ⊢
        exact h.least t2 hc _ _ hst
      · rw [if_neg hh] at hst ⊢
        exact hst
theorem allU_len {L : List AP} (hL : L.length ≤ 20) (hb : ∀ p ∈ L, p.2.length ≤ 20) : (allU L).length ≤ 8000 := by
  have h1 : ∀ L' : List AP, (∀ p ∈ L', p.2.length ≤ 20) → (allT L').length ≤ L'.length * 20 := by
    intro L'
    induction L' with
    | nil => simp [allT]
    | cons p L' ih =>
      intro h
      have := ih fun q hq => h q (List.mem_cons_of_mem _ hq)
      have := h p (List.mem_cons_self ..)
      simp only [allT, List.flatMap_cons, List.length_append, List.length_map, List.length_cons, Nat.succ_mul] at *
      omega
  have h2 : ∀ L' : List AP, (L'.flatMap fun p => (allT L).map fun s => (p.1, s)).length = L'.length * (allT L).length := by
    intro L'
    induction L' with
    | nil => simp
    | cons p L' ih => simp only [List.flatMap_cons, List.length_append, List.length_map, List.length_cons, Nat.succ_mul, ih]; omega
  unfold allU
  rw [h2]
  have h3 := h1 L hb
  calc L.length * (allT L).length ≤ 20 * 400 := Nat.mul_le_mul hL (by omega)
    _ = 8000 := rfl

/-- What holds within a pass over the productions. -/
structure GfIn (L : List AP) (nk : List Str) (m0 : Nat) (ag : Bool) (sg : Str → Option (Nat × (Str → Bool))) (n k : Nat) : Prop where
  ok : FsOk L nk (tau sg)
  pot : n + miss (allU L) sg ≤ (allU L).length
  le : miss (allU L) sg ≤ m0
  lt : ag = true → miss (allU L) sg < m0
  cl : ag = false → ∀ j, j < k → (hj : j < L.length) → ClosedF (tau sg) nk L[j]
theorem GfIn.step {L : List AP} {nk : List Str} {m0 : Nat} {ag b : Bool} {sg sg' : Str → Option (Nat × (Str → Bool))} {n n' k : Nat} (h : GfIn L nk m0 ag sg n k) (hk : k < L.length) (hn : n' + miss (allU L) sg' ≤ n + miss (allU L) sg)
    (ht : ∀ A' s, tau sg' A' s = (tau sg A' s || (decide (A' = L[k].1) && firstB (tau sg) nk L[k] s))) (h1 : b = true → miss (allU L) sg' < miss (allU L) sg) (h0 : b = false → ∀ A' s, tau sg' A' s = tau sg A' s) : GfIn L nk m0 (ag || b) sg' n' (k + 1) := by
  have hle : miss (allU L) sg' ≤ miss (allU L) sg := by
    cases b with
    | true => exact Nat.le_of_lt (h1 rfl)
    | false => rw [miss_eq (h0 rfl)]; exact Nat.le_refl _
  refine ⟨h.ok.add (List.getElem_mem hk) ht, Nat.le_trans hn h.pot, Nat.le_trans hle h.le, fun e => ?_, fun e j hj hjl t htt => ?_⟩
  · cases ag with
    | true => exact Nat.lt_of_le_of_lt hle (h.lt rfl)
    | false => exact Nat.lt_of_lt_of_le (h1 (by simpa using e)) h.le
  · have ea : ag = false := by cases ag <;> simp_all
    have eb : b = false := by cases b <;> simp_all
    have e2 : tau sg' = tau sg := funext fun A => funext fun s => h0 eb A s
    rw [e2] at htt
    by_cases hjk : j < k
    · rw [e2]; exact h.cl ea j hjk hjl t htt
    · obtain rfl : j = k := by omega
      rw [ht, htt]; simp

set_option maxRecDepth 20000 in
set_option maxHeartbeats 4000000 in
theorem GetFirstSets_any (x : Nat) (w : World) (L : List AP) {ps Bs m1 m2 m3 ns : Nat} {r2 r4 r5 : Value} {tm nt nk : List Str} (hg : GrmAt w (.pointer (some ⟨x, 0, none⟩)) L) (st : SymSt w Bs ps m1 m2 m3 r2 r4 r5 tm nt nk ns) (hL : L.length ≤ 20)
    (hl : ∀ p ∈ L, p.1.length ≤ 1000 ∧ p.2.length ≤ 20 ∧ ∀ s ∈ p.2, s.str.length ≤ 1000) (hw : ∀ p ∈ L, ∃ s rest, p.2 = s :: rest ∧ (s.str = emptyS → rest = [])) :
    Calls Tryz.prog 99 #[.pointer (some ⟨x, 0, none⟩), .pointer (some ⟨ps, 0, none⟩)] w fun e w' => ∃ p M sg n, e = .returned (.pointer (some ⟨p, 0, none⟩)) ∧ FsSt w' w.heap.size p M (.pointer (some ⟨ps, 0, none⟩)) sg n ∧ n ≤ 8000 ∧ FsOk L nk (tau sg) ∧ (∀ q ∈ L, ClosedF (tau sg) nk q) ∧ New w w' := by
  obtain ⟨x', y, z, e, gx, gy, hP⟩ := hg
  cases e
  obtain ⟨a, cap, rfl⟩ := hP.slice
  have hmm := @run_makeMap Tryz.prog
  have HP := Lib.hid (And.intro hP (And.intro gx gy))
  have HL := Lib.hid (And.intro hl hw)
  have HST := Lib.hid st
  have hUl := allU_len hL (fun p hp => (hl p hp).2.1)
  have hw2 : New w ((w.alloc (.map #[] 0)).alloc (.cells #[.map (some w.heap.size), .pointer (some ⟨ps, 0, none⟩)] 157)) := ((New.refl w).alloc _).alloc _
  have gx := hw2.cell gx
  have hst0 : FsSt ((w.alloc (.map #[] 0)).alloc (.cells #[.map (some w.heap.size), .pointer (some ⟨ps, 0, none⟩)] 157)) w.heap.size (w.heap.size + 1) w.heap.size (.pointer (some ⟨ps, 0, none⟩)) (fun _ => none) 0 :=
    ⟨by have := heap_alloc_new (w.alloc (.map #[] 0)) (.cells #[.map (some w.heap.size), .pointer (some ⟨ps, 0, none⟩)] 157); simpa using this, (MapF.made w).new ((New.refl _).alloc _), (by intro A q e; cases e), (by intro A q e; cases e), (by intro A A' q q' e; cases e), by omega, by omega⟩
  have H0 := Lib.hid (And.intro hst0 hw2)
  clear hP gy st hl hw hst0 hw2
  go_enter Tryz.func99, Tryz.ntmps99
  go_wp2
  clear hmm gx
  obtain ⟨hst0, hw2⟩ := H0.out
  generalize (w.alloc (.map #[] 0)).alloc (.cells #[.map (some w.heap.size), .pointer (some ⟨ps, 0, none⟩)] 157) = w0 at *
  go_loopg [6] ((allU L).length + 2) (fun gk u6 wr => ∃ (ag : Bool) (sg : Str → Option (Nat × (Str → Bool))) (n : Nat), u6 = .bool ag ∧ FsSt wr w.heap.size (w.heap.size + 1) w.heap.size (.pointer (some ⟨ps, 0, none⟩)) sg n ∧ n + miss (allU L) sg ≤ (allU L).length ∧
    miss (allU L) sg + (if ag then 1 else 0) ≤ gk ∧ FsOk L nk (tau sg) ∧ (ag = false → ∀ q ∈ L, ClosedF (tau sg) nk q) ∧ New w wr)
  case atStart =>
    refine ⟨true, fun _ => none, 0, rfl, hst0, ?_, ?_, ⟨(by intro A t e; cases e), (by intro _ _ A t e; cases e)⟩, (by intro e; cases e), hw2⟩
    · rw [Nat.zero_add]; exact List.countP_le_length
    · have : miss (allU L) (fun _ => none) ≤ (allU L).length := List.countP_le_length
      simp only [if_true]; omega
  case round =>
    clear hst0 hw2 H0
    obtain ⟨ag, sg, n, rfl, hst, hpot, hgk, hok, hcl, hn⟩ := hrel
    obtain ⟨hP, gx0, gy0⟩ := HP.out
    cases ag with
    | false =>
      have HC := Lib.hid hcl
      have HK := Lib.hid hok
      clear hcl hok gx0 gy0 hP
      go_wp2
      go_ret
      exact ⟨w.heap.size + 1, rfl, w.heap.size, sg, n, hst, by omega, HK.out, fun a b hq => HC.out (by simp) (a, b) hq, hn⟩
    | true =>
      have gx := hn.cell gx0
      have gy := hn.cell gy0
      clear hcl gx0 gy0
      simp only [if_true] at hgk
      have hin : GfIn L nk (miss (allU L) sg) false sg n 0 := ⟨hok, hpot, Nat.le_refl _, (by intro e; cases e), fun _ j hj => by omega⟩
      generalize hm0 : miss (allU L) sg = m0 at *
      have HIN := Lib.hid (And.intro hst hin)
      clear hm0 hin hok hst
      go_wp2
      clear gx gy
      go_loopg [6, 29] L.length (fun gj u6 i wr => ∃ (ag : Bool) (sg : Str → Option (Nat × (Str → Bool))) (n k : Nat), k ≤ L.length ∧ gj = L.length - k ∧ u6 = .bool ag ∧ i = .int .i64 k ∧ FsSt wr w.heap.size (w.heap.size + 1) w.heap.size (.pointer (some ⟨ps, 0, none⟩)) sg n ∧ GfIn L nk m0 ag sg n k ∧ New w wr)
      case atStart => exact ⟨false, sg, n, 0, Nat.zero_le _, rfl, rfl, rfl, HIN.out.1, HIN.out.2, hn⟩
      case round =>
        clear hpot hn
        obtain ⟨ag, sg, n, k, hk, rfl, rfl, rfl, hst, hin, hn⟩ := hrel
        have hnb := hin.pot
        have HI := Lib.hid hin
        clear hin
        by_cases hlt : k < L.length
        · obtain ⟨b, o, pb, q, sa, sc, e, h1, h2, h3, h4, h5⟩ := hP.elem hlt
          cases e
          have hpl := List.getElem_mem hlt
          obtain ⟨sy, rest, hbody, hem⟩ := HL.out.2 _ hpl
          have hsz := HL.out.1 _ hpl
          have h50 : 0 < L[k].2.length := by rw [hbody]; simp
          obtain ⟨sb, so, e, c5⟩ := h5.elem h50
          cases e
          rw [Nat.add_zero] at c5
          have hb0 : L[k].2[0] = sy := by simp [hbody]
          rw [hb0] at c5
          obtain ⟨ty, vv, fid, hval, hmeth, hnil, hcall, hfid⟩ := sy_call sy
          rw [hval] at c5
          have hhs : sy.str.length ≤ 1000 := hsz.2.2 sy (by rw [hbody]; exact List.mem_cons_self ..)
          have HPR := Lib.hid (And.intro h5 (And.intro hbody (And.intro hem (And.intro hsz (And.intro h2 (And.intro h3 h4))))))
          have HC5 := Lib.hid c5
          have h1 := hn.cell h1
          have h2 := hn.cell h2
          have h3 := hn.cell h3
          have h4 := hn.cell h4
          have c5 := hn.cell c5
          have hlz : ((L[k].2.length : Int) == 0) = false := beq_eq_false_iff_ne.2 (by omega)
          have hAlen := hsz.1
          have HCALL := Lib.hid hcall
          have hqt := Lib.hid (IsTerminal_any (HST.out.new hn) sy.str (by omega))
          clear hbody hem hsz hb0 hval h5 hcall hpl
          rcases hfid with rfl | rfl | rfl
          all_goals
            cases hh : has nk sy.str with
            | false =>
              rw [hh] at hqt
              have HH := Lib.hid hh
              clear hh
              go_wp2_with (first | (go_at_call 302; refine (HCALL.out _).mono ?_; rintro e w' ⟨rfl, rfl⟩) | (go_at_call 305; refine (HCALL.out _).mono ?_; rintro e w' ⟨rfl, rfl⟩) | (go_at_call 308; refine (HCALL.out _).mono ?_; rintro e w' ⟨rfl, rfl⟩) | (go_at_call 100; refine hqt.out.mono ?_; rintro e w' ⟨rfl, rfl⟩))
              have hq132 := Lib.hid (fun w' (hw' : New wr w') => AddToken_any (hst.new hw') L[k].1 sy.str (by omega) (by omega) (by omega) (Nat.le_trans hn.size hw'.size))
              go_region_held3 (fun w' => w'.cell? ⟨pb, 0, none⟩ = some (sv L[k].1) ∧ w'.cell? ⟨pb, 1, none⟩ = some (.pointer (some ⟨q, 0, none⟩)) ∧ w'.cell? ⟨q, 1, none⟩ = some (.slice (some ⟨sb, so, none⟩) L[k].2.length sc) ∧ w'.cell? ⟨sb, so, none⟩ = some (.iface ty vv))
                (first
                  | exact ⟨h2, h3, h4, c5⟩
                  | exact ⟨(New.cell (Below.trans (hn.drewN 1) had.below) HPR.out.2.2.2.2.1), (New.cell (Below.trans (hn.drewN 1) had.below) HPR.out.2.2.2.2.2.1), (New.cell (Below.trans (hn.drewN 1) had.below) HPR.out.2.2.2.2.2.2), (New.cell (Below.trans (hn.drewN 1) had.below) HC5.out)⟩
                  | go_keep)
                (first | (go_at_call 302; refine (HCALL.out _).mono ?_; rintro e w' ⟨rfl, rfl⟩) | (go_at_call 305; refine (HCALL.out _).mono ?_; rintro e w' ⟨rfl, rfl⟩) | (go_at_call 308; refine (HCALL.out _).mono ?_; rintro e w' ⟨rfl, rfl⟩) | (go_at_call 132; refine (hq132.out _ (by first | exact (New.refl wr).drewN 1 | exact New.refl wr)).mono ?_; rintro e w2 ⟨rfl, sg', had⟩))
              obtain ⟨h5, hbody, hem, hsz, _⟩ := HPR.out
              have hfb : ∀ s, firstB (tau sg) nk L[k] s = decide (s = sy.str) := fun s => by
                unfold firstB
                rw [hbody, List.map_cons]
                exact seqF_term HH.out (fun e => by rw [hem e]; rfl) s
              obtain ⟨n', hst', hpot', _, hlt', heq'⟩ := added_step had (U := allU L) (HI.out.ok.inB (List.getElem_mem hlt) (by rw [hfb]; simp))
              have hstep := GfIn.step (b := !tau sg L[k].1 sy.str) HI.out hlt hpot' (fun A' s => by rw [had.tau, hfb]) (fun e => hlt' (by simpa using e)) (fun e => heq' (by simpa using e))
              have hn2 : New w w2 := Below.trans (hn.drewN 1) had.below
              have HST2 := Lib.hid (And.intro hst' (And.intro hstep hn2))
              clear h5 hbody hem hsz hfb hst' hpot' hlt' heq' hstep hn2 had hst h1 h2 h3 h4 c5
              generalize tau sg L[k].1 sy.str = tb at *
              cases tb with
              | true =>
                go_wp2
                go_roundg (L.length - (k + 1))
                case measure => omega
                case rel => exact ⟨ag, sg', n', k + 1, by omega, rfl, rfl, by go_num, HST2.out.1, by simpa using HST2.out.2.1, HST2.out.2.2⟩
              | false =>
                go_wp2
                go_roundg (L.length - (k + 1))
                case measure => omega
                case rel => exact ⟨true, sg', n', k + 1, by omega, rfl, rfl, by go_num, HST2.out.1, by simpa using HST2.out.2.1, HST2.out.2.2⟩
            | true =>
              rw [hh] at hqt
              clear hh
              go_wp2_with (first | (go_at_call 302; refine (HCALL.out _).mono ?_; rintro e w' ⟨rfl, rfl⟩) | (go_at_call 305; refine (HCALL.out _).mono ?_; rintro e w' ⟨rfl, rfl⟩) | (go_at_call 308; refine (HCALL.out _).mono ?_; rintro e w' ⟨rfl, rfl⟩) | (go_at_call 100; refine hqt.out.mono ?_; rintro e w' ⟨rfl, rfl⟩))
              refine (stringList_any _ L[k].2 wr (HPR.out.1.new hn) (by have := HPR.out.2.2.2.1.2.1; omega)).mono ?_
              rintro e w1 ⟨v1, rfl, hv1, hn1⟩
              have hst1 := hst.new hn1
              have hnw1 := hn.trans hn1
              clear h1 h2 h3 h4 c5
              go_wp2_with fail
              have hmapl : ∀ t ∈ L[k].2.map Sy.str, t.length ≤ 1000000 := fun t ht => by
                obtain ⟨u, hu, rfl⟩ := List.mem_map.1 ht
                have := HPR.out.2.2.2.1.2.2 u hu
                omega
              have hlen2 := HPR.out.2.2.2.1.2.1
              refine (FirstS_any hst1 (HST.out.new hnw1) (L[k].2.map Sy.str) hv1 (by simpa using h50) (by simp; omega) hmapl (by omega)).mono ?_
              rintro e w2 ⟨m, n2, rfl, hS2, hm2, hn2, hnn2⟩
              have hnw2 := hnw1.trans hn2
              have hst2 := hst1.new hn2
              have h2 := hnw2.cell HPR.out.2.2.2.2.1
              have hMlt := hst1.map.lt
              have hplt := lt_of_block hst1.blk
              have hoff : FsOff w.heap.size sg m ∧ m ≠ w.heap.size + 1 := ⟨⟨by omega, fun A q e => by have := (hst1.set A q e).lt; omega⟩, by omega⟩
              have HOFF := Lib.hid hoff
              clear hst hst1 hv1 hmapl hoff
              go_wp2_with fail
              refine (GetSet_any hst2 L[k].1 (by omega)).mono ?_
              rintro e w3 ⟨v3, rfl, hv3, _, rfl⟩
              go_wp2_with fail
              refine (SEqual_any (.inr ⟨m, rfl, hS2⟩) hv3).mono ?_
              rintro e w4 ⟨be, rfl, hbe, hn4⟩
              have hst4 := hst2.new hn4
              have hS4 := hS2.new hn4
              have hnw4 := hnw2.trans hn4
              have h2 := hnw4.cell HPR.out.2.2.2.2.1
              have HBE := Lib.hid hbe
              clear hst2 hS2 hv3 hbe
              cases be with
              | true =>
                have hstep := GfIn.step (b := false) (sg' := sg) (n' := n) HI.out hlt (Nat.le_refl _) (fun A' s => by
                  by_cases e : A' = L[k].1
                  · subst e
                    cases hfs : firstB (tau sg) nk L[k] s with
                    | false => simp
                    | true => rw [HBE.out rfl s hfs]; simp
                  · simp [e]) (by simp) (fun _ _ _ => rfl)
                have HST2 := Lib.hid hstep
                clear hstep
                go_wp2
                go_roundg (L.length - (k + 1))
                case measure => omega
                case rel => exact ⟨ag, sg, n, k + 1, by omega, rfl, rfl, by go_num, hst4, by simpa using HST2.out, hnw4⟩
              | false =>
                have hU2 : ∀ s, seqF (firstF sg nk) (L[k].2.map Sy.str) s = true → (L[k].1, s) ∈ allU L := fun s hs => HI.out.ok.inB (List.getElem_mem hlt) hs
                have hq := Lib.hid (AddSet_any hst4 L[k].1 (by omega) (.inr ⟨m, rfl, hS4⟩) (fun b e => by cases e; exact HOFF.out) (allU L) hU2 (by omega) hnw4.size)
                clear hst4 hS4 hU2
                go_wp2_with (go_at_call 136; refine hq.out.mono ?_; rintro e w5 ⟨b2, rfl, sg', n', hst5, hpot5, htau5, hlt5, heq5, hb5⟩; have hstep := GfIn.step (b := b2) HI.out hlt hpot5 htau5 hlt5 heq5; have HST2 := Lib.hid (And.intro hst5 (And.intro hstep (show New w w5 from Below.trans hnw4 hb5))); clear hst5 hpot5 htau5 hlt5 heq5 hb5 hstep hq; cases b2)
                · go_roundg (L.length - (k + 1))
                  case measure => omega
                  case rel => exact ⟨ag, sg', n', k + 1, by omega, rfl, rfl, by go_num, HST2.out.1, by simpa using HST2.out.2.1, HST2.out.2.2⟩
                · go_roundg (L.length - (k + 1))
                  case measure => omega
                  case rel => exact ⟨true, sg', n', k + 1, by omega, rfl, rfl, by go_num, HST2.out.1, by simpa using HST2.out.2.1, HST2.out.2.2⟩
        · go_wp2
          have hin := HI.out
          go_roundg (miss (allU L) sg + (if ag then 1 else 0))
          case measure =>
            cases ag with
            | true => have := hin.lt rfl; simp; omega
            | false => have := hin.le; simp; omega
          case rel =>
            exact ⟨ag, sg, n, rfl, hst, hin.pot, Nat.le_refl _, hin.ok, fun e q hq => by
              obtain ⟨j, hj, rfl⟩ := List.getElem_of_mem hq
              exact hin.cl e j (by omega) hj, hn⟩
end Go.Proofs.YtdejcdmgcckmoaaGreatDoor
