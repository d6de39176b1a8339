/- The package: first sets, whole; what is built. -/
import Derived.Test.YtdejcdmgcckmoaaGreatDoorYF
import Derived.Deep.DeepCutAuto
import Derived.Deep.RegionHeld3
import Derived.Test.YtdejcdmgcckmoaaGreatDoorYE
namespace Go.Proofs.YtdejcdmgcckmoaaGreatDoor
open Go.RowKit Lr

/-- Calling a symbol's method, of whichever kind it is. -/
theorem sy_call (sy : Sy) : ∃ ty v fid, sy.val = .iface ty v ∧ (∀ w, (method 481 ty v "SymbolString").run Tryz.prog w = .ok (fid, v) w) ∧ (∀ w, (nilAhead 481 ty v "SymbolString").run Tryz.prog w = .ok (some false) w) ∧
    (∀ w, Calls Tryz.prog fid #[v] w fun e w' => e = .returned (sv sy.str) ∧ w = w') ∧ (fid = 302 ∨ fid = 305 ∨ fid = 308) := by
  cases sy with
  | nt s => exact ⟨142, sv s, 302, rfl, met142 s, fun w => by kernel_rfl, SymStr_nt s, .inl rfl⟩
  | tk s => exact ⟨143, sv s, 305, rfl, met143 s, fun w => by kernel_rfl, SymStr_tk s, .inr (.inl rfl)⟩
  | em => exact ⟨144, .int .i64 0, 308, rfl, met144, fun w => by kernel_rfl, SymStr_em 0, .inr (.inr rfl)⟩

def firstT (ta : Str → Str → Bool) (nk : List Str) (s t : Str) : Bool := if has nk s then ta s t else decide (t = s)
theorem firstF_eq (sg : Str → Option (Nat × (Str → Bool))) (nk : List Str) : firstF sg nk = firstT (tau sg) nk := rfl
theorem seqF_mono {F F' : Str → Str → Bool} (h : ∀ s t, F s t = true → F' s t = true) : ∀ {l : List Str} {t : Str}, seqF F l t = true → seqF F' l t = true
  | [], t, e => by cases e
  | s :: rest, t, e => by
    unfold seqF at e ⊢
    by_cases ht : t = emptyS
    · rw [if_pos ht, List.all_eq_true] at e
      rw [if_pos ht, List.all_eq_true]
      exact fun x hx => h _ _ (e x hx)
    · rw [if_neg ht] at e
      rw [if_neg ht]
      simp only [Bool.or_eq_true, Bool.and_eq_true] at e ⊢
      rcases e with e | ⟨e1, e2⟩
      · exact .inl (h _ _ e)
      · exact .inr ⟨h _ _ e1, seqF_mono h e2⟩
theorem seqF_from {F : Str → Str → Bool} : ∀ {l : List Str} {t : Str}, seqF F l t = true → ∃ s ∈ l, F s t = true
  | [], t, e => by cases e
  | s :: rest, t, e => by
    unfold seqF at e
    by_cases ht : t = emptyS
    · rw [if_pos ht, List.all_eq_true] at e
      exact ⟨s, List.mem_cons_self .., by rw [ht]; exact e s (List.mem_cons_self ..)⟩
    · rw [if_neg ht] at e
      simp only [Bool.or_eq_true, Bool.and_eq_true] at e
      rcases e with e | ⟨e1, e2⟩
      · exact ⟨s, List.mem_cons_self .., e⟩
      · obtain ⟨x, hx, h⟩ := seqF_from e2
        exact ⟨x, List.mem_cons_of_mem _ hx, h⟩
theorem seqF_term {ta : Str → Str → Bool} {nk : List Str} {s : Str} {rest : List Str} (hs : has nk s = false) (he : s = emptyS → rest = []) (t : Str) : seqF (firstT ta nk) (s :: rest) t = decide (t = s) := by
  have hF : ∀ t, firstT ta nk s t = decide (t = s) := fun t => by simp [firstT, hs]
  unfold seqF
  by_cases ht : t = emptyS
  · rw [if_pos ht]
    by_cases hse : s = emptyS
    · rw [he hse]
      simp only [List.all_cons, List.all_nil, Bool.and_true, hF]
      rw [ht]
    · simp only [List.all_cons, hF]
      have : decide (emptyS = s) = false := by simp; exact fun e => hse e.symm
      rw [this, ht, this]; rfl
  · rw [if_neg ht, hF, hF]
    by_cases hse : s = emptyS
    · rw [he hse]; simp [seqF]
    · have : decide (emptyS = s) = false := by simp; exact fun e => hse e.symm
      rw [this]; simp

/-- What the body of a production begins with. -/
def firstB (ta : Str → Str → Bool) (nk : List Str) (p : AP) (t : Str) : Bool := seqF (firstT ta nk) (p.2.map Sy.str) t
def ClosedF (ta : Str → Str → Bool) (nk : List Str) (p : AP) : Prop := ∀ t, firstB ta nk p t = true → ta p.1 t = true
def allT (L : List AP) : List Str := L.flatMap fun p => p.2.map Sy.str
def allU (L : List AP) : List (Str × Str) := L.flatMap fun p => (allT L).map fun s => (p.1, s)
/-- What holds of the first sets all the time. -/
structure FsOk (L : List AP) (nk : List Str) (ta : Str → Str → Bool) : Prop where
  inT : ∀ A t, ta A t = true → t ∈ allT L
  least : ∀ ta', (∀ p ∈ L, ClosedF ta' nk p) → ∀ A t, ta A t = true → ta' A t = true
theorem FsOk.inB {L : List AP} {nk : List Str} {ta : Str → Str → Bool} (h : FsOk L nk ta) {p : AP} (hp : p ∈ L) {t : Str} (ht : firstB ta nk p t = true) : (p.1, t) ∈ allU L := by
  have : t ∈ allT L := by
    obtain ⟨s, hs, hF⟩ := seqF_from ht
    unfold firstT at hF
    by_cases hh : has nk s = true
    · rw [if_pos hh] at hF
      exact h.inT _ _ hF
    · rw [if_neg hh] at hF
      have : t = s := by simpa using hF
      rw [this]
      exact List.mem_flatMap.2 ⟨p, hp, hs⟩
  exact List.mem_flatMap.2 ⟨p, hp, List.mem_map.2 ⟨t, this, rfl⟩⟩
theorem FsOk.add {L : List AP} {nk : List Str} {ta ta' : Str → Str → Bool} (h : FsOk L nk ta) {p : AP} (hp : p ∈ L) (h' : ∀ A' s, ta' A' s = (ta A' s || (decide (A' = p.1) && firstB ta nk p s))) : FsOk L nk ta' := by
  refine ⟨fun A t e => ?_, fun t2 hc A t e => ?_⟩
  · rw [h'] at e
    simp only [Bool.or_eq_true, Bool.and_eq_true] at e
    rcases e with e | ⟨e1, e2⟩
    · exact h.inT _ _ e
    · have := h.inB hp e2
      obtain ⟨q, _, hq⟩ := List.mem_flatMap.1 this
      obtain ⟨s, hs, e⟩ := List.mem_map.1 hq
      injection e with _ e
      rw [← e]; exact hs
  · rw [h'] at e
    simp only [Bool.or_eq_true, Bool.and_eq_true, decide_eq_true_eq] at e
    rcases e with e | ⟨e1, e2⟩
    · exact h.least t2 hc _ _ e
    · rw [e1]
      refine hc p hp t (seqF_mono (fun s t hst => ?_) e2)
      unfold firstT at hst ⊢
      by_cases hh : has nk s = true
      · rw [if_pos hh] at hst ⊢
        exact h.least t2 hc _ _ hst
      · rw [if_neg hh] at hst ⊢
        exact hst
theorem allU_len {L : List AP} (hL : L.length ≤ 20) (hb : ∀ p ∈ L, p.2.length ≤ 20) : (allU L).length ≤ 8000 := by
  have h1 : ∀ L' : List AP, (∀ p ∈ L', p.2.length ≤ 20) → (allT L').length ≤ L'.length * 20 := by
    intro L'
    induction L' with
    | nil => simp [allT]
    | cons p L' ih =>
      intro h
      have := ih fun q hq => h q (List.mem_cons_of_mem _ hq)
      have := h p (List.mem_cons_self ..)
      simp only [allT, List.flatMap_cons, List.length_append, List.length_map, List.length_cons, Nat.succ_mul] at *
      omega
  have h2 : ∀ L' : List AP, (L'.flatMap fun p => (allT L).map fun s => (p.1, s)).length = L'.length * (allT L).length := by
    intro L'
    induction L' with
    | nil => simp
    | cons p L' ih => simp only [List.flatMap_cons, List.length_append, List.length_map, List.length_cons, Nat.succ_mul, ih]; omega
  unfold allU
  rw [h2]
  have h3 := h1 L hb
  calc L.length * (allT L).length ≤ 20 * 400 := Nat.mul_le_mul hL (by omega)
    _ = 8000 := rfl

/-- What holds within a pass over the productions. -/
structure GfIn (L : List AP) (nk : List Str) (m0 : Nat) (ag : Bool) (sg : Str → Option (Nat × (Str → Bool))) (n k : Nat) : Prop where
  ok : FsOk L nk (tau sg)
  pot : n + miss (allU L) sg ≤ (allU L).length
  le : miss (allU L) sg ≤ m0
  lt : ag = true → miss (allU L) sg < m0
  cl : ag = false → ∀ j, j < k → (hj : j < L.length) → ClosedF (tau sg) nk L[j]
theorem GfIn.step {L : List AP} {nk : List Str} {m0 : Nat} {ag b : Bool} {sg sg' : Str → Option (Nat × (Str → Bool))} {n n' k : Nat} (h : GfIn L nk m0 ag sg n k) (hk : k < L.length) (hn : n' + miss (allU L) sg' ≤ n + miss (allU L) sg)
    (ht : ∀ A' s, tau sg' A' s = (tau sg A' s || (decide (A' = L[k].1) && firstB (tau sg) nk L[k] s))) (h1 : b = true → miss (allU L) sg' < miss (allU L) sg) (h0 : b = false → ∀ A' s, tau sg' A' s = tau sg A' s) : GfIn L nk m0 (ag || b) sg' n' (k + 1) := by
  have hle : miss (allU L) sg' ≤ miss (allU L) sg := by
    cases b with
    | true => exact Nat.le_of_lt (h1 rfl)
    | false => rw [miss_eq (h0 rfl)]; exact Nat.le_refl _
  refine ⟨h.ok.add (List.getElem_mem hk) ht, Nat.le_trans hn h.pot, Nat.le_trans hle h.le, fun e => ?_, fun e j hj hjl t htt => ?_⟩
  · cases ag with
    | true => exact Nat.lt_of_le_of_lt hle (h.lt rfl)
    | false => exact Nat.lt_of_lt_of_le (h1 (by simpa using e)) h.le
  · have ea : ag = false := by cases ag <;> simp_all
    have eb : b = false := by cases b <;> simp_all
    have e2 : tau sg' = tau sg := funext fun A => funext fun s => h0 eb A s
    rw [e2] at htt
    by_cases hjk : j < k
    · rw [e2]; exact h.cl ea j hjk hjl t htt
    · obtain rfl : j = k := by omega
      rw [ht, htt]; simp

set_option maxRecDepth 20000 in
set_option maxHeartbeats 4000000 in
theorem GetFirstSets_any (x : Nat) (w : World) (L : List AP) {ps Bs m1 m2 m3 ns : Nat} {r2 r4 r5 : Value} {tm nt nk : List Str} (hg : GrmAt w (.pointer (some ⟨x, 0, none⟩)) L) (st : SymSt w Bs ps m1 m2 m3 r2 r4 r5 tm nt nk ns) (hL : L.length ≤ 20)
    (hl : ∀ p ∈ L, p.1.length ≤ 1000 ∧ p.2.length ≤ 20 ∧ ∀ s ∈ p.2, s.str.length ≤ 1000) (hw : ∀ p ∈ L, ∃ s rest, p.2 = s :: rest ∧ (s.str = emptyS → rest = [])) :
    Calls Tryz.prog 99 #[.pointer (some ⟨x, 0, none⟩), .pointer (some ⟨ps, 0, none⟩)] w fun e w' => ∃ p M sg n, e = .returned (.pointer (some ⟨p, 0, none⟩)) ∧ FsSt w' w.heap.size p M (.pointer (some ⟨ps, 0, none⟩)) sg n ∧ n ≤ 8000 ∧ FsOk L nk (tau sg) ∧ (∀ q ∈ L, ClosedF (tau sg) nk q) ∧ New w w' := by
  obtain ⟨x', y, z, e, gx, gy, hP⟩ := hg
  cases e
  obtain ⟨a, cap, rfl⟩ := hP.slice
  have hmm := @run_makeMap Tryz.prog
  have HP := Lib.hid (And.intro hP (And.intro gx gy))
  have HL := Lib.hid (And.intro hl hw)
  have HST := Lib.hid st
  have hUl := allU_len hL (fun p hp => (hl p hp).2.1)
  have hw2 : New w ((w.alloc (.map #[] 0)).alloc (.cells #[.map (some w.heap.size), .pointer (some ⟨ps, 0, none⟩)] 157)) := ((New.refl w).alloc _).alloc _
  have gx := hw2.cell gx
  have hst0 : FsSt ((w.alloc (.map #[] 0)).alloc (.cells #[.map (some w.heap.size), .pointer (some ⟨ps, 0, none⟩)] 157)) w.heap.size (w.heap.size + 1) w.heap.size (.pointer (some ⟨ps, 0, none⟩)) (fun _ => none) 0 :=
    ⟨by have := heap_alloc_new (w.alloc (.map #[] 0)) (.cells #[.map (some w.heap.size), .pointer (some ⟨ps, 0, none⟩)] 157); simpa using this, (MapF.made w).new ((New.refl _).alloc _), (by intro A q e; cases e), (by intro A q e; cases e), (by intro A A' q q' e; cases e), by omega, by omega⟩
  have H0 := Lib.hid (And.intro hst0 hw2)
  clear hP gy st hl hw hst0 hw2
  go_enter Tryz.func99, Tryz.ntmps99
  go_wp2
  clear hmm gx
  obtain ⟨hst0, hw2⟩ := H0.out
  generalize (w.alloc (.map #[] 0)).alloc (.cells #[.map (some w.heap.size), .pointer (some ⟨ps, 0, none⟩)] 157) = w0 at *
  go_loopg [6] ((allU L).length + 2) (fun gk u6 wr => ∃ (ag : Bool) (sg : Str → Option (Nat × (Str → Bool))) (n : Nat), u6 = .bool ag ∧ FsSt wr w.heap.size (w.heap.size + 1) w.heap.size (.pointer (some ⟨ps, 0, none⟩)) sg n ∧ n + miss (allU L) sg ≤ (allU L).length ∧
    miss (allU L) sg + (if ag then 1 else 0) ≤ gk ∧ FsOk L nk (tau sg) ∧ (ag = false → ∀ q ∈ L, ClosedF (tau sg) nk q) ∧ New w wr)
  case atStart =>
    refine ⟨true, fun _ => none, 0, rfl, hst0, ?_, ?_, ⟨(by intro A t e; cases e), (by intro _ _ A t e; cases e)⟩, (by intro e; cases e), hw2⟩
    · rw [Nat.zero_add]; exact List.countP_le_length
    · have : miss (allU L) (fun _ => none) ≤ (allU L).length := List.countP_le_length
      simp only [if_true]; omega
  case round =>
    clear hst0 hw2 H0
    obtain ⟨ag, sg, n, rfl, hst, hpot, hgk, hok, hcl, hn⟩ := hrel
    obtain ⟨hP, gx0, gy0⟩ := HP.out
    cases ag with
    | false =>
      have HC := Lib.hid hcl
      have HK := Lib.hid hok
      clear hcl hok gx0 gy0 hP
      go_wp2
      go_ret
      exact ⟨w.heap.size + 1, rfl, w.heap.size, sg, n, hst, by omega, HK.out, fun a b hq => HC.out (by simp) (a, b) hq, hn⟩
    | true =>
      have gx := hn.cell gx0
      have gy := hn.cell gy0
      clear hcl gx0 gy0
      simp only [if_true] at hgk
      have hin : GfIn L nk (miss (allU L) sg) false sg n 0 := ⟨hok, hpot, Nat.le_refl _, (by intro e; cases e), fun _ j hj => by omega⟩
      generalize hm0 : miss (allU L) sg = m0 at *
      have HIN := Lib.hid (And.intro hst hin)
      clear hm0 hin hok hst
      go_wp2
      clear gx gy
      go_loopg [6, 29] L.length (fun gj u6 i wr => ∃ (ag : Bool) (sg : Str → Option (Nat × (Str → Bool))) (n k : Nat), k ≤ L.length ∧ gj = L.length - k ∧ u6 = .bool ag ∧ i = .int .i64 k ∧ FsSt wr w.heap.size (w.heap.size + 1) w.heap.size (.pointer (some ⟨ps, 0, none⟩)) sg n ∧ GfIn L nk m0 ag sg n k ∧ New w wr)
      case atStart => exact ⟨false, sg, n, 0, Nat.zero_le _, rfl, rfl, rfl, HIN.out.1, HIN.out.2, hn⟩
      case round =>
        clear hpot hn
        obtain ⟨ag, sg, n, k, hk, rfl, rfl, rfl, hst, hin, hn⟩ := hrel
        have hnb := hin.pot
        have HI := Lib.hid hin
        clear hin
        by_cases hlt : k < L.length
        · obtain ⟨b, o, pb, q, sa, sc, e, h1, h2, h3, h4, h5⟩ := hP.elem hlt
          cases e
          have hpl := List.getElem_mem hlt
          obtain ⟨sy, rest, hbody, hem⟩ := HL.out.2 _ hpl
          have hsz := HL.out.1 _ hpl
          have h50 : 0 < L[k].2.length := by rw [hbody]; simp
          obtain ⟨sb, so, e, c5⟩ := h5.elem h50
          cases e
          rw [Nat.add_zero] at c5
          have hb0 : L[k].2[0] = sy := by simp [hbody]
          rw [hb0] at c5
          obtain ⟨ty, vv, fid, hval, hmeth, hnil, hcall, hfid⟩ := sy_call sy
          rw [hval] at c5
          have hhs : sy.str.length ≤ 1000 := hsz.2.2 sy (by rw [hbody]; exact List.mem_cons_self ..)
          have HPR := Lib.hid (And.intro h5 (And.intro hbody (And.intro hem (And.intro hsz (And.intro h2 (And.intro h3 h4))))))
          have HC5 := Lib.hid c5
          have h1 := hn.cell h1
          have h2 := hn.cell h2
          have h3 := hn.cell h3
          have h4 := hn.cell h4
          have c5 := hn.cell c5
          have hlz : ((L[k].2.length : Int) == 0) = false := beq_eq_false_iff_ne.2 (by omega)
          have hAlen := hsz.1
          have HCALL := Lib.hid hcall
          have hqt := Lib.hid (IsTerminal_any (HST.out.new hn) sy.str (by omega))
          clear hbody hem hsz hb0 hval h5 hcall hpl
          rcases hfid with rfl | rfl | rfl
          all_goals
            cases hh : has nk sy.str with
            | false =>
              rw [hh] at hqt
              have HH := Lib.hid hh
              clear hh
              go_wp2_with (first | (go_at_call 302; refine (HCALL.out _).mono ?_; rintro e w' ⟨rfl, rfl⟩) | (go_at_call 305; refine (HCALL.out _).mono ?_; rintro e w' ⟨rfl, rfl⟩) | (go_at_call 308; refine (HCALL.out _).mono ?_; rintro e w' ⟨rfl, rfl⟩) | (go_at_call 100; refine hqt.out.mono ?_; rintro e w' ⟨rfl, rfl⟩))
              have hq132 := Lib.hid (fun w' (hw' : New wr w') => AddToken_any (hst.new hw') L[k].1 sy.str (by omega) (by omega) (by omega) (Nat.le_trans hn.size hw'.size))
              go_region_held3 (fun w' => w'.cell? ⟨pb, 0, none⟩ = some (sv L[k].1) ∧ w'.cell? ⟨pb, 1, none⟩ = some (.pointer (some ⟨q, 0, none⟩)) ∧ w'.cell? ⟨q, 1, none⟩ = some (.slice (some ⟨sb, so, none⟩) L[k].2.length sc) ∧ w'.cell? ⟨sb, so, none⟩ = some (.iface ty vv))
                (first
                  | exact ⟨h2, h3, h4, c5⟩
                  | exact ⟨(New.cell (Below.trans (hn.drewN 1) had.below) HPR.out.2.2.2.2.1), (New.cell (Below.trans (hn.drewN 1) had.below) HPR.out.2.2.2.2.2.1), (New.cell (Below.trans (hn.drewN 1) had.below) HPR.out.2.2.2.2.2.2), (New.cell (Below.trans (hn.drewN 1) had.below) HC5.out)⟩
                  | go_keep)
                (first | (go_at_call 302; refine (HCALL.out _).mono ?_; rintro e w' ⟨rfl, rfl⟩) | (go_at_call 305; refine (HCALL.out _).mono ?_; rintro e w' ⟨rfl, rfl⟩) | (go_at_call 308; refine (HCALL.out _).mono ?_; rintro e w' ⟨rfl, rfl⟩) | (go_at_call 132; refine (hq132.out _ (by first | exact (New.refl wr).drewN 1 | exact New.refl wr)).mono ?_; rintro e w2 ⟨rfl, sg', had⟩))
              obtain ⟨h5, hbody, hem, hsz, _⟩ := HPR.out
              have hfb : ∀ s, firstB (tau sg) nk L[k] s = decide (s = sy.str) := fun s => by
                unfold firstB
                rw [hbody, List.map_cons]
                exact seqF_term HH.out (fun e => by rw [hem e]; rfl) s
              obtain ⟨n', hst', hpot', _, hlt', heq'⟩ := added_step had (U := allU L) (HI.out.ok.inB (List.getElem_mem hlt) (by rw [hfb]; simp))
              have hstep := GfIn.step (b := !tau sg L[k].1 sy.str) HI.out hlt hpot' (fun A' s => by rw [had.tau, hfb]) (fun e => hlt' (by simpa using e)) (fun e => heq' (by simpa using e))
              have hn2 : New w w2 := Below.trans (hn.drewN 1) had.below
              have HST2 := Lib.hid (And.intro hst' (And.intro hstep hn2))
              clear h5 hbody hem hsz hfb hst' hpot' hlt' heq' hstep hn2 had hst h1 h2 h3 h4 c5
              generalize tau sg L[k].1 sy.str = tb at *
              cases tb with
              | true =>
                go_wp2
                go_roundg (L.length - (k + 1))
                case measure => omega
                case rel => exact ⟨ag, sg', n', k + 1, by omega, rfl, rfl, by go_num, HST2.out.1, by simpa using HST2.out.2.1, HST2.out.2.2⟩
              | false =>
                go_wp2
                go_roundg (L.length - (k + 1))
                case measure => omega
                case rel => exact ⟨true, sg', n', k + 1, by omega, rfl, rfl, by go_num, HST2.out.1, by simpa using HST2.out.2.1, HST2.out.2.2⟩
            | true =>
              rw [hh] at hqt
              clear hh
              go_wp2_with (first | (go_at_call 302; refine (HCALL.out _).mono ?_; rintro e w' ⟨rfl, rfl⟩) | (go_at_call 305; refine (HCALL.out _).mono ?_; rintro e w' ⟨rfl, rfl⟩) | (go_at_call 308; refine (HCALL.out _).mono ?_; rintro e w' ⟨rfl, rfl⟩) | (go_at_call 100; refine hqt.out.mono ?_; rintro e w' ⟨rfl, rfl⟩))
              refine (stringList_any _ L[k].2 wr (HPR.out.1.new hn) (by have := HPR.out.2.2.2.1.2.1; omega)).mono ?_
              rintro e w1 ⟨v1, rfl, hv1, hn1⟩
              have hst1 := hst.new hn1
              have hnw1 := hn.trans hn1
              clear h1 h2 h3 h4 c5
              go_wp2_with fail
              have hmapl : ∀ t ∈ L[k].2.map Sy.str, t.length ≤ 1000000 := fun t ht => by
                obtain ⟨u, hu, rfl⟩ := List.mem_map.1 ht
                have := HPR.out.2.2.2.1.2.2 u hu
                omega
              have hlen2 := HPR.out.2.2.2.1.2.1
              refine (FirstS_any hst1 (HST.out.new hnw1) (L[k].2.map Sy.str) hv1 (by simpa using h50) (by simp; omega) hmapl (by omega)).mono ?_
              rintro e w2 ⟨m, n2, rfl, hS2, hm2, hn2, hnn2⟩
              have hnw2 := hnw1.trans hn2
              have hst2 := hst1.new hn2
              have h2 := hnw2.cell HPR.out.2.2.2.2.1
              have hMlt := hst1.map.lt
              have hplt := lt_of_block hst1.blk
              have hoff : FsOff w.heap.size sg m ∧ m ≠ w.heap.size + 1 := ⟨⟨by omega, fun A q e => by have := (hst1.set A q e).lt; omega⟩, by omega⟩
              have HOFF := Lib.hid hoff
              clear hst hst1 hv1 hmapl hoff
              go_wp2_with fail
              refine (GetSet_any hst2 L[k].1 (by omega)).mono ?_
              rintro e w3 ⟨v3, rfl, hv3, _, rfl⟩
              go_wp2_with fail
              refine (SEqual_any (.inr ⟨m, rfl, hS2⟩) hv3).mono ?_
              rintro e w4 ⟨be, rfl, hbe, hn4⟩
              have hst4 := hst2.new hn4
              have hS4 := hS2.new hn4
              have hnw4 := hnw2.trans hn4
              have h2 := hnw4.cell HPR.out.2.2.2.2.1
              have HBE := Lib.hid hbe
              clear hst2 hS2 hv3 hbe
              cases be with
              | true =>
                have hstep := GfIn.step (b := false) (sg' := sg) (n' := n) HI.out hlt (Nat.le_refl _) (fun A' s => by
                  by_cases e : A' = L[k].1
                  · subst e
                    cases hfs : firstB (tau sg) nk L[k] s with
                    | false => simp
                    | true => rw [HBE.out rfl s hfs]; simp
                  · simp [e]) (by simp) (fun _ _ _ => rfl)
                have HST2 := Lib.hid hstep
                clear hstep
                go_wp2
                go_roundg (L.length - (k + 1))
                case measure => omega
                case rel => exact ⟨ag, sg, n, k + 1, by omega, rfl, rfl, by go_num, hst4, by simpa using HST2.out, hnw4⟩
              | false =>
                have hU2 : ∀ s, seqF (firstF sg nk) (L[k].2.map Sy.str) s = true → (L[k].1, s) ∈ allU L := fun s hs => HI.out.ok.inB (List.getElem_mem hlt) hs
                have hq := Lib.hid (AddSet_any hst4 L[k].1 (by omega) (.inr ⟨m, rfl, hS4⟩) (fun b e => by cases e; exact HOFF.out) (allU L) hU2 (by omega) hnw4.size)
                clear hst4 hS4 hU2
                go_wp2_with (go_at_call 136; refine hq.out.mono ?_; rintro e w5 ⟨b2, rfl, sg', n', hst5, hpot5, htau5, hlt5, heq5, hb5⟩; have hstep := GfIn.step (b := b2) HI.out hlt hpot5 htau5 hlt5 heq5; have HST2 := Lib.hid (And.intro hst5 (And.intro hstep (show New w w5 from Below.trans hnw4 hb5))); clear hst5 hpot5 htau5 hlt5 heq5 hb5 hstep hq; cases b2)
                · go_roundg (L.length - (k + 1))
                  case measure => omega
                  case rel => exact ⟨ag, sg', n', k + 1, by omega, rfl, rfl, by go_num, HST2.out.1, by simpa using HST2.out.2.1, HST2.out.2.2⟩
                · go_roundg (L.length - (k + 1))
                  case measure => omega
                  case rel => exact ⟨true, sg', n', k + 1, by omega, rfl, rfl, by go_num, HST2.out.1, by simpa using HST2.out.2.1, HST2.out.2.2⟩
        · go_wp2
          have hin := HI.out
          go_roundg (miss (allU L) sg + (if ag then 1 else 0))
          case measure =>
            cases ag with
            | true => have := hin.lt rfl; simp; omega
            | false => have := hin.le; simp; omega
          case rel =>
            exact ⟨ag, sg, n, rfl, hst, hin.pot, Nat.le_refl _, hin.ok, fun e q hq => by
              obtain ⟨j, hj, rfl⟩ := List.getElem_of_mem hq
              exact hin.cl e j (by omega) hj, hn⟩
end Go.Proofs.YtdejcdmgcckmoaaGreatDoor
namespace Go.Proofs.YtdejcdmgcckmoaaGreatDoor
open Go.RowKit Lr

def symOf (g : Gram) (s : Str) : Sy := if isHead g s then .nt s else .tk s

/-- A production behind its pointer, with its blocks. -/
def ProdBlk (w : World) (v : Value) (p : AP) : Prop :=
  ∃ b q a c B, v = .pointer (some ⟨b, 0, none⟩) ∧ w.heap[b]? = some (.cells #[sv p.1, .pointer (some ⟨q, 0, none⟩)] 148 (0, 0)) ∧ w.heap[q]? = some (.cells #[.bool false, .slice a p.2.length c, sv []] 192 (0, 0)) ∧
    w.ownsRow B 207 1 (.slice a p.2.length c) p.2.length (p.2.map Sy.val)
theorem sys_of_row {w : World} {B : Nat} {v : Value} {l : List Sy} (h : w.ownsRow B 207 1 v l.length (l.map Sy.val)) : SysAt w v l := by
  obtain ⟨_, sa8, sc8, e8, hsc8, hc8⟩ := row_cells h
  cases e8
  refine ⟨sa8, sc8, rfl, hsc8, fun hne => ?_⟩
  obtain ⟨bb, e, hcc⟩ := hc8 hne
  exact ⟨bb, 0, e, fun j hj => hcc j _ (by simp [hj, List.getD])⟩
theorem ProdBlk.ptr {w : World} {v : Value} {p : AP} (h : ProdBlk w v p) : ProdPtr w v p := by
  obtain ⟨b, q, a, c, B, rfl, h1, h2, h3⟩ := h
  refine ⟨b, q, a, c, rfl, ?_, ?_, ?_, sys_of_row h3⟩
  · rw [cell_of_blk h1]; rfl
  · rw [cell_of_blk h1]; rfl
  · rw [cell_of_blk h2]; rfl
theorem ProdBlk.new {w w' : World} {v : Value} {p : AP} (h : ProdBlk w v p) (hn : New w w') : ProdBlk w' v p := by
  obtain ⟨b, q, a, c, B, rfl, h1, h2, h3⟩ := h
  exact ⟨b, q, a, c, B, rfl, hn.heap h1, hn.heap h2, ownsRow_new h3 hn⟩
theorem ownBlock_ne_row {w : World} {B B' e t s s' : Nat} {v v' : Value} {n n' : Nat} {xs xs' : List Value} (h : w.ownsRow B e s v n xs) (h' : w.ownsRow B' t s' v' n' xs') (hne : e ≠ t) : v.ownBlock = none ∨ v.ownBlock ≠ v'.ownBlock := by
  rcases h'.2 with ⟨rfl, _⟩ | ⟨g, cap, cur, rfl, _, hg, _⟩
  · cases hv : v.ownBlock with
    | none => exact .inl rfl
    | some k => right; simp [Value.ownBlock]
  · right
    exact ownBlock_ne h hg hne
theorem ProdBlk.kept {w w' : World} {v v5 : Value} {p : AP} {B k : Nat} {ps : List Value} (h : ProdBlk w v p) (hown : w.ownsRow B 97 1 v5 k ps) (hg : w.grownBy w' v5.ownBlock) : ProdBlk w' v p := by
  obtain ⟨b, q, a, c, B', rfl, h1, h2, h3⟩ := h
  exact ⟨b, q, a, c, B', rfl, (hg.block b (lt_of_block h1) (fun e => ownBlock_ne hown h1 (by decide) e.symm)).trans h1, (hg.block q (lt_of_block h2) (fun e => ownBlock_ne hown h2 (by decide) e.symm)).trans h2, h3.kept hg (ownBlock_ne_row h3 hown (by decide))⟩

abbrev bltW (w : World) (s : Str) (v : Value) : World := ((w.alloc (.cells #[.bool false, v, sv []] 192)).alloc (.cells #[sv s, .pointer (some ⟨w.heap.size, 0, none⟩)] 148)).alloc (.cells #[.pointer (some ⟨w.heap.size + 1, 0, none⟩)] 97)
theorem blt_world (w : World) (s : Str) (l : List Sy) (a : Option Addr) (c B : Nat) (h : w.ownsRow B 207 1 (.slice a l.length c) l.length (l.map Sy.val)) : New w (bltW w s (.slice a l.length c)) ∧ ProdBlk (bltW w s (.slice a l.length c)) (.pointer (some ⟨w.heap.size + 1, 0, none⟩)) (s, l) ∧
    (bltW w s (.slice a l.length c)).heap[w.heap.size + 1 + 1]? = some (.cells #[.pointer (some ⟨w.heap.size + 1, 0, none⟩)] 97 (0, 0)) ∧ (bltW w s (.slice a l.length c)).heap.size = w.heap.size + 1 + 1 + 1 := by
  have hn : New w (bltW w s (.slice a l.length c)) := (((New.refl _).alloc _).alloc _).alloc _
  have q1 : (bltW w s (.slice a l.length c)).heap[w.heap.size]? = _ := New.heap (((New.refl (w.alloc (.cells #[.bool false, .slice a l.length c, sv []] 192))).alloc _).alloc _) (heap_alloc_new w _)
  have q2 : (bltW w s (.slice a l.length c)).heap[w.heap.size + 1]? = some (.cells #[sv s, .pointer (some ⟨w.heap.size, 0, none⟩)] 148 (0, 0)) := by
    have := New.heap ((New.refl ((w.alloc (.cells #[.bool false, .slice a l.length c, sv []] 192)).alloc (.cells #[sv s, .pointer (some ⟨w.heap.size, 0, none⟩)] 148))).alloc (.cells #[.pointer (some ⟨w.heap.size + 1, 0, none⟩)] 97)) (heap_alloc_new (w.alloc (.cells #[.bool false, .slice a l.length c, sv []] 192)) _)
    simpa using this
  refine ⟨hn, ⟨_, w.heap.size, a, c, B, rfl, q2, q1, ownsRow_new h hn⟩, ?_, by simp [bltW]⟩
  · have := heap_alloc_new ((w.alloc (.cells #[.bool false, .slice a l.length c, sv []] 192)).alloc (.cells #[sv s, .pointer (some ⟨w.heap.size, 0, none⟩)] 148)) (.cells #[.pointer (some ⟨w.heap.size + 1, 0, none⟩)] 97)
    simpa [bltW] using this

/-- What `built` leaves. -/
def Built (w : World) (x p fp : Nat) (g : Gram) : Prop := ∃ B m1 m2 m3 r2 r4 r5 ns B' M sg n, GrmAt w (.pointer (some ⟨x, 0, none⟩)) (augP g) ∧ SymSt w B p m1 m2 m3 r2 r4 r5 (typesA (augP g) [invalidS, eofS]) (headsA (augP g)) (headsA (augP g)) ns ∧
  FsSt w B' fp M (.pointer (some ⟨p, 0, none⟩)) sg n ∧ n ≤ 8000 ∧ FsOk (augP g) (headsA (augP g)) (tau sg) ∧ ∀ q ∈ augP g, ClosedF (tau sg) (headsA (augP g)) q
theorem Built.new {w w' : World} {x p fp : Nat} {g : Gram} (h : Built w x p fp g) (hn : New w w') : Built w' x p fp g := by
  obtain ⟨B, m1, m2, m3, r2, r4, r5, ns, B', M, sg, n, h1, h2, h3, h4⟩ := h
  exact ⟨B, m1, m2, m3, r2, r4, r5, ns, B', M, sg, n, h1.new hn, h2.new hn, h3.new hn, h4⟩

theorem symOf_str (g : Gram) (s : Str) : (symOf g s).str = s := by unfold symOf; split <;> rfl
theorem bodyS_eq (g : Gram) (b : List Str) : bodyS g b = if b = [] then [.em] else b.map (symOf g) := rfl
theorem augP_fit {g : Gram} (hm : Sm g) : ∀ p ∈ augP g, p.1.length ≤ 1000 ∧ p.2.length ≤ 20 ∧ ∀ s ∈ p.2, s.str.length ≤ 1000 := by
  intro p hp
  rcases List.mem_cons.1 hp with rfl | hp
  · refine ⟨by simp [startS], by simp, fun s hs => ?_⟩
    simp only [List.mem_singleton] at hs
    subst hs
    have := symbolOk_le (hm.head _ (List.getElem_mem hm.pos)).1
    rw [← start_get hm.pos] at this
    exact Nat.le_trans this (by omega)
  · obtain ⟨q, hq, rfl⟩ := List.mem_map.1 hp
    have h1 := symbolOk_le (hm.head q hq).1
    have h2 := hm.body q hq
    refine ⟨Nat.le_trans h1 (by omega), ?_, fun s hs => ?_⟩
    · show (bodyS g q.2).length ≤ 20
      rw [bodyS_eq]
      split
      · simp
      · simp; omega
    · have hs' : s ∈ bodyS g q.2 := hs
      rw [bodyS_eq] at hs'
      split at hs'
      · simp at hs'; subst hs'; decide
      · obtain ⟨u, hu, rfl⟩ := List.mem_map.1 hs'
        rw [symOf_str]
        have := symbolOk_le (hm.sym q hq u hu)
        omega
theorem augP_bodies {g : Gram} (hm : Sm g) : ∀ p ∈ augP g, ∃ s rest, p.2 = s :: rest ∧ (s.str = emptyS → rest = []) := by
  intro p hp
  rcases List.mem_cons.1 hp with rfl | hp
  · exact ⟨_, [], rfl, fun _ => rfl⟩
  · obtain ⟨q, hq, rfl⟩ := List.mem_map.1 hp
    show ∃ s rest, bodyS g q.2 = s :: rest ∧ _
    rw [bodyS_eq]
    cases hb : q.2 with
    | nil => exact ⟨.em, [], rfl, fun _ => rfl⟩
    | cons u r =>
      refine ⟨symOf g u, r.map (symOf g), by simp, fun e => ?_⟩
      rw [symOf_str] at e
      have := symbolOk_le (hm.sym q hq u (by rw [hb]; exact List.mem_cons_self ..))
      rw [e] at this
      exact absurd this (by decide)

set_option maxRecDepth 20000 in
set_option maxHeartbeats 4000000 in
theorem built_any (v : Value) (g : Gram) (w : World) (h : GramAt w v g) (hm : Sm g) :
    Calls Tryz.prog 50 #[v] w fun e w' => ∃ x p fp, e = .returned (.tuple #[.pointer (some ⟨x, 0, none⟩), .pointer (some ⟨p, 0, none⟩), .pointer (some ⟨fp, 0, none⟩)]) ∧ Built w' x p fp g ∧ New w w' := by
  obtain ⟨a, cap, rfl⟩ := h.slice
  have hlen := hm.len
  have HG := Lib.hid h
  clear h
  go_enter Tryz.func50, Tryz.ntmps50
  go_wp2
  go_loopg [5, 15] g.length (fun gk v5 i wr => ∃ (k : Nat) (ps : List Value), k ≤ g.length ∧ gk = g.length - k ∧ i = .int .i64 k ∧ wr.ownsRow w.heap.size 97 1 v5 k ps ∧
    (∀ j, (hj : j < k) → (hj2 : j < g.length) → ∃ u, ps[j]? = some u ∧ ProdBlk wr u (g[j].1, bodyS g g[j].2)) ∧ New w wr)
  case atStart => exact ⟨0, [], Nat.zero_le _, rfl, rfl, ⟨rfl, .inl ⟨rfl, rfl⟩⟩, by intro j hj; omega, New.refl _⟩
  case round =>
    obtain ⟨k, ps, hk, rfl, rfl, hown, hps, hn⟩ := hrel
    have hB := hn.size
    obtain ⟨wo, hwo⟩ : ∃ wo : World, wo = wr := ⟨_, rfl⟩
    subst hwo
    by_cases hlt : k < g.length
    · obtain ⟨b, o, a', cap', e, h1, h2, h3⟩ := (HG.out.new hn).elem hlt
      cases e
      have hmem := List.getElem_mem hlt
      have hbl := hm.body _ hmem
      have HH := Lib.hid (And.intro hown hps)
      have H3 := Lib.hid h3
      clear h3 hown hps
      go_wp2_with fail
      have hW : New wo (wo.alloc (.cells #[.string { data := g[k].1.toArray }, .slice a' g[k].2.length cap'] 67)) := (New.refl wo).alloc _
      have hbox : (wo.alloc (.cells #[.string { data := g[k].1.toArray }, .slice a' g[k].2.length cap'] 67)).cell? ⟨wo.heap.size, 0, none⟩ = some (sv g[k].1) := by simp
      generalize wo.alloc (.cells #[.string { data := g[k].1.toArray }, .slice a' g[k].2.length cap'] 67) = W at *
      have HWB := Lib.hid (And.intro hW hbox)
      clear hW hbox h1 h2
      go_loopg [8, 22] g[k].2.length (fun gj v8 i wr => ∃ (j : Nat), j ≤ g[k].2.length ∧ gj = g[k].2.length - j ∧ i = .int .i64 j ∧ wr.ownsRow W.heap.size 207 1 v8 j ((g[k].2.take j).map fun s => (symOf g s).val) ∧ New W wr)
      case atStart => exact ⟨0, Nat.zero_le _, rfl, rfl, ⟨rfl, .inl ⟨rfl, rfl⟩⟩, New.refl _⟩
      case round =>
        obtain ⟨j, hj, rfl, rfl, hown, hnj⟩ := hrel
        have hBj := hnj.size
        obtain ⟨hW, hbox⟩ := HWB.out
        have hno : New wo wr := hW.trans hnj
        by_cases hlj : j < g[k].2.length
        · obtain ⟨b2, o2, e, c1⟩ := (H3.out.new hno).elem hlj
          cases e
          have hq := Lib.hid (implHead_any _ g g[k].2[j] wr (HG.out.new (hn.trans hno)) (by omega))
          have htk : ((g[k].2.take (j + 1)).map fun s => (symOf g s).val) = ((g[k].2.take j).map fun s => (symOf g s).val) ++ [(symOf g g[k].2[j]).val] := by
            rw [List.take_add_one, List.map_append]; simp [hlj]
          have HT := Lib.hid htk
          clear htk hbox
          cases hh : isHead g g[k].2[j] with
          | true =>
            rw [hh] at hq
            have HV : Hid ((symOf g g[k].2[j]).val = .iface 142 (sv g[k].2[j])) := Lib.hid (by simp [symOf, hh, Sy.val])
            clear hh
            go_wp2_with (first | (go_at_call 56; refine hq.out.mono ?_; rintro e w1 ⟨rfl, hn1⟩; have hown1 := ownsRow_new hown hn1; have hB1 := hn1.size; clear hq c1) | (at_builtin; go_must (refine wpList_push _ rfl _ _ _ _ rfl T141 W.heap.size _ _ _ rfl hown1 [_] rfl rfl _ _ rfl (by simp) (by omega) (by omega) (by omega) ?_)))
            intro v' w2 hown2 hgrow hne hat
            have hn2 : New W w2 := Below.push (hnj.trans hn1) hown1 hgrow (by omega)
            clear hgrow hown1 hown hn1
            go_wp2
            go_roundg (g[k].2.length - (j + 1))
            case measure => omega
            case rel => exact ⟨j + 1, by omega, rfl, by go_num, by rw [HT.out, HV.out, List.map_take]; exact hown2, hn2⟩
          | false =>
            rw [hh] at hq
            have HV : Hid ((symOf g g[k].2[j]).val = .iface 143 (sv g[k].2[j])) := Lib.hid (by simp [symOf, hh, Sy.val])
            clear hh
            go_wp2_with (first | (go_at_call 56; refine hq.out.mono ?_; rintro e w1 ⟨rfl, hn1⟩; have hown1 := ownsRow_new hown hn1; have hB1 := hn1.size; clear hq c1) | (at_builtin; go_must (refine wpList_push _ rfl _ _ _ _ rfl T141 W.heap.size _ _ _ rfl hown1 [_] rfl rfl _ _ rfl (by simp) (by omega) (by omega) (by omega) ?_)))
            intro v' w2 hown2 hgrow hne hat
            have hn2 : New W w2 := Below.push (hnj.trans hn1) hown1 hgrow (by omega)
            clear hgrow hown1 hown hn1
            go_wp2
            go_roundg (g[k].2.length - (j + 1))
            case measure => omega
            case rel => exact ⟨j + 1, by omega, rfl, by go_num, by rw [HT.out, HV.out, List.map_take]; exact hown2, hn2⟩
        · obtain rfl : j = g[k].2.length := by omega
          rw [List.take_length] at hown
          obtain ⟨_, sa, sc, rfl, hsc, _⟩ := row_cells hown
          clear hbox hBj
          go_upto_if 42 with fail
          go_cut [8] (fun v8 wc => wc.ownsRow W.heap.size 207 1 v8 (bodyS g g[k].2).length ((bodyS g g[k].2).map Sy.val) ∧ New W wc)
          case first =>
            by_cases hb : g[k].2 = []
            · have hbb : ((g[k].2.length : Int) == 0) = true := by rw [hb]; rfl
              have hW1 := hnj.size
              have Hb := Lib.hid hb
              clear hb
              go_wp2_with (at_builtin; go_must (refine wpList_push _ rfl _ _ _ _ rfl T141 W.heap.size _ _ _ rfl hown [_] rfl rfl _ _ rfl (by simp) (by omega) (by omega) (by omega) ?_))
              intro v' w2 hown2 hgrow hne hat
              have hn2 : New W w2 := Below.push hnj hown hgrow (by omega)
              clear hgrow hown
              go_wp2_with fail
              go_meet
              repeat apply Exists.intro
              refine ⟨?_, hn2⟩
              have hb := Hb.out
              have : bodyS g g[k].2 = [.em] := by simp [bodyS, hb]
              rw [this]
              rw [hb] at hown2
              exact hown2
            · have hbb : ((g[k].2.length : Int) == 0) = false := by
                cases hx : g[k].2 with
                | nil => exact absurd hx hb
                | cons a l => simp; omega
              have Hb := Lib.hid hb
              clear hb
              go_wp2_with fail
              go_meet
              repeat apply Exists.intro
              refine ⟨?_, hnj⟩
              have : bodyS g g[k].2 = g[k].2.map (symOf g) := by unfold bodyS; rw [if_neg Hb.out]; rfl
              rw [this, List.length_map, List.map_map]
              exact hown
          case rest =>
            obtain ⟨hown8, hnc⟩ := hcut
            obtain ⟨_, sa8, sc8, e8, hsc8, hc8⟩ := row_cells hown8
            cases e8
            obtain ⟨hW, hbox⟩ := HWB.out
            have hnoc := hW.trans hnc
            have hbox := hnc.cell hbox
            obtain ⟨hown, hps⟩ := HH.out
            have hown := ownsRow_new hown hnoc
            have hB := (hn.trans hnoc).size
            have HS := Lib.hid (And.intro hps (And.intro hnoc (hn.trans hnoc)))
            obtain ⟨hn4, hPP, hblk4, hsz4⟩ := blt_world wc g[k].1 (bodyS g g[k].2) sa8 sc8 _ hown8
            have HPP := Lib.hid (And.intro hn4 hPP)
            have hown4 := ownsRow_new hown hn4
            have hb4 := hn4.cell hbox
            have hbA := (((New.refl wc).alloc (.cells #[.bool false, .slice sa8 (bodyS g g[k].2).length sc8, sv []] 192))).cell hbox
            have hbB := (((New.refl wc).alloc (.cells #[.bool false, .slice sa8 (bodyS g g[k].2).length sc8, sv []] 192)).alloc (.cells #[sv g[k].1, .pointer (some ⟨wc.heap.size, 0, none⟩)] 148)).cell hbox
            have hBsz : w.heap.size ≤ (bltW wc g[k].1 (.slice sa8 (bodyS g g[k].2).length sc8)).heap.size := by omega
            have hneb : some wo.heap.size ≠ u5.ownBlock := fun e => by have := (HH.out.1.lt _ e.symm).2; omega
            have HWS := Lib.hid (And.intro hsz4 hown4)
            clear hps hown8 hnc hnoc hc8 hW hno hnj hsz4 hPP
            go_wp2_with fail
            go_region_held3 (fun w' => w'.cell? ⟨wo.heap.size, 0, none⟩ = some (sv g[k].1))
              (first
                | exact hbox
                | exact hbA
                | exact hbB
                | exact hb4
                | exact (hgrow.cell_far ⟨wo.heap.size, 0, none⟩ (World.block_lt_of_cell? _ _ hb4) (hneb)).trans hb4
                | go_keep)
              (first
                | (go_at_call 96; refine (ZZBody_any _ _ _ _).mono ?_; rintro e w' ⟨rfl, rfl⟩)
                | (refine step_push (by rfl) _ _ _ _ (by rfl) T93 w.heap.size u5 k ps (by rfl) (by first | exact hown4.drew | exact hown4) [_] (by rfl) (by rfl) _ (wc.heap.size + 1 + 1) (by rfl) (0, 0) hblk4 (by omega) (by omega) hBsz ?_; intro g0 cap1 w1 hown1 hgrow hat))
            go_wp2
            obtain ⟨hps, hnoc, hnw⟩ := HS.out
            obtain ⟨hn4, hPP⟩ := HPP.out
            have hg : (bltW wc g[k].1 (.slice sa8 (bodyS g g[k].2).length sc8)).grownBy w1 u5.ownBlock := ⟨hgrow.os, hgrow.tape, hgrow.output, hgrow.size, hgrow.block⟩
            go_roundg (g.length - (k + 1))
            case measure => omega
            case rel =>
              refine ⟨k + 1, ps ++ [.pointer (some ⟨wc.heap.size + 1, 0, none⟩)], by omega, rfl, by go_num, hown1, fun j hj hj2 => ?_, Below.push (hnw.trans hn4) hown4 hg hBsz⟩
              have hpl : ps.length = k := (row_cells HH.out.1).1
              by_cases hjk : j < k
              · obtain ⟨u, e1, e2⟩ := hps j hjk hj2
                exact ⟨u, by rw [List.getElem?_append_left (by omega)]; exact e1, (e2.new (hnoc.trans hn4)).kept hown4 hg⟩
              · obtain rfl : j = k := by omega
                exact ⟨_, by rw [List.getElem?_append_right (by omega)]; simp [hpl], hPP.kept hown4 hg⟩
    · obtain rfl : k = g.length := by omega
      have hrow : wo.ownsRow w.heap.size 97 1 u5 (g.map fun p => (p.1, bodyS g p.2)).length ps := by simpa using hown
      have hP := ProdsAt.of_row hrow (fun j hj => by
        simp only [List.length_map] at hj
        obtain ⟨u, h1, h2⟩ := hps j hj hj
        exact ⟨u, h1, by simpa using h2.ptr⟩)
      have HP := Lib.hid hP
      have hml : (g.map fun p => (p.1, bodyS g p.2)).length = g.length := by simp
      have haug : (startS, [Sy.nt ((g.map fun p => (p.1, bodyS g p.2))[0]'(by rw [hml]; exact hm.pos)).1]) :: (g.map fun p => (p.1, bodyS g p.2)) = augP g := by
        unfold augP
        rw [start_get hm.pos]
        simp
      have hq := Lib.hid (ZZGrammar_any u5 _ wo hP (by rw [hml]; exact hm.pos) (by rw [hml]; omega))
      have HAUG := Lib.hid haug
      have hfit := augP_fit hm
      have hbod := augP_bodies hm
      have halen : (augP g).length ≤ 20 := by simp [augP]; omega
      have HF := Lib.hid (And.intro hfit (And.intro hbod halen))
      obtain ⟨a5, c5, rfl⟩ := owns_slice hown
      clear hrow hP hown hps haug hfit hbod halen HP
      go_wp2_with fail
      refine hq.out.mono ?_
      rintro e w1 ⟨v1, rfl, hg1, hn1⟩
      rw [HAUG.out] at hg1
      obtain ⟨x, _, _, rfl, _⟩ := id hg1
      have HG1 := Lib.hid hg1
      clear hg1 hq
      go_wp2_with fail
      refine (NewSymbols_any x w1 (augP g) HG1.out HF.out.2.2 HF.out.1).mono ?_
      rintro e w2 ⟨p, m1, m2, m3, r2, r4, r5, ns, rfl, hst2, hn2⟩
      have HS2 := Lib.hid hst2
      clear hst2
      go_wp2_with fail
      refine (GetFirstSets_any x w2 (augP g) (HG1.out.new hn2) HS2.out HF.out.2.2 HF.out.1 HF.out.2.1).mono ?_
      rintro e w3 ⟨fp, M, sg, nf, rfl, hfs, hnf, hok, hcl, hn3⟩
      have HFS := Lib.hid (And.intro hfs (And.intro hnf (And.intro hok hcl)))
      clear hfs hok hcl
      go_wp2_with fail
      go_ret3
      exact ⟨x, p, fp, rfl, ⟨_, m1, m2, m3, r2, r4, r5, ns, _, M, sg, nf, (HG1.out.new hn2).new hn3, HS2.out.new hn3, HFS.out⟩, ((hn.trans hn1).trans hn2).trans hn3⟩
end Go.Proofs.YtdejcdmgcckmoaaGreatDoor
