/- The reference: looks, stops. -/
import Derived.Test.YtdejcdmgcckmoaaGreatDoorYLL
import Derived.Test.YtdejcdmgcckmoaaGreatDoorYAA
namespace Go.Proofs.YtdejcdmgcckmoaaGreatDoor
open Go.RowKit Go.Sort Lr

set_option maxRecDepth 20000 in
set_option maxHeartbeats 1000000 in
theorem IndexFunc_ac (v : Value) (L : List Ac) (w : World) (h : RowK ac4 4 w v L) (hl : L.length ≤ 1000000) (F : Nat) (caps : Array Value) (p : Ac → Bool)
    (hE : ∀ args w, (callFunc F args).run Tryz.prog w = .ok (.enter F args) w)
    (hp : ∀ (x : Ac) (w' : World), New w w' → Calls Tryz.prog F (#[.agg #[.int .i64 (x.1 : Int), sv x.2.1, .int .i64 x.2.2.1, .int .i64 x.2.2.2]] ++ caps) w' fun e w'' => e = .returned (.bool (p x)) ∧ New w' w'') :
    Calls Tryz.prog 124 #[v, .func (.func F) #[] caps] w fun e w' => e = .returned (.int .i64 (idxBy p L 0)) ∧ New w w' := by
  obtain ⟨a, cap, rfl⟩ := h.slice
  go_enter Tryz.func124, Tryz.ntmps124
  go_wp2
  go_loopw [8] (fun i wr => ∃ k : Nat, k ≤ L.length ∧ i = .int .i64 k ∧ Hid (idxBy p L 0 = idxBy p (L.drop k) k) ∧ New w wr) (fun i _ => L.length - (intOf i).toNat)
  case atStart => exact ⟨0, Nat.zero_le _, rfl, rfl, New.refl _⟩
  case round =>
    obtain ⟨k, hk, rfl, hd, hn⟩ := hrel
    by_cases hlt : k < L.length
    · have hs := Lib.hid (@idxBy_drop _ p L k hlt)
      obtain ⟨b, o, e1, hcell⟩ := (h.new ac4_len hn).elem hlt
      obtain ⟨c0, c1, c2, c3⟩ := elem4 hcell
      cases e1
      simp only [ac4, List.getElem?_cons_zero, List.getElem?_cons_succ] at c0 c1 c2 c3
      have hq := Lib.hid (hp L[k] wr hn)
      clear hcell h hp
      go_wp2_with fail
      refine hq.out.mono ?_
      rintro e w1 ⟨rfl, hn1⟩
      have hn2 := hn.trans hn1
      clear hq c0 c1 c2 c3 hn hn1
      go_wp2
      · have ht : p L[k] = true := by assumption
        go_ret
        exact ⟨ret_int (by rw [hd.out, hs.out, if_pos ht]), hn2⟩
      · have ht : p L[k] = false := by assumption
        go_roundw
        case rel => exact ⟨k + 1, by omega, by go_num, by rw [hd.out, hs.out, ht]; rfl, hn2⟩
        case measure => simp [intOf]; omega
    · have hs := Lib.hid (@idxBy_end _ p L k hlt)
      go_wp2
      go_ret
      exact ⟨ret_int (by rw [hd.out, hs.out]), hn⟩
set_option maxHeartbeats 400000 in
theorem ContainsFunc_ac (v : Value) (L : List Ac) (w : World) (h : RowK ac4 4 w v L) (hl : L.length ≤ 1000000) (F : Nat) (caps : Array Value) (p : Ac → Bool)
    (hE : ∀ args w, (callFunc F args).run Tryz.prog w = .ok (.enter F args) w)
    (hp : ∀ (x : Ac) (w' : World), New w w' → Calls Tryz.prog F (#[.agg #[.int .i64 (x.1 : Int), sv x.2.1, .int .i64 x.2.2.1, .int .i64 x.2.2.2]] ++ caps) w' fun e w'' => e = .returned (.bool (p x)) ∧ New w' w'') :
    Calls Tryz.prog 84 #[v, .func (.func F) #[] caps] w fun e w' => e = .returned (.bool (L.any p)) ∧ New w w' := by
  have hq := Lib.hid (IndexFunc_ac v L w h hl F caps p hE hp)
  clear hE hp h
  go_enter Tryz.func84, Tryz.ntmps84
  go_wp2_with (go_at_call 124; refine hq.out.mono ?_; rintro e w' ⟨rfl, hn⟩)
  go_ret
  exact ⟨ret_bool idxBy_ge, hn⟩
set_option maxRecDepth 20000 in
set_option maxHeartbeats 1000000 in
theorem IndexFunc_cl (v : Value) (L : List Cl) (w : World) (h : RowK cl4 4 w v L) (hl : L.length ≤ 1000000) (F : Nat) (caps : Array Value) (p : Cl → Bool)
    (hE : ∀ args w, (callFunc F args).run Tryz.prog w = .ok (.enter F args) w)
    (hp : ∀ (x : Cl) (w' : World), New w w' → Calls Tryz.prog F (#[.agg #[.int .i64 (x.1 : Int), sv x.2.1, .slice x.2.2.1.1 x.2.2.1.2.1 x.2.2.1.2.2, .slice x.2.2.2.1 x.2.2.2.2.1 x.2.2.2.2.2]] ++ caps) w' fun e w'' => e = .returned (.bool (p x)) ∧ New w' w'') :
    Calls Tryz.prog 89 #[v, .func (.func F) #[] caps] w fun e w' => e = .returned (.int .i64 (idxBy p L 0)) ∧ New w w' := by
  obtain ⟨a, cap, rfl⟩ := h.slice
  go_enter Tryz.func89, Tryz.ntmps89
  go_wp2
  go_loopw [8] (fun i wr => ∃ k : Nat, k ≤ L.length ∧ i = .int .i64 k ∧ Hid (idxBy p L 0 = idxBy p (L.drop k) k) ∧ New w wr) (fun i _ => L.length - (intOf i).toNat)
  case atStart => exact ⟨0, Nat.zero_le _, rfl, rfl, New.refl _⟩
  case round =>
    obtain ⟨k, hk, rfl, hd, hn⟩ := hrel
    by_cases hlt : k < L.length
    · have hs := Lib.hid (@idxBy_drop _ p L k hlt)
      obtain ⟨b, o, e1, hcell⟩ := (h.new cl4_len hn).elem hlt
      obtain ⟨c0, c1, c2, c3⟩ := elem4 hcell
      cases e1
      simp only [cl4, List.getElem?_cons_zero, List.getElem?_cons_succ] at c0 c1 c2 c3
      have hq := Lib.hid (hp L[k] wr hn)
      clear hcell h hp
      go_wp2_with fail
      refine hq.out.mono ?_
      rintro e w1 ⟨rfl, hn1⟩
      have hn2 := hn.trans hn1
      clear hq c0 c1 c2 c3 hn hn1
      go_wp2
      · have ht : p L[k] = true := by assumption
        go_ret
        exact ⟨ret_int (by rw [hd.out, hs.out, if_pos ht]), hn2⟩
      · have ht : p L[k] = false := by assumption
        go_roundw
        case rel => exact ⟨k + 1, by omega, by go_num, by rw [hd.out, hs.out, ht]; rfl, hn2⟩
        case measure => simp [intOf]; omega
    · have hs := Lib.hid (@idxBy_end _ p L k hlt)
      go_wp2
      go_ret
      exact ⟨ret_int (by rw [hd.out, hs.out]), hn⟩
set_option maxHeartbeats 400000 in
theorem ContainsFunc_cl (v : Value) (L : List Cl) (w : World) (h : RowK cl4 4 w v L) (hl : L.length ≤ 1000000) (F : Nat) (caps : Array Value) (p : Cl → Bool)
    (hE : ∀ args w, (callFunc F args).run Tryz.prog w = .ok (.enter F args) w)
    (hp : ∀ (x : Cl) (w' : World), New w w' → Calls Tryz.prog F (#[.agg #[.int .i64 (x.1 : Int), sv x.2.1, .slice x.2.2.1.1 x.2.2.1.2.1 x.2.2.1.2.2, .slice x.2.2.2.1 x.2.2.2.2.1 x.2.2.2.2.2]] ++ caps) w' fun e w'' => e = .returned (.bool (p x)) ∧ New w' w'') :
    Calls Tryz.prog 36 #[v, .func (.func F) #[] caps] w fun e w' => e = .returned (.bool (L.any p)) ∧ New w w' := by
  have hq := Lib.hid (IndexFunc_cl v L w h hl F caps p hE hp)
  clear hE hp h
  go_enter Tryz.func36, Tryz.ntmps36
  go_wp2_with (go_at_call 89; refine hq.out.mono ?_; rintro e w' ⟨rfl, hn⟩)
  go_ret
  exact ⟨ret_bool idxBy_ge, hn⟩
theorem enters85 : ∀ args w, (callFunc 85 args).run Tryz.prog w = .ok (.enter 85 args) w := enters_of Tryz.func85 (by kernel_rfl) rfl
set_option maxHeartbeats 400000 in
theorem isAcc_any (x : Ac) (w : World) : Calls Tryz.prog 85 #[.agg #[.int .i64 (x.1 : Int), sv x.2.1, .int .i64 x.2.2.1, .int .i64 x.2.2.2]] w fun e w' => e = .returned (.bool (x.2.2.1 == 3)) ∧ New w w' := by
  go_enter Tryz.func85, Tryz.ntmps85
  go_wp2
  go_ret
  exact ⟨rfl, (New.refl _).alloc _⟩
theorem enters37 : ∀ args w, (callFunc 37 args).run Tryz.prog w = .ok (.enter 37 args) w := enters_of Tryz.func37 (by kernel_rfl) rfl
set_option maxHeartbeats 400000 in
theorem isCl_any (i : Nat) (s : Str) (b1 b2 : Nat) (x : Cl) (w : World) (h1 : w.cell? ⟨b1, 0, none⟩ = some (.int .i64 (i : Int))) (h2 : w.cell? ⟨b2, 0, none⟩ = some (sv s)) :
    Calls Tryz.prog 37 #[.agg #[.int .i64 (x.1 : Int), sv x.2.1, .slice x.2.2.1.1 x.2.2.1.2.1 x.2.2.1.2.2, .slice x.2.2.2.1 x.2.2.2.2.1 x.2.2.2.2.2], .pointer (some ⟨b1, 0, none⟩), .pointer (some ⟨b2, 0, none⟩)] w fun e w' => e = .returned (.bool (decide (x.1 = i) && decide (x.2.1 = s))) ∧ New w w' := by
  obtain ⟨x1, x2, ⟨x3, x4, x5⟩, ⟨x6, x7, x8⟩⟩ := x
  simp only
  have h1' := ((New.refl w).alloc (.cells #[.int .i64 (x1 : Int), sv x2, .slice x3 x4 x5, .slice x6 x7 x8] 57)).cell h1
  have h2' := ((New.refl w).alloc (.cells #[.int .i64 (x1 : Int), sv x2, .slice x3 x4 x5, .slice x6 x7 x8] 57)).cell h2
  by_cases e1 : x1 = i
  · subst e1
    by_cases e2 : x2 = s
    · subst e2
      go_enter Tryz.func37, Tryz.ntmps37
      go_wp2
      go_ret
      exact ⟨by simp, (New.refl _).alloc _⟩
    · have e2b : (x2 == s) = false := beq_eq_false_iff_ne.2 e2
      go_enter Tryz.func37, Tryz.ntmps37
      go_wp2
      go_ret
      exact ⟨by simp [e2], (New.refl _).alloc _⟩
  · have e1b : ((x1 : Int) == (i : Int)) = false := beq_eq_false_iff_ne.2 (by omega)
    go_enter Tryz.func37, Tryz.ntmps37
    go_wp2
    go_ret
    exact ⟨by simp [e1], (New.refl _).alloc _⟩
set_option maxRecDepth 20000 in
set_option maxHeartbeats 1000000 in
theorem Looks_any (v : Value) (g : Gram) (w : World) (h : GramAt w v g) (hm : Sm g) :
    Calls Tryz.prog 34 #[v] w fun e w' => ∃ v', e = .returned v' ∧ Strs w' w.heap.size v' (looksF g) ∧ New w w' := by
  have hq := Lib.hid (Terminals_any v g w h hm)
  have hlen := terminals_len hm.body
  have h12 := hm.len
  obtain ⟨a, cap, rfl⟩ := h.slice
  clear h
  go_enter Tryz.func34, Tryz.ntmps34
  go_wp2_with (first | (go_at_call 14; refine hq.out.mono ?_; rintro e w1 ⟨vT, rfl, hoT, hn1⟩; have HT := Lib.hid (And.intro hoT hn1); obtain ⟨aT, cT, eT⟩ := owns_slice hoT; subst eT; clear hoT hn1) | (at_builtin; go_must (refine wpList_push _ rfl _ _ _ _ rfl T24 w.heap.size _ _ _ rfl HT.out.1 [_] rfl rfl _ _ rfl (by simp) (by omega) (by omega) HT.out.2.size ?_)))
  intro v' w8 hown8 hgrow8 hne8 hat8
  have hn8 : New w w8 := Below.push HT.out.2 HT.out.1 hgrow8 HT.out.2.size
  have hS8 : Strs w8 w.heap.size v' (looksF g) := Strs.push hown8
  have HX := Lib.hid (And.intro hS8 hn8)
  obtain ⟨a9, c9, e9⟩ := owns_slice hown8
  subst e9
  clear hn8 hS8 hown8 hgrow8 hne8 hat8
  go_wp2
  go_ret
  exact ⟨_, rfl, HX.out⟩
end Go.Proofs.YtdejcdmgcckmoaaGreatDoor
namespace Go.Proofs.YtdejcdmgcckmoaaGreatDoor
open Go.RowKit Go.Sort Lr

theorem any_acc {g : Gram} {l : List Itm} {E : List Edg} {i : Nat} {s : Str} : ((acsOf i s (saidF g l E i s)).any fun x => x.2.2.1 == 3) = decide (((3, 0) : KN) ∈ saidF g l E i s) := by
  rw [Bool.eq_iff_iff, List.any_eq_true, decide_eq_true_iff]
  constructor
  · rintro ⟨x, hx, h⟩
    unfold acsOf at hx
    obtain ⟨y, hy, rfl⟩ := List.mem_map.1 hx
    have h : y.1 = 3 := by simpa using h
    rcases said_kinds hy with ⟨j, rfl⟩ | ⟨p, rfl⟩ | rfl
    · simp at h
    · simp at h
    · exact hy
  · intro h
    exact ⟨_, acsOf_mem.2 h, rfl⟩
theorem items_le2 {g : Gram} (hm : Sm g) {γ : List Str} {l : List Itm} (ho : l.Pairwise fun x y => cmpItm x y < 0) (hl : ∀ i ∈ l, Vld g γ i) : l.length ≤ 3185 := by
  have hnd : l.Nodup := ho.imp fun {x y} hxy e => by subst e; exact ord_itm.irr x hxy
  exact items_le hm.len hm.body hnd hl
set_option maxRecDepth 20000 in
set_option maxHeartbeats 2000000 in
theorem Stops_any {g : Gram} (hg : GOk g) (hfew : Few g 120) (v : Value) (w : World) (h : GramAt w v g) :
    Calls Tryz.prog 32 #[v] w fun e w' => ∃ b, e = .returned (.bool b) ∧ (b = false → NoStop g) ∧ New w w' := by
  have hm := hg.toSm
  have hq := Lib.hid (RefStates_any hg v w h)
  have HH := Lib.hid h
  obtain ⟨a, cap, rfl⟩ := h.slice
  clear h
  go_enter Tryz.func32, Tryz.ntmps32
  go_wp2_with fail
  refine hq.out.mono ?_
  rintro e w1 ⟨vL, vE, b, rfl, hn1, hfl, hb⟩
  cases b with
  | false => exact absurd hfew (hfl rfl)
  | true =>
    obtain ⟨Γ, A, E, hT, hM, hE, ho, _, hEl⟩ := hb rfl
    have hAl : A.length ≤ 120 := by rw [hT.len]; exact hfew.le hT.full.toGamOk
    have H1 := Lib.hid (And.intro hT (And.intro hM (And.intro hE (And.intro ho hn1))))
    obtain ⟨aL, cL, rfl⟩ := hM.slice
    obtain ⟨aE, cE, rfl⟩ := hE.slice
    clear hb hfl hT hM hE ho hn1 hq
    go_wp2_with fail
    go_loopg [17] A.length (fun gk u17 wr => ∃ k : Nat, k ≤ A.length ∧ gk = A.length - k ∧ u17 = .int .i64 k ∧ Hid (∀ (i : Nat) (l : List Itm), i < k → A[i]? = some l → ¬ (2 ≤ (saidF g l E i endS).length ∧ ((3, 0) : KN) ∈ saidF g l E i endS)) ∧ Hid (New w1 wr))
    case atStart => exact ⟨0, Nat.zero_le _, rfl, rfl, Lib.hid (fun i l h => by omega), Lib.hid (New.refl w1)⟩
    case round =>
      obtain ⟨k, hk, rfl, rfl, hno, hn⟩ := hrel
      by_cases hlt : k < A.length
      · obtain ⟨b, o, a', c', e, h1, h2⟩ := (H1.out.2.1.new hn.out).elem hlt
        cases e
        have hkΓ : k < Γ.length := by rw [← H1.out.1.len]; exact hlt
        have hl : ∀ x ∈ A[k], Vld g Γ[k] x := fun x hx => (H1.out.1.items k _ _ (List.getElem?_eq_getElem hkΓ) (List.getElem?_eq_getElem hlt) x).1 hx
        have hll := items_le2 hm (H1.out.2.2.2.1 _ (List.getElem_mem hlt)) hl
        have hq := Lib.hid (Said_any hg hl (by omega) (E := E) (by omega) _ _ _ k endS (by decide) wr (HH.out.new (H1.out.2.2.2.2.trans hn.out)) h2 (H1.out.2.2.1.new hn.out))
        have hstep : ¬ (2 ≤ (saidF g A[k] E k endS).length ∧ ((3, 0) : KN) ∈ saidF g A[k] E k endS) → ∀ (i : Nat) (l : List Itm), i < k + 1 → A[i]? = some l → ¬ (2 ≤ (saidF g l E i endS).length ∧ ((3, 0) : KN) ∈ saidF g l E i endS) := fun h i l hi he => by
          by_cases e : i = k
          · subst e
            rw [List.getElem?_eq_getElem hlt] at he
            cases he
            exact h
          · exact hno.out i l (by omega) he
        have HS := Lib.hid hstep
        have hac := acsOf_len k endS (saidF g A[k] E k endS)
        have hslen := saidF_len g A[k] E k endS
        have HA := Lib.hid (any_acc (g := g) (l := A[k]) (E := E) (i := k) (s := endS))
        clear hno hl hstep h2
        generalize saidF g A[k] E k endS = S at *
        generalize hAk : A[k].length = nA at *
        clear hAk
        by_cases h2 : 2 ≤ S.length
        · have hlz : (1 : Int) < (S.length : Int) := by omega
          have hlzb : decide ((1 : Int) < (S.length : Int)) = true := decide_eq_true hlz
          go_wp2_with (first | (go_at_call 35; refine hq.out.mono ?_; rintro e w2 ⟨vS, rfl, hS, hn2⟩; have hqc := Lib.hid (ContainsFunc_ac _ _ w2 hS (by omega) 85 #[] (fun x => x.2.2.1 == 3) enters85 (fun x w' _ => isAcc_any x w')); have hN2 := Lib.hid (hn.out.trans hn2); obtain ⟨aS, cS, eS⟩ := hS.slice; subst eS; rw [hac] at hqc ⊢; clear hS hn2) | (go_at_call 84; refine hqc.out.mono ?_; rintro e w3 ⟨rfl, hn3⟩; rw [HA.out]))
          · go_ret
            exact ⟨true, rfl, (fun h => by cases h), H1.out.2.2.2.2.trans (hN2.out.trans hn3)⟩
          · rename_i h3
            go_roundg (A.length - (k + 1))
            case measure => omega
            case rel => exact ⟨k + 1, by omega, rfl, by go_num, Lib.hid (HS.out (fun h => h3 h.2)), Lib.hid (hN2.out.trans hn3)⟩
        · have hlz : ¬ (1 : Int) < (S.length : Int) := by omega
          have hlzb : decide ((1 : Int) < (S.length : Int)) = false := decide_eq_false hlz
          go_wp2_with (first | (go_at_call 35; refine hq.out.mono ?_; rintro e w2 ⟨vS, rfl, hS, hn2⟩; have hN2 := Lib.hid (hn.out.trans hn2); obtain ⟨aS, cS, eS⟩ := hS.slice; subst eS; rw [hac]; clear hS hn2))
          go_roundg (A.length - (k + 1))
          case measure => omega
          case rel => exact ⟨k + 1, by omega, rfl, by go_num, Lib.hid (HS.out (fun h => h2 h.1)), hN2⟩
      · have HNO := Lib.hid (And.intro hno.out hn.out)
        clear hno hn
        go_wp2
        go_ret
        exact ⟨false, rfl, fun _ => noStop_ref hm H1.out.1 fun i l hl => HNO.out.1 i l (by have := (List.getElem?_eq_some_iff.1 hl).1; omega) hl, H1.out.2.2.2.2.trans HNO.out.2⟩
end Go.Proofs.YtdejcdmgcckmoaaGreatDoor
