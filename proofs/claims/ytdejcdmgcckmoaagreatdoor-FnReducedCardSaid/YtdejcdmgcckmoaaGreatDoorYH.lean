/- The package: lists of symbols; the plain law of first sets. -/
import Derived.Test.YtdejcdmgcckmoaaGreatDoorYE
import Derived.Lib.SliceRun
import Derived.Test.YtdejcdmgcckmoaaGreatDoorYF
import Derived.Deep.LoopGhost
import Derived.Test.YtdejcdmgcckmoaaGreatDoorYG
import Derived.Test.YtdejcdmgcckmoaaGreatDoorYD
import Derived.Test.YtdejcdmgcckmoaaGreatDoorYA
namespace Go.Proofs.YtdejcdmgcckmoaaGreatDoor
open Go.RowKit Lr

def toldS (s : Str) : Str := if s = eofS then endS else s
theorem told_any (s : Str) (w : World) : Calls Tryz.prog 52 #[sv s] w fun e w' => e = .returned (sv (toldS s)) ∧ w = w' := by
  unfold toldS
  by_cases h : s = eofS
  · rw [if_pos h]
    have hd : (s == [226, 144, 154]) = true := by rw [h]; rfl
    clear h
    go_enter Tryz.func52, Tryz.ntmps52
    go_wp2
    go_ret
    exact ⟨rfl, rfl⟩
  · rw [if_neg h]
    have hd : (s == [226, 144, 154]) = false := beq_eq_false_iff_ne.2 h
    clear h
    go_enter Tryz.func52, Tryz.ntmps52
    go_wp2
    go_ret
    exact ⟨rfl, rfl⟩

theorem NTList_any {w : World} {B p m1 m2 m3 : Nat} {r2 r4 r5 : Value} {tm nt nk : List Str} {n : Nat} (st : SymSt w B p m1 m2 m3 r2 r4 r5 tm nt nk n) :
    Calls Tryz.prog 54 #[.pointer (some ⟨p, 0, none⟩)] w fun e w' => e = .returned r2 ∧ w = w' := by
  have c0 := cell_of_blk st.blk 2
  simp only [List.getElem?_toArray, List.getElem?_cons_zero, List.getElem?_cons_succ] at c0
  obtain ⟨a, k, rfl⟩ := owns_slice st.ntr
  clear st
  go_enter Tryz.func54, Tryz.ntmps54
  go_wp2
  go_ret
  exact ⟨rfl, rfl⟩

theorem StrsAt.news {w : World} {a : Option Addr} {n c : Nat} {l : List Str} (h : StrsAt w (.slice a n c) l) (h0 : 0 < l.length) : ∃ b o, a = some ⟨b, o, none⟩ ∧ ∀ j u, (l.map sv)[j]? = some u → w.cell? ((⟨b, o, none⟩ : Addr).add j) = some u := by
  obtain ⟨a', c', e, _, hc⟩ := h
  cases e
  obtain ⟨b, o, rfl, hcc⟩ := hc h0
  refine ⟨b, o, rfl, fun j u hu => ?_⟩
  have ea : (⟨b, o, none⟩ : Addr).add j = ⟨b, o + j, none⟩ := by unfold Addr.add; split <;> simp_all
  rw [ea]
  rw [List.getElem?_map, Option.map_eq_some_iff] at hu
  obtain ⟨s, hs, rfl⟩ := hu
  have hj : j < l.length := (List.getElem?_eq_some_iff.1 hs).1
  rw [hcc j hj]
  simp [List.getD, hs]

set_option maxRecDepth 20000 in
set_option maxHeartbeats 1000000 in
theorem Clone_str (v : Value) (l : List Str) (w : World) (h : StrsAt w v l) (h0 : 0 < l.length) (hl : l.length ≤ 100000) :
    Calls Tryz.prog 53 #[v] w fun e w' => ∃ v', e = .returned v' ∧ StrsAt w' v' l ∧ New w w' := by
  obtain ⟨a, cap, rfl⟩ := h.slice
  obtain ⟨b, o, rfl, hnews⟩ := h.news h0
  have hq : ∀ w, (binOp .eql 24 (.slice (some ⟨b, o, none⟩) l.length cap) (.slice none 0 0)).run Tryz.prog w = .ok (.bool false) w := fun _ => by kernel_rfl
  have hown : (w.alloc (.cells #[] 9)).ownsRow w.heap.size 9 1 (.slice (some ⟨w.heap.size, 0, none⟩) 0 0) 0 [] := World.ownsRow_made w #[] 0 (Nat.le_refl _) (Nat.zero_le _) rfl
  have HN := Lib.hid hnews
  clear h hnews
  go_enter Tryz.func53, Tryz.ntmps53
  go_wp2_with (at_builtin; refine wpList_extend _ rfl _ _ _ _ rfl T24 w.heap.size _ _ _ rfl hown ⟨b, o, none⟩ l.length cap (l.map sv) rfl (by simp) (fun j u hu => ((New.refl w).alloc (.cells #[] 9)).cell (HN.out j u hu)) (by intro u hu; simp at hu; obtain ⟨s, _, rfl⟩ := hu; rfl) (by omega) (by omega) (by simp) ?_)
  intro v' w2 hown2 hg
  go_wp2
  go_ret
  refine ⟨v', rfl, StrsAt.of_owns (base := w.heap.size) (e := 9) (by simpa using hown2), Below.grown ((New.refl w).alloc _) hg (by simp) (fun k hk => by simp [Value.ownBlock] at hk; omega)⟩
end Go.Proofs.YtdejcdmgcckmoaaGreatDoor
namespace Go.Proofs.YtdejcdmgcckmoaaGreatDoor
open Go.RowKit Lr

theorem filter_take {l : List Str} {p : Str → Bool} {k : Nat} (h : k < l.length) : (l.take (k + 1)).filter p = (l.take k).filter p ++ if p l[k] then [l[k]] else [] := by
  rw [List.take_add_one, List.filter_append]
  simp [h, List.filter_cons]

set_option maxRecDepth 20000 in
set_option maxHeartbeats 2000000 in
theorem ListTerminals_any {w : World} {B p m1 m2 m3 : Nat} {r2 r4 r5 : Value} {tm nt nk : List Str} {n : Nat} (st : SymSt w B p m1 m2 m3 r2 r4 r5 tm nt nk n) (hs : ∀ s ∈ tm, s.length ≤ 1000000) (hl : tm.length ≤ 100000) :
    Calls Tryz.prog 51 #[.pointer (some ⟨p, 0, none⟩)] w fun e w' => ∃ v, e = .returned v ∧ StrsAt w' v (tm.filter fun s => !has nk s) ∧ New w w' := by
  have c0 := cell_of_blk st.blk 5
  simp only [List.getElem?_toArray, List.getElem?_cons_zero, List.getElem?_cons_succ] at c0
  have hrow := st.tmr.at
  obtain ⟨a, k5, rfl⟩ := owns_slice st.tmr
  have hmk : ∀ w, (Instr.makeSlice 24 (.int .i64 0) (.int .i64 16)).run Tryz.prog w = .ok (.slice (some ⟨w.heap.size, 0, none⟩) 0 16) (w.alloc (.cells (Array.replicate 16 (.string ByteArray.empty)) 9)) := fun _ => by kernel_rfl
  have HST := Lib.hid (And.intro st (And.intro hrow hs))
  have hown0 : Strs (w.alloc (.cells (Array.replicate 16 (.string ByteArray.empty)) 9)) w.heap.size (.slice (some ⟨w.heap.size, 0, none⟩) 0 16) [] := row_empty (heap_alloc_new w _) (Nat.le_refl _)
  have hn0 : New w (w.alloc (.cells (Array.replicate 16 (.string ByteArray.empty)) 9)) := (New.refl w).alloc _
  have lp := lt_of_block st.blk
  have H0 := Lib.hid (And.intro hown0 hn0)
  clear st hrow hs hown0 hn0
  go_enter Tryz.func51, Tryz.ntmps51
  go_wp2
  clear hmk
  go_loopg [3, 12] tm.length (fun gk v3 i wr => ∃ k, k ≤ tm.length ∧ gk = tm.length - k ∧ i = .int .i64 k ∧ Strs wr w.heap.size v3 ((tm.take k).filter fun s => !has nk s) ∧ New w wr)
  case atStart => exact ⟨0, Nat.zero_le _, rfl, rfl, H0.out.1, H0.out.2⟩
  case round =>
    obtain ⟨k, hk, rfl, rfl, hown, hn⟩ := hrel
    by_cases hlt : k < tm.length
    · obtain ⟨b, o, e, c1⟩ := (HST.out.2.1.new hn).elem hlt
      cases e
      have hq := Lib.hid (IsTerminal_any (HST.out.1.new hn) tm[k] (HST.out.2.2 _ (List.getElem_mem hlt)))
      have hB := hn.size
      have htk := filter_take (p := fun s => !has nk s) hlt
      have hfl := List.length_filter_le (fun s => !has nk s) (tm.take k)
      have htl := List.length_take_le k tm
      cases hh : has nk tm[k] with
      | true =>
        rw [hh] at hq htk
        have HT := Lib.hid htk
        clear hh htk
        go_wp2_with (go_at_call 100; refine hq.out.mono ?_; rintro e w' ⟨rfl, rfl⟩)
        go_roundg (tm.length - (k + 1))
        case measure => omega
        case rel => exact ⟨k + 1, by omega, rfl, by go_num, by rw [HT.out]; simpa using hown, hn⟩
      | false =>
        rw [hh] at hq htk
        have HT := Lib.hid htk
        clear hh htk
        go_wp2_with (first | (go_at_call 100; refine hq.out.mono ?_; rintro e w' ⟨rfl, rfl⟩) | (at_builtin; go_must (refine wpList_push _ rfl _ _ _ _ rfl T24 w.heap.size _ _ _ rfl hown [_] rfl rfl _ _ rfl (by simp) (by omega) (by omega) (by omega) ?_)))
        intro v' w2 hown2 hgrow hne hat
        have hn2 : New w w2 := Below.push hn hown hgrow (by omega)
        have hown3 := Strs.push hown2
        clear hgrow hown hown2
        go_wp2
        go_roundg (tm.length - (k + 1))
        case measure => omega
        case rel => exact ⟨k + 1, by omega, rfl, by go_num, by rw [HT.out]; exact hown3, hn2⟩
    · have ht : tm.take k = tm := List.take_of_length_le (by omega)
      rw [ht] at hown
      have hat := hown.at
      obtain ⟨a3, k3, rfl⟩ := owns_slice hown
      have HA := Lib.hid hat
      clear hat hown ht
      go_wp2
      go_ret
      exact ⟨_, rfl, HA.out, hn⟩
end Go.Proofs.YtdejcdmgcckmoaaGreatDoor
namespace Go.Proofs.YtdejcdmgcckmoaaGreatDoor
open Go.RowKit Lr

/-- The terminals as the package lists them. -/
def termsL (g : Gram) : List Str := (typesA (augP g) [invalidS, eofS]).filter fun s => !has (headsA (augP g)) s
theorem mem_addTo {l : List Str} {s t : Str} : t ∈ addTo l s ↔ t ∈ l ∨ t = s := by
  unfold addTo
  split
  · rename_i h
    rw [has_iff] at h
    exact ⟨.inl, fun e => e.elim id fun e => e ▸ h⟩
  · simp
theorem mem_bodyA {l : List Sy} {t0 : List Str} {t : Str} : t ∈ l.foldl (fun t s => addTo t s.str) t0 ↔ t ∈ t0 ∨ ∃ y ∈ l, t = y.str := by
  induction l generalizing t0 with
  | nil => simp
  | cons y l ih =>
    rw [List.foldl_cons, ih, mem_addTo]
    simp only [List.mem_cons]
    constructor
    · rintro ((h | h) | ⟨z, hz, h⟩)
      · exact .inl h
      · exact .inr ⟨y, .inl rfl, h⟩
      · exact .inr ⟨z, .inr hz, h⟩
    · rintro (h | ⟨z, rfl | hz, h⟩)
      · exact .inl (.inl h)
      · exact .inl (.inr h)
      · exact .inr ⟨z, hz, h⟩
theorem mem_typesA {L : List AP} {t0 : List Str} {t : Str} : t ∈ typesA L t0 ↔ t ∈ t0 ∨ ∃ p ∈ L, t = p.1 ∨ ∃ y ∈ p.2, t = y.str := by
  induction L generalizing t0 with
  | nil => simp [typesA]
  | cons q L ih =>
    have ih := @ih (q.2.foldl (fun t s => addTo t s.str) (addTo t0 q.1))
    simp only [typesA, List.foldl_cons] at ih ⊢
    rw [ih, mem_bodyA, mem_addTo]
    simp only [List.mem_cons]
    constructor
    · rintro (((h | h) | h) | ⟨z, hz, h⟩)
      · exact .inl h
      · exact .inr ⟨q, .inl rfl, .inl h⟩
      · exact .inr ⟨q, .inl rfl, .inr h⟩
      · exact .inr ⟨z, .inr hz, h⟩
    · rintro (h | ⟨z, rfl | hz, h⟩)
      · exact .inl (.inl (.inl h))
      · rcases h with h | h
        · exact .inl (.inl (.inr h))
        · exact .inl (.inr h)
      · exact .inr ⟨z, hz, h⟩
theorem mem_headsA {L : List AP} {t : Str} : t ∈ headsA L ↔ ∃ p ∈ L, t = p.1 := by
  have : ∀ (L : List AP) (t0 : List Str), t ∈ L.foldl (fun t p => addTo t p.1) t0 ↔ t ∈ t0 ∨ ∃ p ∈ L, t = p.1 := by
    intro L
    induction L with
    | nil => simp
    | cons q L ih =>
      intro t0
      rw [List.foldl_cons, ih, mem_addTo]
      simp only [List.mem_cons]
      constructor
      · rintro ((h | h) | ⟨z, hz, h⟩)
        · exact .inl h
        · exact .inr ⟨q, .inl rfl, h⟩
        · exact .inr ⟨z, .inr hz, h⟩
      · rintro (h | ⟨z, rfl | hz, h⟩)
        · exact .inl (.inl h)
        · exact .inl (.inr h)
        · exact .inr ⟨z, hz, h⟩
  rw [headsA, this]
  simp
theorem types_fit {g : Gram} (hm : Sm g) : ∀ s ∈ typesA (augP g) [invalidS, eofS], s.length ≤ 1000000 := by
  intro s hs
  rcases mem_typesA.1 hs with h | ⟨p, hp, h⟩
  · simp only [List.mem_cons, List.not_mem_nil, or_false] at h
    rcases h with rfl | rfl <;> decide
  · have := augP_fit hm p hp
    rcases h with rfl | ⟨y, hy, rfl⟩
    · omega
    · have := this.2.2 y hy; omega
theorem types_len {g : Gram} (hm : Sm g) : (typesA (augP g) [invalidS, eofS]).length ≤ 1000 := by
  have h := typesA_len (augP g) [invalidS, eofS] 20 (fun p hp => (augP_fit hm p hp).2.1)
  have h2 : (augP g).length ≤ 13 := by have := hm.len; simp [augP]; omega
  have h3 := Nat.mul_le_mul_right 21 h2
  simp only [List.length_cons, List.length_nil] at h
  omega

set_option maxRecDepth 20000 in
set_option maxHeartbeats 2000000 in
theorem Symbols_any (v : Value) (g : Gram) (w : World) (h : GramAt w v g) (hm : Sm g) :
    Calls Tryz.prog 13 #[v] w fun e w' => ∃ v1 v2, e = .returned (.tuple #[v1, v2, .bool true]) ∧ StrsAt w' v1 ((termsL g).map toldS) ∧ StrsAt w' v2 (headsA (augP g)) ∧ New w w' := by
  obtain ⟨a, cap, rfl⟩ := h.slice
  have hq1 := Lib.hid (right_any _ g w h hm)
  have HG := Lib.hid (And.intro h hm)
  have hh1 : 0 < (headsA (augP g)).length := by
    have : startS ∈ headsA (augP g) := mem_headsA.2 ⟨_, List.mem_cons_self .., rfl⟩
    exact List.length_pos_of_mem this
  have hh2 : (headsA (augP g)).length ≤ 1000 := by
    have := headsA_len (augP g)
    have := hm.len
    have : (augP g).length ≤ 13 := by simp [augP]; omega
    omega
  clear h
  go_enter Tryz.func13, Tryz.ntmps13
  go_wp2_with fail
  refine hq1.out.mono ?_
  rintro e w1 ⟨rfl, hn1⟩
  go_wp2_with fail
  refine (built_any _ g w1 (HG.out.1.new hn1) HG.out.2).mono ?_
  rintro e w2 ⟨x, p, fp, rfl, hb, hn2⟩
  obtain ⟨B, m1, m2, m3, r2, r4, r5, ns, B', M, sg, n, _, hst, _⟩ := hb
  have HST := Lib.hid hst
  have hnw2 := hn1.trans hn2
  clear hst
  go_wp2_with fail
  refine (ListTerminals_any HST.out (types_fit HG.out.2) (by have := types_len HG.out.2; omega)).mono ?_
  rintro e w3 ⟨v3, rfl, hv3, hn3⟩
  have hv3 : StrsAt w3 v3 (termsL g) := hv3
  have hlen3 : (termsL g).length ≤ 1000 := Nat.le_trans (List.length_filter_le _ _) (types_len HG.out.2)
  obtain ⟨T, hT⟩ : ∃ T, T = termsL g := ⟨_, rfl⟩
  rw [← hT] at hv3 hlen3
  have HTE := Lib.hid hT
  clear hT
  obtain ⟨a3, c3, rfl⟩ := hv3.slice
  have hnw3 := hnw2.trans hn3
  have HV3 := Lib.hid (And.intro hv3 (HST.out.new hn3))
  clear hv3 hnw2
  go_wp2_with fail
  go_loopg [8, 23] T.length (fun gk v8 i wr => ∃ k, k ≤ T.length ∧ gk = T.length - k ∧ i = .int .i64 k ∧ Strs wr w3.heap.size v8 ((T.take k).map toldS) ∧ New w3 wr)
  case atStart => exact ⟨0, Nat.zero_le _, rfl, rfl, ⟨rfl, .inl ⟨rfl, rfl⟩⟩, New.refl _⟩
  case round =>
    obtain ⟨k, hk, rfl, rfl, hown, hn⟩ := hrel
    have hB := hn.size
    by_cases hlt : k < T.length
    · obtain ⟨b, o, e, c1⟩ := (HV3.out.1.new hn).elem hlt
      cases e
      have htk : (T.take (k + 1)).map toldS = (T.take k).map toldS ++ [toldS T[k]] := by
        rw [List.take_add_one, List.map_append]; simp [hlt]
      have HT := Lib.hid htk
      have htl := List.length_take_le k T
      have hml : ((T.take k).map toldS).length = (T.take k).length := List.length_map ..
      have hml2 : ((T.take k).map toldS).length ≤ 1000 := by omega
      clear htk hml
      generalize (T.take k).map toldS = R at *
      go_wp2_with (first | (go_at_call 52; refine (told_any _ _).mono ?_; rintro e w' ⟨rfl, rfl⟩) | (at_builtin; go_must (refine wpList_push _ rfl _ _ _ _ rfl T24 w3.heap.size _ _ _ rfl hown [_] rfl rfl _ _ rfl (by simp) (by omega) (by omega) (by omega) ?_)))
      intro v' w4 hown4 hgrow hne hat
      have hn4 : New w3 w4 := Below.push hn hown hgrow (by omega)
      have hown5 := Strs.push hown4
      clear hgrow hown hown4
      go_wp2
      go_roundg (T.length - (k + 1))
      case measure => omega
      case rel => exact ⟨k + 1, by omega, rfl, by go_num, by rw [HT.out]; exact hown5, hn4⟩
    · have ht : T.take k = T := List.take_of_length_le (by omega)
      rw [ht] at hown
      have hat := hown.at
      obtain ⟨a8, k8, rfl⟩ := owns_slice hown
      have HA := Lib.hid hat
      clear hat hown ht
      go_wp2_with fail
      refine (NTList_any (HV3.out.2.new hn)).mono ?_
      rintro e w4 ⟨rfl, rfl⟩
      go_wp2_with fail
      refine (Clone_str r2 _ wr (HV3.out.2.new hn).ntr.at hh1 (by omega)).mono ?_
      rintro e w5 ⟨v5, rfl, hv5, hn5⟩
      go_wp2_with fail
      go_ret3
      have hfin := HA.out.new hn5
      rw [List.length_map, HTE.out] at hfin
      rw [HTE.out]
      exact ⟨_, v5, rfl, hfin, hv5, (hnw3.trans hn).trans hn5⟩
end Go.Proofs.YtdejcdmgcckmoaaGreatDoor
namespace Go.Proofs.YtdejcdmgcckmoaaGreatDoor
open Go.RowKit Lr

theorem mem_addT {l : List Str} {s t : Str} (h : t ∈ addT l s) : t ∈ l ∨ (t = s ∧ greatB s = false) := by
  unfold addT at h
  split at h
  · rename_i hc
    simp only [Bool.and_eq_true, Bool.not_eq_true'] at hc
    rcases List.mem_append.1 h with h | h
    · exact .inl h
    · simp at h; exact .inr ⟨h, hc.1⟩
  · exact .inl h
theorem mem_terminalsF {g : Gram} {t : Str} (h : t ∈ terminalsF g) : ∃ p ∈ g, t ∈ p.2 ∧ greatB t = false := by
  have h1 : ∀ (b : List Str) (out : List Str), t ∈ b.foldl addT out → t ∈ out ∨ (t ∈ b ∧ greatB t = false) := by
    intro b
    induction b with
    | nil => intro out h; exact .inl h
    | cons s b ih =>
      intro out h
      rcases ih _ h with h | h
      · rcases mem_addT h with h | ⟨h, h2⟩
        · exact .inl h
        · subst h; exact .inr ⟨List.mem_cons_self .., h2⟩
      · exact .inr ⟨List.mem_cons_of_mem _ h.1, h.2⟩
  have h2 : ∀ (g : Gram) (out : List Str), t ∈ g.foldl (fun out p => p.2.foldl addT out) out → t ∈ out ∨ ∃ p ∈ g, t ∈ p.2 ∧ greatB t = false := by
    intro g
    induction g with
    | nil => intro out h; exact .inl h
    | cons p g ih =>
      intro out h
      rcases ih _ h with h | ⟨q, hq, h⟩
      · rcases h1 _ _ h with h | h
        · exact .inl h
        · exact .inr ⟨p, List.mem_cons_self .., h⟩
      · exact .inr ⟨q, List.mem_cons_of_mem _ hq, h⟩
  rcases h2 g [] h with h | h
  · cases h
  · exact h
theorem head_of_great {g : Gram} (hm : Sm g) {t : Str} (hg : greatB t = false) : isHead g t = false := by
  cases h : isHead g t with
  | false => rfl
  | true =>
    obtain ⟨b, hq⟩ := isHead_iff.1 h
    have : greatB t = true := (hm.head _ hq).2
    rw [this] at hg
    cases hg
theorem letters_ne {s : Str} (h : symbolOkB s = true) : s ≠ startS ∧ s ≠ eofS ∧ s ≠ invalidS ∧ s ≠ emptyS := by
  have h1 := symbolOk_le h
  have h2 := symbolOk_letter h
  refine ⟨fun e => ?_, fun e => ?_, fun e => ?_, fun e => ?_⟩
  · rw [e] at h2; exact absurd (h2 39 (by simp [startS])) (by decide)
  · rw [e] at h2; exact absurd (h2 226 (by simp [eofS])) (by decide)
  · rw [e] at h1; exact absurd h1 (by decide)
  · rw [e] at h1; exact absurd h1 (by decide)
/-- What the law asks of a terminal. -/
theorem symbols_term {g : Gram} (hm : Sm g) {t : Str} (h : t ∈ terminalsF g) : has ((termsL g).map toldS) t = true ∧ has (headsA (augP g)) t = false := by
  obtain ⟨p, hp, ht, hg⟩ := mem_terminalsF h
  have hok := hm.sym p hp t ht
  have hne := letters_ne hok
  have hH : has (headsA (augP g)) t = false := by
    rw [has_false, mem_headsA]
    rintro ⟨q, hq, e⟩
    rcases List.mem_cons.1 hq with rfl | hq
    · exact hne.1 e
    · obtain ⟨r, hr, rfl⟩ := List.mem_map.1 hq
      have : isHead g t = true := isHead_iff.2 ⟨r.2, by rw [show t = r.1 from e]; exact hr⟩
      rw [head_of_great hm hg] at this
      cases this
  refine ⟨?_, hH⟩
  rw [has_iff, List.mem_map]
  refine ⟨t, ?_, by unfold toldS; rw [if_neg hne.2.1]⟩
  unfold termsL
  rw [List.mem_filter]
  refine ⟨mem_typesA.2 (.inr ⟨(p.1, bodyS g p.2), List.mem_cons_of_mem _ (List.mem_map.2 ⟨p, hp, rfl⟩), .inr ⟨symOf g t, ?_, (symOf_str g t).symm⟩⟩), by simp [hH]⟩
  show symOf g t ∈ bodyS g p.2
  rw [bodyS_eq, if_neg (by intro e; rw [e] at ht; cases ht)]
  exact List.mem_map.2 ⟨t, ht, rfl⟩
/-- What the law asks of a head. -/
theorem symbols_head {g : Gram} (hm : Sm g) {t : Str} (h : t ∈ headsF g) : has (headsA (augP g)) t = true ∧ has ((termsL g).map toldS) t = false := by
  obtain ⟨p, hp, rfl⟩ : ∃ p ∈ g, p.1 = t := by
    obtain ⟨b, hp⟩ := isHead_iff.1 (headsF_mem.1 h)
    exact ⟨(t, b), hp, rfl⟩
  have hH : has (headsA (augP g)) p.1 = true := by
    rw [has_iff, mem_headsA]
    exact ⟨(p.1, bodyS g p.2), List.mem_cons_of_mem _ (List.mem_map.2 ⟨p, hp, rfl⟩), rfl⟩
  refine ⟨hH, ?_⟩
  rw [has_false, List.mem_map]
  rintro ⟨u, hu, e⟩
  unfold termsL at hu
  rw [List.mem_filter] at hu
  unfold toldS at e
  split at e
  · have := symbolOk_letter (hm.head p hp).1 36 (by rw [← e]; simp [endS])
    exact absurd this (by decide)
  · rw [e, hH] at hu
    simp at hu
end Go.Proofs.YtdejcdmgcckmoaaGreatDoor
namespace Go.Proofs.YtdejcdmgcckmoaaGreatDoor
open Go.RowKit Lr

/-- The first set of a row of symbols, as the reference has it. -/
def seqS (g : Gram) (ph : Str → Str → Bool) : List Str → Str → Bool
  | [], t => decide (t = [])
  | s :: rest, t => if isHead g s then (!decide (t = []) && ph s t) || (ph s [] && seqS g ph rest t) else decide (t = s)
def ClosedS (g : Gram) (ph : Str → Str → Bool) : Prop := ∀ p ∈ g, ∀ t, seqS g ph p.2 t = true → ph p.1 t = true
structure LeastS (g : Gram) (ph : Str → Str → Bool) : Prop where
  closed : ClosedS g ph
  least : ∀ ph', ClosedS g ph' → ∀ A t, ph A t = true → ph' A t = true
/-- The package's word for the empty word, and back. -/
def convE (t : Str) : Str := if t = [] then emptyS else t
def backE (t : Str) : Str := if t = emptyS then [] else t

theorem has_heads {g : Gram} {s : Str} (hs : s ≠ startS) : has (headsA (augP g)) s = isHead g s := by
  by_cases h : isHead g s = true
  · rw [h, has_iff, mem_headsA]
    obtain ⟨b, hb⟩ := isHead_iff.1 h
    exact ⟨(s, bodyS g b), List.mem_cons_of_mem _ (List.mem_map.2 ⟨(s, b), hb, rfl⟩), rfl⟩
  · have h' : isHead g s = false := by simpa using h
    rw [h', has_false, mem_headsA]
    rintro ⟨q, hq, e⟩
    rcases List.mem_cons.1 hq with rfl | hq
    · exact hs e
    · obtain ⟨r, hr, rfl⟩ := List.mem_map.1 hq
      exact h (isHead_iff.2 ⟨r.2, by rw [show s = r.1 from e]; exact hr⟩)
theorem body_strs (g : Gram) (b : List Str) : (bodyS g b).map Sy.str = if b = [] then [emptyS] else b := by
  rw [bodyS_eq]
  split
  · rfl
  · rw [List.map_map]
    have : (Sy.str ∘ symOf g) = id := funext fun s => symOf_str g s
    rw [this, List.map_id]

theorem sym_facts {g : Gram} {p : Prd} (hm : Sm g) (hp : p ∈ g) {s : Str} (hs : s ∈ p.2) : s ≠ startS ∧ s ≠ emptyS ∧ s ≠ [] := by
  have h := letters_ne (hm.sym p hp s hs)
  have h2 := symbolOk_pos (hm.sym p hp s hs)
  exact ⟨h.1, h.2.2.2, fun e => by rw [e] at h2; simp at h2⟩

/-- The reference's set of a body lies in the package's. -/
theorem seqS_le {g : Gram} {ta : Str → Str → Bool} : ∀ {b : List Str} {t : Str}, (∀ s ∈ b, s ≠ startS ∧ s ≠ emptyS ∧ s ≠ []) → b ≠ [] → t ≠ emptyS → seqS g (fun A t => ta A (convE t)) b t = true → seqF (firstT ta (headsA (augP g))) b (convE t) = true
  | [], t, _, hb, _, _ => absurd rfl hb
  | s :: rest, t, hs, _, hte, h => by
    have hs0 := hs s (List.mem_cons_self ..)
    have hF : ∀ u, firstT ta (headsA (augP g)) s u = if isHead g s then ta s u else decide (u = s) := fun u => by
      unfold firstT; rw [has_heads hs0.1]
    unfold seqS at h
    by_cases ht : t = []
    · subst ht
      show seqF _ (s :: rest) emptyS = true
      unfold seqF
      rw [if_pos rfl, List.all_cons]
      by_cases hh : isHead g s = true
      · rw [if_pos hh] at h
        simp only [decide_true, Bool.not_true, Bool.false_and, Bool.false_or, Bool.and_eq_true] at h
        have h1 : ta s emptyS = true := h.1
        rw [hF, if_pos hh, h1, Bool.true_and]
        cases rest with
        | nil => rfl
        | cons x r =>
          have := seqS_le (fun y hy => hs y (List.mem_cons_of_mem _ hy)) (by simp) hte h.2
          have e : convE ([] : Str) = emptyS := rfl
          rw [e] at this
          unfold seqF at this
          rw [if_pos rfl] at this
          exact this
      · rw [if_neg hh] at h
        simp only [decide_eq_true_eq] at h
        exact absurd h.symm hs0.2.2
    · have hc : convE t = t := if_neg ht
      rw [hc]
      unfold seqF
      rw [if_neg hte]
      by_cases hh : isHead g s = true
      · rw [if_pos hh] at h
        simp only [Bool.or_eq_true, Bool.and_eq_true] at h
        rcases h with h | ⟨h1, h2⟩
        · have h3 : ta s t = true := by have := h.2; rwa [hc] at this
          rw [hF, if_pos hh, h3]; simp
        · have h3 : ta s emptyS = true := h1
          rw [hF emptyS, if_pos hh, h3]
          cases rest with
          | nil => simp [seqS, ht] at h2
          | cons x r =>
            have := seqS_le (fun y hy => hs y (List.mem_cons_of_mem _ hy)) (by simp) hte h2
            rw [hc] at this
            rw [this]; simp
      · rw [if_neg hh] at h
        rw [hF, if_neg hh, h]; simp
/-- And back. -/
theorem seqF_le {g : Gram} {ph : Str → Str → Bool} {ta : Str → Str → Bool} (hta : ∀ A t, A ≠ startS → ta A t = (!decide (t = []) && ph A (backE t))) : ∀ {b : List Str} {t : Str}, (∀ s ∈ b, s ≠ startS ∧ s ≠ emptyS ∧ s ≠ []) → b ≠ [] → seqF (firstT ta (headsA (augP g))) b t = true → t ≠ [] ∧ seqS g ph b (backE t) = true
  | [], t, _, hb, _ => absurd rfl hb
  | s :: rest, t, hs, _, h => by
    have hs0 := hs s (List.mem_cons_self ..)
    have hF : ∀ u, firstT ta (headsA (augP g)) s u = if isHead g s then (!decide (u = []) && ph s (backE u)) else decide (u = s) := fun u => by
      unfold firstT; rw [has_heads hs0.1, hta s u hs0.1]
    have hb0 : backE emptyS = [] := rfl
    have hen : ¬ emptyS = [] := by decide
    unfold seqF at h
    by_cases ht : t = emptyS
    · subst ht
      rw [if_pos rfl, List.all_cons, Bool.and_eq_true] at h
      obtain ⟨h1, h2⟩ := h
      refine ⟨by decide, ?_⟩
      rw [hb0]
      unfold seqS
      rw [hF] at h1
      by_cases hh : isHead g s = true
      · rw [if_pos hh, hb0] at h1
        simp only [Bool.and_eq_true] at h1
        rw [if_pos hh, h1.2]
        cases rest with
        | nil => simp [seqS]
        | cons x r =>
          have := (seqF_le hta (b := x :: r) (t := emptyS) (fun y hy => hs y (List.mem_cons_of_mem _ hy)) (by simp) (by unfold seqF; rw [if_pos rfl]; exact h2)).2
          rw [hb0] at this
          rw [this]; simp
      · rw [if_neg hh] at h1
        simp only [decide_eq_true_eq] at h1
        exact absurd h1.symm hs0.2.1
    · rw [if_neg ht] at h
      have hbk : backE t = t := if_neg ht
      rw [hbk]
      simp only [Bool.or_eq_true, Bool.and_eq_true] at h
      unfold seqS
      by_cases hh : isHead g s = true
      · rw [if_pos hh]
        rw [hF, hF, if_pos hh, if_pos hh, hb0, hbk] at h
        simp only [Bool.and_eq_true] at h
        rcases h with h | ⟨h1, h2⟩
        · have : t ≠ [] := by simpa using h.1
          exact ⟨this, by rw [h.2]; simp [this]⟩
        · cases rest with
          | nil => cases h2
          | cons x r =>
            have := seqF_le hta (fun y hy => hs y (List.mem_cons_of_mem _ hy)) (by simp) h2
            rw [hbk] at this
            exact ⟨this.1, by rw [h1.2, this.2]; simp⟩
      · rw [if_neg hh]
        rw [hF, hF, if_neg hh, if_neg hh] at h
        rcases h with h | ⟨h1, _⟩
        · have : t = s := by simpa using h
          exact ⟨by rw [this]; exact hs0.2.2, h⟩
        · simp only [decide_eq_true_eq] at h1
          exact absurd h1.symm hs0.2.1
theorem seqS_mono {g : Gram} {ph ph' : Str → Str → Bool} (h : ∀ A t, ph A t = true → ph' A t = true) : ∀ {b : List Str} {t : Str}, seqS g ph b t = true → seqS g ph' b t = true
  | [], _, e => e
  | s :: rest, t, e => by
    unfold seqS at e ⊢
    by_cases hh : isHead g s = true
    · rw [if_pos hh] at e ⊢
      simp only [Bool.or_eq_true, Bool.and_eq_true] at e ⊢
      rcases e with e | ⟨e1, e2⟩
      · exact .inl ⟨e.1, h _ _ e.2⟩
      · exact .inr ⟨h _ _ e1, seqS_mono h e2⟩
    · rw [if_neg hh] at e ⊢
      exact e
theorem seqS_noE {g : Gram} {ph : Str → Str → Bool} (h : ∀ A, ph A emptyS = false) : ∀ {b : List Str}, (∀ s ∈ b, s ≠ emptyS) → seqS g ph b emptyS = false
  | [], _ => rfl
  | s :: rest, hb => by
    unfold seqS
    have ih := seqS_noE (g := g) h (fun y hy => hb y (List.mem_cons_of_mem _ hy))
    by_cases hh : isHead g s = true
    · rw [if_pos hh, h, ih]; simp
    · rw [if_neg hh]
      have := hb s (List.mem_cons_self ..)
      simp; exact fun e => this e.symm

/-- The reference's sets as the package's, with the start above. -/
def liftT (g : Gram) (ph : Str → Str → Bool) (A t : Str) : Bool := if A = startS then !decide (t = []) && ph (Lr.start g) (backE t) else !decide (t = []) && ph A (backE t)
theorem liftT_ne {g : Gram} {ph : Str → Str → Bool} (A t : Str) (h : A ≠ startS) : liftT g ph A t = (!decide (t = []) && ph A (backE t)) := if_neg h
theorem liftT_start {g : Gram} {ph : Str → Str → Bool} (t : Str) : liftT g ph startS t = (!decide (t = []) && ph (Lr.start g) (backE t)) := if_pos rfl

/-- The package's first sets and the reference's say the same. -/
theorem first_same {g : Gram} (hm : Sm g) {ta ph : Str → Str → Bool} (hok : FsOk (augP g) (headsA (augP g)) ta) (hcl : ∀ q ∈ augP g, ClosedF ta (headsA (augP g)) q) (hph : LeastS g ph) :
    (∀ A t, ph A t = true → t ≠ emptyS ∧ ta A (convE t) = true) ∧ ∀ A t, A ≠ startS → ta A t = true → t ≠ [] ∧ ph A (backE t) = true := by
  constructor
  · intro A t h
    have := hph.least (fun A t => !decide (t = emptyS) && ta A (convE t)) (fun p hp t ht => by
      have hb := fun s (hs : s ∈ p.2) => sym_facts hm hp hs
      have hte : t ≠ emptyS := fun e => by
        subst e
        rw [seqS_noE (fun A => by simp) (fun s hs => (hb s hs).2.1)] at ht
        cases ht
      have h1 : seqS g (fun A t => ta A (convE t)) p.2 t = true := seqS_mono (fun A t e => by simp only [Bool.and_eq_true] at e; exact e.2) ht
      have h2 : ta p.1 (convE t) = true := by
        refine hcl (p.1, bodyS g p.2) (List.mem_cons_of_mem _ (List.mem_map.2 ⟨p, hp, rfl⟩)) _ ?_
        unfold firstB
        rw [body_strs]
        by_cases hbe : p.2 = []
        · rw [if_pos hbe]
          rw [hbe] at ht
          have : t = [] := by simpa [seqS] using ht
          subst this
          have he : has (headsA (augP g)) emptyS = false := by
            rw [has_heads (by decide)]
            cases hh : isHead g emptyS with
            | false => rfl
            | true =>
              obtain ⟨b, hb⟩ := isHead_iff.1 hh
              exact absurd rfl (letters_ne (hm.head _ hb).1).2.2.2
          rw [seqF_term he (fun _ => rfl)]
          simp [convE]
        · rw [if_neg hbe]
          exact seqS_le hb hbe hte h1
      simp [hte, h2]) A t h
    simp only [Bool.and_eq_true, Bool.not_eq_true', decide_eq_false_iff_not] at this
    exact this
  · intro A t hA h
    have := hok.least (liftT g ph) (fun q hq t ht => by
      have hta := @liftT_ne g ph
      rcases List.mem_cons.1 hq with rfl | hq
      · show liftT g ph startS t = true
        rw [liftT_start]
        have hne : Lr.start g ≠ startS := by
          have := (letters_ne (hm.head _ (List.getElem_mem hm.pos)).1).1
          rw [← start_get hm.pos] at this
          exact this
        have hh : has (headsA (augP g)) (Lr.start g) = true := by
          rw [has_heads hne, isHead_iff]
          exact ⟨(g[0]'hm.pos).2, by rw [start_get hm.pos]; exact List.getElem_mem hm.pos⟩
        unfold firstB at ht
        have e1 : ([Sy.nt (Lr.start g)].map Sy.str) = [Lr.start g] := rfl
        change seqF _ ([Sy.nt (Lr.start g)].map Sy.str) t = true at ht
        rw [e1] at ht
        unfold seqF at ht
        by_cases hte : t = emptyS
        · rw [if_pos hte, List.all_cons, List.all_nil, Bool.and_true] at ht
          unfold firstT at ht
          rw [if_pos hh, hta _ _ hne] at ht
          rw [hte]; exact ht
        · rw [if_neg hte] at ht
          simp only [seqF, Bool.and_false, Bool.or_false] at ht
          unfold firstT at ht
          rw [if_pos hh, hta _ _ hne] at ht
          exact ht
      · obtain ⟨p, hp, rfl⟩ := List.mem_map.1 hq
        have hpne := (letters_ne (hm.head p hp).1).1
        show liftT g ph p.1 t = true
        rw [liftT_ne _ _ hpne]
        have hb := fun s (hs : s ∈ p.2) => sym_facts hm hp hs
        unfold firstB at ht
        change seqF _ ((bodyS g p.2).map Sy.str) t = true at ht
        rw [body_strs] at ht
        by_cases hbe : p.2 = []
        · rw [if_pos hbe] at ht
          have he : has (headsA (augP g)) emptyS = false := by
            rw [has_heads (by decide)]
            cases hh : isHead g emptyS with
            | false => rfl
            | true =>
              obtain ⟨b, hb⟩ := isHead_iff.1 hh
              exact absurd rfl (letters_ne (hm.head _ hb).1).2.2.2
          rw [seqF_term he (fun _ => rfl)] at ht
          have : t = emptyS := by simpa using ht
          subst this
          have h0 : ph p.1 [] = true := hph.closed p hp [] (by rw [hbe]; rfl)
          have e2 : backE emptyS = [] := rfl
          rw [e2, h0]; decide
        · rw [if_neg hbe] at ht
          obtain ⟨h1, h2⟩ := seqF_le (ph := ph) hta hb hbe ht
          rw [hph.closed p hp _ h2]
          simp [h1]) A t h
    rw [liftT_ne _ _ hA] at this
    simp only [Bool.and_eq_true, Bool.not_eq_true', decide_eq_false_iff_not] at this
    exact this
end Go.Proofs.YtdejcdmgcckmoaaGreatDoor
namespace Go.Proofs.YtdejcdmgcckmoaaGreatDoor
open Go.RowKit Lr

/-- What is derived has a first symbol, or is the empty word. -/
theorem first_derived {g : Gram} {ph : Str → Str → Bool} (hc : ClosedS g ph) {n : Nat} {l x : List Str} (h : D g n l x) : (x = [] → seqS g ph l [] = true) ∧ ∃ t, seqS g ph l t = true := by
  induction h with
  | nil => exact ⟨fun _ => rfl, [], rfl⟩
  | @term t _ _ _ ht _ _ =>
    refine ⟨fun e => (by cases e), t, ?_⟩
    unfold seqS
    rw [if_neg (by simp [ht])]
    simp
  | @head A b l x y n m hp _ _ ih1 ih2 =>
    have hA : isHead g A = true := isHead_iff.2 ⟨b, hp⟩
    refine ⟨fun e => ?_, ?_⟩
    · obtain ⟨e1, e2⟩ := List.append_eq_nil_iff.1 e
      have h1 := hc (A, b) hp [] (ih1.1 e1)
      unfold seqS
      rw [if_pos hA, show ph A [] = true from h1, ih2.1 e2]
      simp
    · obtain ⟨t, ht⟩ := ih1.2
      have h1 : ph A t = true := hc (A, b) hp t ht
      by_cases he : t = []
      · subst he
        obtain ⟨u, hu⟩ := ih2.2
        refine ⟨u, ?_⟩
        unfold seqS
        rw [if_pos hA, h1, hu]
        simp
      · refine ⟨t, ?_⟩
        unfold seqS
        rw [if_pos hA, h1]
        simp [he]
theorem first_some {g : Gram} (hp : Productive g) {ph : Str → Str → Bool} (hc : ClosedS g ph) {A : Str} (hA : isHead g A = true) : ∃ t, ph A t = true := by
  obtain ⟨n, x, h⟩ := hp A hA
  obtain ⟨t, ht⟩ := (first_derived hc h).2
  unfold seqS at ht
  rw [if_pos hA] at ht
  simp only [Bool.or_eq_true, Bool.and_eq_true] at ht
  rcases ht with ht | ⟨ht, _⟩
  · exact ⟨t, ht.2⟩
  · exact ⟨[], ht⟩
end Go.Proofs.YtdejcdmgcckmoaaGreatDoor
namespace Go.Proofs.YtdejcdmgcckmoaaGreatDoor
open Go.RowKit Lr

section
variable {g : Gram}
/-- The first set of a row, by derivations. -/
def FstS (g : Gram) (l : List Str) (t : Str) : Prop := (t ≠ [] ∧ ∃ n, Pt g n l [] t) ∨ (t = [] ∧ ∃ n, D g n l [])
theorem fstS_nil {t : Str} : FstS g [] t ↔ t = [] := by
  constructor
  · rintro (⟨_, n, h⟩ | ⟨h, _⟩)
    · cases h
    · exact h
  · rintro rfl; exact .inr ⟨rfl, 0, .nil⟩
theorem fstS_term {s t : Str} {l : List Str} (hs : isHead g s = false) (h0 : s ≠ []) : FstS g (s :: l) t ↔ t = s := by
  constructor
  · rintro (⟨_, n, h⟩ | ⟨_, n, h⟩)
    · generalize hu : ([] : List Str) = u at h
      cases h with
      | term => rfl
      | head hm => exact absurd (isHead_iff.2 ⟨_, hm⟩) (by rw [hs]; simp)
      | skipT => cases hu
      | skipH hm => exact absurd (isHead_iff.2 ⟨_, hm⟩) (by rw [hs]; simp)
    · generalize hu : ([] : List Str) = u at h
      cases h with
      | term => cases hu
      | head hm => exact absurd (isHead_iff.2 ⟨_, hm⟩) (by rw [hs]; simp)
  · rintro rfl; exact .inl ⟨h0, 0, .term hs⟩
theorem fstS_head {s t : Str} {l : List Str} (hs : isHead g s = true) : FstS g (s :: l) t ↔ (t ≠ [] ∧ FstS g [s] t) ∨ (FstS g [s] [] ∧ FstS g l t) := by
  constructor
  · rintro (⟨ht, n, h⟩ | ⟨ht, n, h⟩)
    · generalize hu : ([] : List Str) = u at h
      cases h with
      | term hh => rw [hs] at hh; cases hh
      | head hm h => subst hu; exact .inl ⟨ht, .inl ⟨ht, _, .head hm h⟩⟩
      | skipT => cases hu
      | skipH hm hd h =>
        obtain ⟨rfl, rfl⟩ := List.append_eq_nil_iff.1 hu.symm
        exact .inr ⟨.inr ⟨rfl, _, D.one hm hd⟩, .inl ⟨ht, _, h⟩⟩
    · obtain ⟨n1, n2, x1, x2, e, _, h1, h2⟩ := D.split (l := [s]) h
      obtain ⟨rfl, rfl⟩ := List.append_eq_nil_iff.1 e.symm
      exact .inr ⟨.inr ⟨rfl, _, h1⟩, .inr ⟨ht, _, h2⟩⟩
  · rintro (⟨ht, h⟩ | ⟨h1, h2⟩)
    · rcases h with ⟨_, n, h⟩ | ⟨e, _⟩
      · exact .inl ⟨ht, n, h.right⟩
      · exact absurd e ht
    · rcases h1 with ⟨e, _⟩ | ⟨_, n, hd⟩
      · exact absurd rfl e
      · rcases h2 with ⟨ht, m, h⟩ | ⟨ht, m, h⟩
        · exact .inl ⟨ht, _, by simpa using Pt.skip hd h⟩
        · exact .inr ⟨ht, _, by simpa using hd.append h⟩
theorem fstS_one {s t : Str} {b : List Str} (hb : (s, b) ∈ g) (h : FstS g b t) : FstS g [s] t := by
  rcases h with ⟨ht, n, h⟩ | ⟨ht, n, h⟩
  · exact .inl ⟨ht, _, .head hb h⟩
  · exact .inr ⟨ht, _, D.one hb h⟩

/-- What a closed table says of rows, where it says of heads what derivations say. -/
theorem seqS_fst {ph : Str → Str → Bool} (hph : ∀ A t, isHead g A = true → (ph A t = true ↔ FstS g [A] t)) : ∀ {l : List Str} {t : Str}, (∀ s ∈ l, s ≠ []) → (seqS g ph l t = true ↔ FstS g l t)
  | [], t, _ => by rw [fstS_nil]; simp [seqS]
  | s :: l, t, hl => by
    have ih := fun t => seqS_fst hph (l := l) (t := t) (fun x hx => hl x (List.mem_cons_of_mem _ hx))
    unfold seqS
    cases hs : isHead g s with
    | true =>
      rw [fstS_head hs, if_pos rfl]
      simp only [Bool.or_eq_true, Bool.and_eq_true, Bool.not_eq_true', decide_eq_false_iff_not, hph s _ hs, ih]
      try exact Iff.rfl
    | false =>
      rw [fstS_term hs (hl s (List.mem_cons_self ..))]
      simp
theorem seqS_to {ph : Str → Str → Bool} (hph : ∀ A t, isHead g A = true → ph A t = true → FstS g [A] t) : ∀ {l : List Str} {t : Str}, (∀ s ∈ l, s ≠ []) → seqS g ph l t = true → FstS g l t
  | [], t, _, h => by rw [fstS_nil]; simpa [seqS] using h
  | s :: l, t, hl, h => by
    have ih := fun t => seqS_to hph (l := l) (t := t) (fun x hx => hl x (List.mem_cons_of_mem _ hx))
    unfold seqS at h
    cases hs : isHead g s with
    | true =>
      rw [fstS_head hs]
      rw [hs, if_pos rfl] at h
      simp only [Bool.or_eq_true, Bool.and_eq_true, Bool.not_eq_true', decide_eq_false_iff_not] at h
      rcases h with ⟨h1, h2⟩ | ⟨h1, h2⟩
      · exact .inl ⟨h1, hph _ _ hs h2⟩
      · exact .inr ⟨hph _ _ hs h1, ih _ h2⟩
    | false =>
      rw [fstS_term hs (hl s (List.mem_cons_self ..))]
      rw [hs] at h
      simpa using h
open Classical in
/-- The least table is what derivations say. -/
theorem LeastS.fst {ph : Str → Str → Bool} (h : LeastS g ph) (hne : ∀ p ∈ g, ∀ s ∈ p.2, s ≠ []) {A t : Str} (hA : isHead g A = true) : ph A t = true ↔ FstS g [A] t := by
  constructor
  · intro hp
    have := h.least (fun A t => decide (isHead g A = true ∧ FstS g [A] t)) (fun p hp t ht => by
      have h1 : FstS g p.2 t := seqS_to (fun A t _ e => (of_decide_eq_true e).2) (hne p hp) ht
      have h2 : isHead g p.1 = true := isHead_iff.2 ⟨p.2, hp⟩
      exact decide_eq_true ⟨h2, fstS_one hp h1⟩) A t hp
    exact (of_decide_eq_true this).2
  · have hD : ∀ {n : Nat} {l x : List Str}, D g n l x → x = [] → seqS g ph l [] = true := fun h0 e => (first_derived h.closed h0).1 e
    have hP : ∀ {n : Nat} {l u : List Str} {t : Str}, Pt g n l u t → u = [] → t ≠ [] → seqS g ph l t = true := by
      intro n l u t h0
      induction h0 with
      | term hh => intro _ _; unfold seqS; rw [hh]; simp
      | @head A a b l u n hm _ ih =>
        intro e ht
        have := h.closed (A, b) hm a (ih e ht)
        unfold seqS
        rw [isHead_iff.2 ⟨b, hm⟩, if_pos rfl, show ph A a = true from this]
        simp [ht]
      | skipT => intro e; cases e
      | @skipH A a b l x u n m hm hd _ ih =>
        intro e ht
        obtain ⟨rfl, rfl⟩ := List.append_eq_nil_iff.1 e
        have h1 := h.closed (A, b) hm [] (hD hd rfl)
        unfold seqS
        rw [isHead_iff.2 ⟨b, hm⟩, if_pos rfl, show ph A [] = true from h1, ih rfl ht]
        simp
    have one : ∀ {t : Str}, seqS g ph [A] t = true → ph A t = true := fun {t} e => by
      unfold seqS at e
      rw [hA, if_pos rfl] at e
      simp only [Bool.or_eq_true, Bool.and_eq_true, seqS, decide_eq_true_eq] at e
      rcases e with e | ⟨e1, rfl⟩
      · exact e.2
      · exact e1
    rintro (⟨ht, n, h0⟩ | ⟨rfl, n, h0⟩)
    · exact one (hP h0 rfl ht)
    · exact one (hD h0 rfl)
/-- First sets with what stands behind. -/
theorem fst_row (hn : ∀ p ∈ g, [] ∉ p.2) {b : Str} (hb : isHead g b = false) (hb0 : b ≠ []) : ∀ {l : List Str} {c : Str}, (∀ s ∈ l, s ≠ []) → (Fst g l b c ↔ FstS g (l ++ [b]) c)
  | [], c, _ => by
    rw [List.nil_append, fstS_term hb hb0]
    constructor
    · rintro (⟨n, h⟩ | ⟨_, h⟩)
      · cases h
      · exact h
    · rintro rfl; exact .inr ⟨⟨0, .nil⟩, rfl⟩
  | s :: l, c, hl => by
    have ih := fst_row hn hb hb0 (l := l) (c := c) (fun x hx => hl x (List.mem_cons_of_mem _ hx))
    have key : Fst g (s :: l) b c ↔ (∃ n, Pt g n (s :: l) [] c) ∨ ((∃ n, D g n (s :: l) []) ∧ c = b) := Iff.rfl
    rw [List.cons_append]
    cases hs : isHead g s with
    | false =>
      rw [fstS_term hs (hl s (List.mem_cons_self ..)), key]
      constructor
      · rintro (⟨n, h⟩ | ⟨⟨n, h⟩, _⟩)
        · have h0 : FstS g [s] c ∨ c = [] := by
            by_cases e : c = []
            · exact .inr e
            · left
              generalize hu : ([] : List Str) = u at h
              cases h with
              | term hh => exact .inl ⟨e, 0, .term hh⟩
              | head hm => exact absurd (isHead_iff.2 ⟨_, hm⟩) (by rw [hs]; simp)
              | skipT => cases hu
              | skipH hm => exact absurd (isHead_iff.2 ⟨_, hm⟩) (by rw [hs]; simp)
          rcases h0 with h0 | rfl
          · exact (fstS_term hs (hl s (List.mem_cons_self ..))).1 h0
          · exfalso
            generalize hu : ([] : List Str) = u at h
            cases h with
            | term hh => exact hl _ (List.mem_cons_self ..) rfl
            | head hm => exact absurd (isHead_iff.2 ⟨_, hm⟩) (by rw [hs]; simp)
            | skipT => cases hu
            | skipH hm => exact absurd (isHead_iff.2 ⟨_, hm⟩) (by rw [hs]; simp)
        · exfalso
          generalize hu : ([] : List Str) = u at h
          cases h with
          | term => cases hu
          | head hm => exact absurd (isHead_iff.2 ⟨_, hm⟩) (by rw [hs]; simp)
      · rintro rfl; exact .inl ⟨0, .term hs⟩
    | true =>
      rw [fstS_head hs, ← ih, key]
      constructor
      · rintro (⟨n, h⟩ | ⟨⟨n, h⟩, rfl⟩)
        · generalize hu : ([] : List Str) = u at h
          cases h with
          | term hh => rw [hs] at hh; cases hh
          | @head _ _ bb _ _ n' hm h =>
            subst hu
            by_cases e : c = []
            · exfalso
              subst e
              rcases h.sym with h1 | ⟨p, hp, h1⟩
              · exact absurd h1 (hn _ hm)
              · exact absurd h1 (hn _ hp)
            · exact .inl ⟨e, .inl ⟨e, _, .head hm h⟩⟩
          | skipT => cases hu
          | skipH hm hd h =>
            obtain ⟨rfl, rfl⟩ := List.append_eq_nil_iff.1 hu.symm
            exact .inr ⟨.inr ⟨rfl, _, D.one hm hd⟩, .inl ⟨_, h⟩⟩
        · obtain ⟨n1, n2, x1, x2, e, _, h1, h2⟩ := D.split (l := [s]) h
          obtain ⟨rfl, rfl⟩ := List.append_eq_nil_iff.1 e.symm
          exact .inr ⟨.inr ⟨rfl, _, h1⟩, .inr ⟨⟨_, h2⟩, rfl⟩⟩
      · rintro (⟨ht, h⟩ | ⟨h1, h2⟩)
        · rcases h with ⟨_, n, h⟩ | ⟨e, _⟩
          · exact .inl ⟨n, h.right⟩
          · exact absurd e ht
        · rcases h1 with ⟨e, _⟩ | ⟨_, n, hd⟩
          · exact absurd rfl e
          · rcases h2 with ⟨m, h⟩ | ⟨⟨m, h⟩, rfl⟩
            · exact .inl ⟨_, by simpa using Pt.skip hd h⟩
            · exact .inr ⟨⟨_, by simpa using hd.append h⟩, rfl⟩
end
end Go.Proofs.YtdejcdmgcckmoaaGreatDoor
