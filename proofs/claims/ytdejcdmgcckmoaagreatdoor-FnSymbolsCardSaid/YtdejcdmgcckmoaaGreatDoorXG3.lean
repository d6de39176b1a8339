/- A part of the proofs about gocc: G3. -/
import Derived.Test.YtdejcdmgcckmoaaGreatDoorXS8
import Derived.Test.YtdejcdmgcckmoaaGreatDoorXG2
namespace Go.Proofs.YtdejcdmgcckmoaaGreatDoor
open Go.RowKit Lr

/-- The terminals as the package lists them. -/
def termsL (g : Gram) : List Str := (typesA (augP g) [invalidS, eofS]).filter fun s => !has (headsA (augP g)) s
theorem mem_addTo {l : List Str} {s t : Str} : t ∈ addTo l s ↔ t ∈ l ∨ t = s := by
  unfold addTo
  split
  · rename_i h
    rw [has_iff] at h
    exact ⟨.inl, fun e => e.elim id fun e => e ▸ h⟩
  · simp
theorem mem_bodyA {l : List Sy} {t0 : List Str} {t : Str} : t ∈ l.foldl (fun t s => addTo t s.str) t0 ↔ t ∈ t0 ∨ ∃ y ∈ l, t = y.str := by
  induction l generalizing t0 with
  | nil => simp
  | cons y l ih =>
    rw [List.foldl_cons, ih, mem_addTo]
    simp only [List.mem_cons]
    constructor
    · rintro ((h | h) | ⟨z, hz, h⟩)
      · exact .inl h
      · exact .inr ⟨y, .inl rfl, h⟩
      · exact .inr ⟨z, .inr hz, h⟩
    · rintro (h | ⟨z, rfl | hz, h⟩)
      · exact .inl (.inl h)
      · exact .inl (.inr h)
      · exact .inr ⟨z, hz, h⟩
theorem mem_typesA {L : List AP} {t0 : List Str} {t : Str} : t ∈ typesA L t0 ↔ t ∈ t0 ∨ ∃ p ∈ L, t = p.1 ∨ ∃ y ∈ p.2, t = y.str := by
  induction L generalizing t0 with
  | nil => simp [typesA]
  | cons q L ih =>
    have ih := @ih (q.2.foldl (fun t s => addTo t s.str) (addTo t0 q.1))
    simp only [typesA, List.foldl_cons] at ih ⊢
    rw [ih, mem_bodyA, mem_addTo]
    simp only [List.mem_cons]
    constructor
    · rintro (((h | h) | h) | ⟨z, hz, h⟩)
      · exact .inl h
      · exact .inr ⟨q, .inl rfl, .inl h⟩
      · exact .inr ⟨q, .inl rfl, .inr h⟩
      · exact .inr ⟨z, .inr hz, h⟩
    · rintro (h | ⟨z, rfl | hz, h⟩)
      · exact .inl (.inl (.inl h))
      · rcases h with h | h
        · exact .inl (.inl (.inr h))
        · exact .inl (.inr h)
      · exact .inr ⟨z, hz, h⟩
theorem mem_headsA {L : List AP} {t : Str} : t ∈ headsA L ↔ ∃ p ∈ L, t = p.1 := by
  have : ∀ (L : List AP) (t0 : List Str), t ∈ L.foldl (fun t p => addTo t p.1) t0 ↔ t ∈ t0 ∨ ∃ p ∈ L, t = p.1 := by
    intro L
    induction L with
    | nil => simp
    | cons q L ih =>
      intro t0
      rw [List.foldl_cons, ih, mem_addTo]
      simp only [List.mem_cons]
      constructor
      · rintro ((h | h) | ⟨z, hz, h⟩)
        · exact .inl h
        · exact .inr ⟨q, .inl rfl, h⟩
        · exact .inr ⟨z, .inr hz, h⟩
      · rintro (h | ⟨z, rfl | hz, h⟩)
        · exact .inl (.inl h)
        · exact .inl (.inr h)
        · exact .inr ⟨z, hz, h⟩
  rw [headsA, this]
  simp
theorem types_fit {g : Gram} (hm : Sm g) : ∀ s ∈ typesA (augP g) [invalidS, eofS], s.length ≤ 1000000 := by
  intro s hs
  rcases mem_typesA.1 hs with h | ⟨p, hp, h⟩
  · simp only [List.mem_cons, List.not_mem_nil, or_false] at h
    rcases h with rfl | rfl <;> decide
  · have := augP_fit hm p hp
    rcases h with rfl | ⟨y, hy, rfl⟩
    · omega
    · have := this.2.2 y hy; omega
theorem types_len {g : Gram} (hm : Sm g) : (typesA (augP g) [invalidS, eofS]).length ≤ 1000 := by
  have h := typesA_len (augP g) [invalidS, eofS] 20 (fun p hp => (augP_fit hm p hp).2.1)
  have h2 : (augP g).length ≤ 13 := by have := hm.len; simp [augP]; omega
  have h3 := Nat.mul_le_mul_right 21 h2
  simp only [List.length_cons, List.length_nil] at h
  omega

set_option maxRecDepth 20000 in
set_option maxHeartbeats 2000000 in
theorem Symbols_any (v : Value) (g : Gram) (w : World) (h : GramAt w v g) (hm : Sm g) :
    Calls Tryz.prog 13 #[v] w fun e w' => ∃ v1 v2, e = .returned (.tuple #[v1, v2, .bool true]) ∧ StrsAt w' v1 ((termsL g).map toldS) ∧ StrsAt w' v2 (headsA (augP g)) ∧ New w w' := by
  obtain ⟨a, cap, rfl⟩ := h.slice
  have hq1 := Lib.hid (right_any _ g w h hm)
  have HG := Lib.hid (And.intro h hm)
  have hh1 : 0 < (headsA (augP g)).length := by
    have : startS ∈ headsA (augP g) := mem_headsA.2 ⟨_, List.mem_cons_self .., rfl⟩
    exact List.length_pos_of_mem this
  have hh2 : (headsA (augP g)).length ≤ 1000 := by
    have := headsA_len (augP g)
    have := hm.len
    have : (augP g).length ≤ 13 := by simp [augP]; omega
    omega
  clear h
  go_enter Tryz.func13, Tryz.ntmps13
  go_wp2_with fail
  refine hq1.out.mono ?_
  rintro e w1 ⟨rfl, hn1⟩
  go_wp2_with fail
  refine (built_any _ g w1 (HG.out.1.new hn1) HG.out.2).mono ?_
  rintro e w2 ⟨x, p, fp, rfl, hb, hn2⟩
  obtain ⟨B, m1, m2, m3, r2, r4, r5, ns, B', M, sg, n, _, hst, _⟩ := hb
  have HST := Lib.hid hst
  have hnw2 := hn1.trans hn2
  clear hst
  go_wp2_with fail
  refine (ListTerminals_any HST.out (types_fit HG.out.2) (by have := types_len HG.out.2; omega)).mono ?_
  rintro e w3 ⟨v3, rfl, hv3, hn3⟩
  have hv3 : StrsAt w3 v3 (termsL g) := hv3
  have hlen3 : (termsL g).length ≤ 1000 := Nat.le_trans (List.length_filter_le _ _) (types_len HG.out.2)
  obtain ⟨T, hT⟩ : ∃ T, T = termsL g := ⟨_, rfl⟩
  rw [← hT] at hv3 hlen3
  have HTE := Lib.hid hT
  clear hT
  obtain ⟨a3, c3, rfl⟩ := hv3.slice
  have hnw3 := hnw2.trans hn3
  have HV3 := Lib.hid (And.intro hv3 (HST.out.new hn3))
  clear hv3 hnw2
  go_wp2_with fail
  go_loopg [8, 23] T.length (fun gk v8 i wr => ∃ k, k ≤ T.length ∧ gk = T.length - k ∧ i = .int .i64 k ∧ Strs wr w3.heap.size v8 ((T.take k).map toldS) ∧ New w3 wr)
  case atStart => exact ⟨0, Nat.zero_le _, rfl, rfl, ⟨rfl, .inl ⟨rfl, rfl⟩⟩, New.refl _⟩
  case round =>
    obtain ⟨k, hk, rfl, rfl, hown, hn⟩ := hrel
    have hB := hn.size
    by_cases hlt : k < T.length
    · obtain ⟨b, o, e, c1⟩ := (HV3.out.1.new hn).elem hlt
      cases e
      have htk : (T.take (k + 1)).map toldS = (T.take k).map toldS ++ [toldS T[k]] := by
        rw [List.take_add_one, List.map_append]; simp [hlt]
      have HT := Lib.hid htk
      have htl := List.length_take_le k T
      have hml : ((T.take k).map toldS).length = (T.take k).length := List.length_map ..
      have hml2 : ((T.take k).map toldS).length ≤ 1000 := by omega
      clear htk hml
      generalize (T.take k).map toldS = R at *
      go_wp2_with (first | (go_at_call 52; refine (told_any _ _).mono ?_; rintro e w' ⟨rfl, rfl⟩) | (at_builtin; go_must (refine wpList_push _ rfl _ _ _ _ rfl T24 w3.heap.size _ _ _ rfl hown [_] rfl rfl _ _ rfl (by simp) (by omega) (by omega) (by omega) ?_)))
      intro v' w4 hown4 hgrow hne hat
      have hn4 : New w3 w4 := Below.push hn hown hgrow (by omega)
      have hown5 := Strs.push hown4
      clear hgrow hown hown4
      go_wp2
      go_roundg (T.length - (k + 1))
      case measure => omega
      case rel => exact ⟨k + 1, by omega, rfl, by go_num, by rw [HT.out]; exact hown5, hn4⟩
    · have ht : T.take k = T := List.take_of_length_le (by omega)
      rw [ht] at hown
      have hat := hown.at
      obtain ⟨a8, k8, rfl⟩ := owns_slice hown
      have HA := Lib.hid hat
      clear hat hown ht
      go_wp2_with fail
      refine (NTList_any (HV3.out.2.new hn)).mono ?_
      rintro e w4 ⟨rfl, rfl⟩
      go_wp2_with fail
      refine (Clone_str r2 _ wr (HV3.out.2.new hn).ntr.at hh1 (by omega)).mono ?_
      rintro e w5 ⟨v5, rfl, hv5, hn5⟩
      go_wp2_with fail
      go_ret3
      have hfin := HA.out.new hn5
      rw [List.length_map, HTE.out] at hfin
      rw [HTE.out]
      exact ⟨_, v5, rfl, hfin, hv5, (hnw3.trans hn).trans hn5⟩
end Go.Proofs.YtdejcdmgcckmoaaGreatDoor
