/- A part of the proofs about gocc: F8. -/
import Derived.Test.YtdejcdmgcckmoaaGreatDoorXF7
namespace Go.Proofs.YtdejcdmgcckmoaaGreatDoor
open Go.RowKit Lr

theorem bitF_del (S : Str → Bool) (s : Str) : (fun u => if u = s then none else bitF S u) = bitF fun t => if t = s then false else S t := by
  funext u
  unfold bitF
  by_cases h : u = s <;> simp [h]

/-- The first set of a row of symbols. -/
def seqF (F : Str → Str → Bool) : List Str → Str → Bool
  | [], _ => false
  | s :: rest, t => if t = emptyS then (s :: rest).all (fun x => F x emptyS) else F s t || (F s emptyS && seqF F rest t)
theorem seqF_ne {F : Str → Str → Bool} {t : Str} (ht : t ≠ emptyS) : ∀ (l : List Str) (k : Nat), 1 ≤ k → k ≤ l.length → (∀ i, i + 1 < k → F (l.getD i []) emptyS = true) → (F (l.getD (k - 1) []) emptyS = false ∨ k = l.length) → seqF F l t = (l.take k).any fun s => F s t
  | [], k, h1, h2, _, _ => by simp at h2; omega
  | s :: rest, k, h1, h2, h3, h4 => by
    unfold seqF
    rw [if_neg ht]
    obtain ⟨k, rfl⟩ : ∃ j, k = j + 1 := ⟨k - 1, by omega⟩
    cases k with
    | zero =>
      simp only [List.take_succ_cons, List.take_zero, List.any_cons, List.any_nil, Bool.or_false]
      rcases h4 with h4 | h4
      · simp at h4
        rw [h4]
        simp
      · have : rest = [] := by simpa using h4
        subst this
        simp [seqF]
    | succ k =>
      have h5 := h3 0 (by omega)
      simp at h5
      have ih := seqF_ne ht rest (k + 1) (by omega) (by simpa using h2) (fun i hi => by simpa using h3 (i + 1) (by omega)) (by simpa using h4)
      rw [h5, ih, List.take_succ_cons (i := k + 1)]
      simp
theorem seqF_no {F : Str → Str → Bool} {l : List Str} {k : Nat} (hk : k < l.length) (h : F (l.getD k []) emptyS = false) : seqF F l emptyS = false := by
  cases l with
  | nil => rfl
  | cons s rest =>
    unfold seqF
    rw [if_pos rfl]
    cases ha : (s :: rest).all fun x => F x emptyS with
    | false => rfl
    | true =>
      rw [List.all_eq_true] at ha
      have hm : (s :: rest).getD k [] ∈ s :: rest := by
        rw [List.getD_eq_getElem?_getD, List.getElem?_eq_getElem hk]
        exact List.getElem_mem hk
      rw [ha _ hm] at h
      cases h
theorem seqF_yes {F : Str → Str → Bool} {l : List Str} (hl : 0 < l.length) (h : ∀ i, i < l.length → F (l.getD i []) emptyS = true) : seqF F l emptyS = true := by
  cases l with
  | nil => simp at hl
  | cons s rest =>
    unfold seqF
    rw [if_pos rfl, List.all_eq_true]
    intro x hx
    obtain ⟨i, hi, rfl⟩ := List.getElem_of_mem hx
    have := h i hi
    rw [List.getD_eq_getElem?_getD, List.getElem?_eq_getElem hi] at this
    exact this
theorem any_take {F : Str → Bool} {l : List Str} {k : Nat} (hk : k < l.length) : (l.take (k + 1)).any F = ((l.take k).any F || F l[k]) := by
  rw [List.take_add_one, List.any_append]
  simp [hk]
/-- What the loop has come to when it ends. -/
theorem seqF_end {F : Str → Str → Bool} {l : List Str} {k : Nat} (h1 : 1 ≤ k) (h2 : k ≤ l.length) (h3 : ∀ i, i + 1 < k → F (l.getD i []) emptyS = true) :
    (F (l.getD (k - 1) []) emptyS = false → (fun t => if t = emptyS then false else (l.take k).any fun s => F s t) = seqF F l) ∧ (F (l.getD (k - 1) []) emptyS = true → k = l.length → (fun t => (l.take k).any fun s => F s t) = seqF F l) := by
  refine ⟨fun h => funext fun t => ?_, fun h hk => funext fun t => ?_⟩
  · by_cases ht : t = emptyS
    · subst ht
      rw [if_pos rfl, seqF_no (k := k - 1) (by omega) h]
    · rw [if_neg ht, seqF_ne ht l k h1 h2 h3 (.inl h)]
  · by_cases ht : t = emptyS
    · subst ht
      have hall : ∀ i, i < l.length → F (l.getD i []) emptyS = true := fun i hi => by
        by_cases e : i + 1 < k
        · exact h3 i e
        · have : i = k - 1 := by omega
          rw [this]; exact h
      rw [seqF_yes (by omega) hall, List.any_eq_true]
      refine ⟨l[0], ?_, ?_⟩
      · have ht : List.take k l = l := List.take_of_length_le (by omega)
        rw [ht]; exact List.getElem_mem _
      · have := hall 0 (by omega)
        rw [List.getD_eq_getElem?_getD, List.getElem?_eq_getElem (by omega)] at this
        exact this
    · rw [seqF_ne ht l k h1 h2 h3 (.inr hk)]

set_option maxRecDepth 20000 in
set_option maxHeartbeats 2000000 in
theorem FirstS_any {w : World} {B p M n ps Bs m1 m2 m3 ns : Nat} {r2 r4 r5 v : Value} {tm nt nk : List Str} {sg : Str → Option (Nat × (Str → Bool))} (h : FsSt w B p M (.pointer (some ⟨ps, 0, none⟩)) sg n) (st : SymSt w Bs ps m1 m2 m3 r2 r4 r5 tm nt nk ns)
    (l : List Str) (hv : StrsAt w v l) (h0 : 0 < l.length) (hl : l.length ≤ 1000) (hs : ∀ s ∈ l, s.length ≤ 1000000) (hn : n ≤ 1000000000) :
    Calls Tryz.prog 133 #[.pointer (some ⟨p, 0, none⟩), v] w fun e w' => ∃ m n', e = .returned (.map (some m)) ∧ SetF w' m n' (seqF (firstF sg nk) l) ∧ w.heap.size ≤ m ∧ New w w' ∧ n' ≤ 1001 * (n + 1) := by
  obtain ⟨a, cap, rfl⟩ := hv.slice
  have hmm := @run_makeMap Tryz.prog
  have hsub : ∀ A q, sg A = some q → q.1 < w.heap.size := fun A q e => (h.set A q e).lt
  have hnew : SetF (w.alloc (.map #[] 0)) w.heap.size 0 (fun _ => false) := MapF.made w
  have hn1 : New w (w.alloc (.map #[] 0)) := (New.refl w).alloc _
  obtain ⟨b, o, e, c1⟩ := (hv.new hn1).elem h0
  cases e
  rw [Nat.add_zero] at c1
  have hqF := Lib.hid (fun (w' : World) (hnw : New w w') (s : Str) (hs : s.length ≤ 1000000) => First_any (h.new hnw) (st.new hnw) s hs)
  have HV := Lib.hid (And.intro hv hs)
  have HS := Lib.hid hsub
  have hsz1 : (w.alloc (.map #[] 0)).heap.size = w.heap.size + 1 := by simp
  have HSZ := Lib.hid hsz1
  clear hv hs hsub h st hsz1
  generalize hF : firstF sg nk = F at *
  clear hF
  go_enter Tryz.func133, Tryz.ntmps133
  go_wp2_with fail
  generalize hw1 : w.alloc (.map #[] 0) = w1 at *
  clear hw1
  refine (hqF.out w1 hn1 l[0] (HV.out.2 _ (List.getElem_mem h0))).mono ?_
  rintro e w2 ⟨v1, rfl, hv1, hb1, hn2⟩
  have hb1' : ∀ b, v1 = .map (some b) → b ≠ w.heap.size := fun b e => by
    rcases hb1 b e with ⟨A, q, h1, rfl⟩ | h1
    · have := HS.out A q h1; omega
    · have := HSZ.out; omega
  have HB1 := Lib.hid hb1'
  have hnew2 := hnew.new hn2
  have hn12 := hn1.trans hn2
  clear hb1 hb1' hnew hn1 hn2 c1
  go_wp2_with fail
  refine (SAddSet_any hnew2 hv1 HB1.out (by omega)).mono ?_
  rintro e w3 ⟨rfl, hS3, hg3⟩
  have hv3 := hv1.kept hg3 (fun b e e2 => HB1.out b e (by injection e2))
  have hn3 : New w w3 := Below.grown hn12 hg3 hn12.size (fun k hk => by injection hk with hk; omega)
  have hbit := bitF_some (F l[0]) emptyS
  obtain ⟨ok, hok⟩ : ∃ ok, F l[0] emptyS = ok := ⟨_, rfl⟩
  rw [hok] at hbit
  have HOK := Lib.hid hok
  have e3 : (fun t => false || F l[0] t) = fun t => (l.take 1).any fun s => F s t := by
    funext t
    rw [any_take h0]; simp
  rw [e3] at hS3
  have HE := Lib.hid (And.intro hS3 hn3)
  clear hv1 hg3 hnew2 hn12 hmm e3 hok hS3 hn3
  go_wp2_with (first | (at_lookup; refine wpList_vlook_ok _ rfl _ _ 82 4 rfl Tryz.underlying9 Tryz.underlying82 (z4 _) v1 (n + 1) (bitF (F l[0])) rfl hv3 emptyS rfl (by decide) ?_; rw [hbit]))
  go_loopg [7, 8] l.length (fun gk u7 u8 wr => ∃ (k n' : Nat), 1 ≤ k ∧ k ≤ l.length ∧ l.length - k ≤ gk ∧ u7 = .bool (F (l.getD (k - 1) []) emptyS) ∧ u8 = .int .i64 k ∧ SetF wr w.heap.size n' (fun t => (l.take k).any fun s => F s t) ∧ n' ≤ k * (n + 1) ∧ (∀ i, i + 1 < k → F (l.getD i []) emptyS = true) ∧ New w wr)
  case atStart =>
    refine ⟨1, 0 + (n + 1), Nat.le_refl _, h0, by omega, ?_, rfl, HE.out.1, by omega, fun i hi => by omega, HE.out.2⟩
    have := HOK.out
    rw [← this]
    cases l with
    | nil => simp at h0
    | cons a r => rfl
  case round =>
    clear hv3 hbit
    obtain ⟨k, n', hk1, hk, hgk, rfl, rfl, hS, hn', hall, hnw⟩ := hrel
    have hend := seqF_end (F := F) hk1 hk hall
    have HEND := Lib.hid hend
    have HALL := Lib.hid hall
    have hnn : k * (n + 1) ≤ 1000 * (n + 1) := Nat.mul_le_mul_right _ (by omega)
    have hsz := hnw.size
    clear hend hall
    cases hok : F (l.getD (k - 1) []) emptyS with
    | false =>
      have HOK := Lib.hid hok
      clear hok
      by_cases hlt : k < l.length
      · go_wp2_with (at_delete; refine wpList_mdel _ rfl _ _ 82 4 rfl Tryz.underlying9 Tryz.underlying82 w.heap.size n' _ rfl hS emptyS rfl (by decide) ?_)
        intro w5 hS5 hg5
        rw [bitF_del, HEND.out.1 HOK.out] at hS5
        go_wp2
        go_ret
        exact ⟨w.heap.size, n', rfl, hS5, Nat.le_refl _, Below.grown hnw hg5 hsz (fun k hk => by injection hk with hk; omega), by omega⟩
      · go_wp2_with (at_delete; refine wpList_mdel _ rfl _ _ 82 4 rfl Tryz.underlying9 Tryz.underlying82 w.heap.size n' _ rfl hS emptyS rfl (by decide) ?_)
        intro w5 hS5 hg5
        rw [bitF_del, HEND.out.1 HOK.out] at hS5
        go_wp2
        go_ret
        exact ⟨w.heap.size, n', rfl, hS5, Nat.le_refl _, Below.grown hnw hg5 hsz (fun k hk => by injection hk with hk; omega), by omega⟩
    | true =>
      have HOK := Lib.hid hok
      clear hok
      by_cases hlt : k < l.length
      · obtain ⟨b2, o2, e2, c1⟩ := (HV.out.1.new hnw).elem hlt
        cases e2
        go_wp2_with fail
        refine (hqF.out wr hnw l[k] (HV.out.2 _ (List.getElem_mem hlt))).mono ?_
        rintro e w2 ⟨v2, rfl, hv2, hb2, hn2⟩
        have hSlt := hS.lt
        have hb2' : ∀ b, v2 = .map (some b) → b ≠ w.heap.size := fun b e => by
          rcases hb2 b e with ⟨A, q, h1, rfl⟩ | h1
          · have := HS.out A q h1; omega
          · omega
        have HB2 := Lib.hid hb2'
        have hS2 := hS.new hn2
        have hnw2 := hnw.trans hn2
        clear hb2 hb2' hS c1
        go_wp2_with fail
        refine (SAddSet_any hS2 hv2 HB2.out (by omega)).mono ?_
        rintro e w3 ⟨rfl, hS3, hg3⟩
        have hv3 := hv2.kept hg3 (fun b e e2 => HB2.out b e (by injection e2))
        have hn3 : New w w3 := Below.grown hnw2 hg3 hnw2.size (fun k hk => by injection hk with hk; omega)
        have hbit := bitF_some (F l[k]) emptyS
        have hgd : l.getD (k + 1 - 1) [] = l[k] := by simp [List.getD, hlt]
        have HG := Lib.hid hgd
        have e3 : (fun t => ((l.take k).any fun s => F s t) || F l[k] t) = fun t => (l.take (k + 1)).any fun s => F s t := by
          funext t
          rw [any_take hlt]
        rw [e3] at hS3
        have HE := Lib.hid (And.intro hS3 hn3)
        clear hv2 hg3 hnw2 hn2 e3 hS3 hn3 hgd hS2
        go_wp2_with (first | (at_lookup; refine wpList_vlook_ok _ rfl _ _ 82 4 rfl Tryz.underlying9 Tryz.underlying82 (z4 _) v2 (n + 1) (bitF (F l[k])) rfl hv3 emptyS rfl (by decide) ?_))
        go_roundg (l.length - (k + 1))
        case measure => omega
        case rel =>
          refine ⟨k + 1, n' + (n + 1), by omega, by omega, Nat.le_refl _, by rw [HG.out], by go_num, HE.out.1, ?_, ?_, HE.out.2⟩
          · rw [Nat.succ_mul]; omega
          · intro i hi
            by_cases e : i + 1 < k
            · exact HALL.out i e
            · have : i = k - 1 := by omega
              rw [this]; exact HOK.out
      · go_wp2
        go_ret
        rw [HEND.out.2 HOK.out (by omega)] at hS
        exact ⟨w.heap.size, n', rfl, hS, Nat.le_refl _, hnw, by omega⟩
end Go.Proofs.YtdejcdmgcckmoaaGreatDoor
