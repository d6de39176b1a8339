/- A part of the proofs about gocc: W10. -/
import Derived.Test.YtdejcdmgcckmoaaGreatDoorXW9
namespace Go.Proofs.YtdejcdmgcckmoaaGreatDoor
open Go.RowKit Lr

/-- What has been asked of the productions ahead of the k-th. -/
structure Pre (g : Gram) (k : Nat) : Prop where
  pos : 0 < g.length
  len : g.length ≤ 12
  each : ∀ j, (hj : j < g.length) → j < k → symbolOkB g[j].1 = true ∧ greatB g[j].1 = true ∧ g[j].2.length ≤ 4 ∧ (∀ s ∈ g[j].2, symbolOkB s = true ∧ (greatB s = true → isHead g s = true)) ∧ (g.take j).any (fun p => p.1 == g[j].1 && p.2 == g[j].2) = false

theorem Pre.sm {g : Gram} (h : Pre g g.length) : Sm g := by
  have each : ∀ p ∈ g, symbolOkB p.1 = true ∧ greatB p.1 = true ∧ p.2.length ≤ 4 ∧ ∀ s ∈ p.2, symbolOkB s = true ∧ (greatB s = true → isHead g s = true) := by
    intro p hp
    obtain ⟨j, hj, rfl⟩ := List.getElem_of_mem hp
    obtain ⟨h1, h2, h3, h4, _⟩ := h.each j hj hj
    exact ⟨h1, h2, h3, h4⟩
  refine ⟨h.pos, h.len, fun p hp => (each p hp).2.2.1, fun p hp => ⟨(each p hp).1, (each p hp).2.1⟩, fun p hp s hs => ((each p hp).2.2.2 s hs).1, fun p hp s hs => ((each p hp).2.2.2 s hs).2, ?_⟩
  unfold List.Nodup
  rw [List.pairwise_iff_getElem]
  intro i j hi hj hij e
  have := (h.each j hj hj).2.2.2.2
  rw [List.any_eq_false] at this
  refine this g[i] ?_ (by simp [e])
  rw [List.mem_take_iff_getElem]
  exact ⟨i, by omega, rfl⟩

def GOkB (g : Gram) (w : World) (e : Ending) (w' : World) : Prop := ∃ b, e = .returned (.bool b) ∧ (b = true → GOk g) ∧ New w w'
theorem GOkB.no {g : Gram} {w w' : World} (h : New w w') : GOkB g w (.returned (.bool false)) w' := ⟨false, rfl, fun e => absurd e (by decide), h⟩

theorem GramAt.take {w : World} {a : Option Addr} {n cap : Nat} {g : Gram} (h : GramAt w (.slice a n cap) g) (k : Nat) (hk : k ≤ g.length) : GramAt w (.slice a k cap) (g.take k) := by
  obtain ⟨a1, cap1, e, h1, hc⟩ := h
  cases e
  have hl : (g.take k).length = k := by rw [List.length_take]; omega
  refine ⟨a, cap, by rw [hl], by omega, fun h0 => ?_⟩
  obtain ⟨b, o, rfl, hcc⟩ := hc (by omega)
  refine ⟨b, o, rfl, fun j hj => ?_⟩
  rw [hl] at hj
  have := hcc j (by omega)
  have e : (g.take k).getD j default = g.getD j default := by
    simp only [List.getD_eq_getElem?_getD]; rw [List.getElem?_take_of_lt hj]
  rw [e]; exact this

theorem pre_step {g : Gram} {k : Nat} (hp : Pre g k) (hk : k < g.length) (h1 : symbolOkB g[k].1 = true) (h2 : greatB g[k].1 = true) (h3 : g[k].2.length ≤ 4)
    (h4 : ∀ s ∈ g[k].2, symbolOkB s = true ∧ (greatB s = true → isHead g s = true)) (h5 : (g.take k).any (fun p => p.1 == g[k].1 && p.2 == g[k].2) = false) : Pre g (k + 1) := by
  refine ⟨hp.pos, hp.len, fun j hj hlt => ?_⟩
  by_cases e : j = k
  · subst e; exact ⟨h1, h2, h3, h4, h5⟩
  · exact hp.each j hj (by omega)
theorem pre_more {P : Str → Prop} {l : List Str} {m : Nat} (h : ∀ j, (hj : j < l.length) → j < m → P l[j]) (h2 : ∀ hj : m < l.length, P l[m]) : ∀ j, (hj : j < l.length) → j < m + 1 → P l[j] := by
  intro j hj hlt
  by_cases e : j = m
  · subst e; exact h2 hj
  · exact h j hj (by omega)

set_option maxRecDepth 20000 in
set_option maxHeartbeats 4000000 in
theorem GrammarOk_any (v : Value) (g : Gram) (w : World) (h : GramAt w v g) (hf : Fits g) :
    Calls Tryz.prog 12 #[v] w (GOkB g w) := by
  obtain ⟨a, cap, rfl⟩ := h.slice
  by_cases h0 : g.length = 0
  · have e0 : ((g.length : Int) == 0) = true := by simp [h0]
    clear h0
    go_enter Tryz.func12, Tryz.ntmps12
    go_wp2
    go_ret
    exact GOkB.no (New.refl _)
  · have e0 : ((g.length : Int) == 0) = false := by rw [beq_eq_false_iff_ne]; omega
    by_cases h12 : 12 < g.length
    · clear h0
      go_enter Tryz.func12, Tryz.ntmps12
      go_wp2
      go_ret
      exact GOkB.no (New.refl _)
    · have hpos : 0 < g.length := by omega
      have hlen : g.length ≤ 12 := by omega
      clear h0 h12
      go_enter Tryz.func12, Tryz.ntmps12
      go_wp2
      go_loopw [17] (fun i wr => ∃ k : Nat, k ≤ g.length ∧ i = .int .i64 k ∧ Pre g k ∧ New w wr) (fun i _ => g.length - (intOf i).toNat)
      case atStart => exact ⟨0, Nat.zero_le _, rfl, ⟨hpos, hlen, fun j _ h => absurd h (Nat.not_lt_zero _)⟩, New.refl _⟩
      case round =>
        obtain ⟨k, hk, rfl, hp, hb⟩ := hrel
        by_cases hlt : k < g.length
        · obtain ⟨wo, rfl⟩ : ∃ wo : World, wo = wr := ⟨_, rfl⟩
          obtain ⟨b', o', a', cap', e', h1, h2, h3⟩ := h.elem hlt
          cases e'
          have c1 := hb.cell h1
          have c2 := hb.cell h2
          have hmem := List.getElem_mem hlt
          have hW : New wo (wo.alloc (.cells #[sv g[k].1, .slice a' g[k].2.length cap'] 67)) := (New.refl _).alloc _
          have hfh := hf.head _ hmem
          have hfb := hf.body _ hmem
          have hfs := hf.syms _ hmem
          have hq := Lib.hid (symbolOk_any g[k].1 (wo.alloc (.cells #[sv g[k].1, .slice a' g[k].2.length cap'] 67)) hfh)
          cases hs : symbolOkB g[k].1 with
          | false =>
            rw [hs] at hq
            clear h h1 h2 hs
            go_wp2_with (first | (go_at_call 42; refine hq.out.mono ?_; rintro e w' ⟨rfl, rfl⟩))
            go_ret
            exact GOkB.no (hb.trans hW)
          | true =>
            rw [hs] at hq
            have hq2 := Lib.hid (great_any g[k].1 (wo.alloc (.cells #[sv g[k].1, .slice a' g[k].2.length cap'] 67)) (symbolOk_pos hs))
            cases hg : greatB g[k].1 with
            | false =>
              rw [hg] at hq2
              clear h h1 h2 hs hg
              go_wp2_with (first | (go_at_call 42; refine hq.out.mono ?_; rintro e w' ⟨rfl, rfl⟩) | (go_at_call 43; refine hq2.out.mono ?_; rintro e w' ⟨rfl, rfl⟩))
              go_ret
              exact GOkB.no (hb.trans hW)
            | true =>
              rw [hg] at hq2
              have Hs := Lib.hid hs
              have Hg := Lib.hid hg
              clear hs hg
              by_cases h4 : 4 < g[k].2.length
              · clear h h1 h2
                go_wp2_with (first | (go_at_call 42; refine hq.out.mono ?_; rintro e w' ⟨rfl, rfl⟩) | (go_at_call 43; refine hq2.out.mono ?_; rintro e w' ⟨rfl, rfl⟩))
                go_ret
                exact GOkB.no (hb.trans hW)
              · have h4' : g[k].2.length ≤ 4 := by omega
                clear h4
                have hb1 := hb.trans hW
                have p1 : (wo.alloc (.cells #[sv g[k].1, .slice a' g[k].2.length cap'] 67)).cell? ⟨wo.heap.size, 0, none⟩ = some (sv g[k].1) := by simp
                have p2 : (wo.alloc (.cells #[sv g[k].1, .slice a' g[k].2.length cap'] 67)).cell? ⟨wo.heap.size, 1, none⟩ = some (.slice a' g[k].2.length cap') := by simp
                have h3' := (h3.new hb).new hW
                have hg' := h.new hb1
                clear h1 h2
                go_wp2_with (first | (go_at_call 42; refine hq.out.mono ?_; rintro e w' ⟨rfl, rfl⟩) | (go_at_call 43; refine hq2.out.mono ?_; rintro e w' ⟨rfl, rfl⟩))
                clear hq hq2 c1 c2
                go_loopw [41] (fun i wr => ∃ m : Nat, m ≤ g[k].2.length ∧ i = .int .i64 m ∧ Hid (∀ j, (hj : j < g[k].2.length) → j < m → symbolOkB g[k].2[j] = true ∧ (greatB g[k].2[j] = true → isHead g g[k].2[j] = true)) ∧ New (wo.alloc (.cells #[sv g[k].1, .slice a' g[k].2.length cap'] 67)) wr)
                  (fun i _ => g[k].2.length - (intOf i).toNat)
                case atStart => exact ⟨0, Nat.zero_le _, rfl, fun j _ h => absurd h (Nat.not_lt_zero _), New.refl _⟩
                case round =>
                  obtain ⟨m, hmm, rfl, hd, hn⟩ := hrel
                  by_cases hml : m < g[k].2.length
                  · obtain ⟨b2, o2, rfl, h5⟩ := h3'.elem hml
                    have c3 := hn.cell h5
                    have hb2 := hb1.trans hn
                    have hq := Lib.hid (symbolOk_any g[k].2[m] wr (hfs _ (List.getElem_mem hml)))
                    cases hs : symbolOkB g[k].2[m] with
                    | false =>
                      rw [hs] at hq
                      clear h5 hs
                      go_wp2_with (first | (go_at_call 42; refine hq.out.mono ?_; rintro e w' ⟨rfl, rfl⟩))
                      go_ret
                      exact GOkB.no hb2
                    | true =>
                      rw [hs] at hq
                      have hq2 := Lib.hid (great_any g[k].2[m] wr (symbolOk_pos hs))
                      have hemp : (g[k].2[m] == [101, 109, 112, 116, 121]) = false := by
                        rw [beq_eq_false_iff_ne]; intro e
                        have := symbolOk_le hs
                        rw [e] at this
                        simp at this
                      cases hg : greatB g[k].2[m] with
                      | false =>
                        rw [hg] at hq2
                        have Hg := Lib.hid (And.intro hs hg)
                        clear h5 hs hg
                        go_wp2_with (first | (go_at_call 42; refine hq.out.mono ?_; rintro e w' ⟨rfl, rfl⟩) | (go_at_call 43; refine hq2.out.mono ?_; rintro e w' ⟨rfl, rfl⟩))
                        go_roundw
                        case rel => exact ⟨m + 1, by omega, by go_num, Lib.hid (pre_more (P := fun s => symbolOkB s = true ∧ (greatB s = true → isHead g s = true)) hd.out (fun _ => ⟨Hg.out.1, fun e => by rw [Hg.out.2] at e; cases e⟩)), hn⟩
                        case measure => simp [intOf]; omega
                      | true =>
                        rw [hg] at hq2
                        have hq3 := Lib.hid (isHead_any _ g g[k].2[m] wr (hg'.new hn) (by omega))
                        cases hi : isHead g g[k].2[m] with
                        | false =>
                          rw [hi] at hq3
                          clear h5 hs hg hi
                          go_wp2_with (first | (go_at_call 42; refine hq.out.mono ?_; rintro e w' ⟨rfl, rfl⟩) | (go_at_call 43; refine hq2.out.mono ?_; rintro e w' ⟨rfl, rfl⟩) | (go_at_call 44; refine hq3.out.mono ?_; rintro e w1 ⟨rfl, hn1⟩))
                          go_ret
                          exact GOkB.no (hb2.trans hn1)
                        | true =>
                          rw [hi] at hq3
                          have Hg := Lib.hid (And.intro hs hi)
                          clear h5 hs hg hi
                          go_wp2_with (first | (go_at_call 42; refine hq.out.mono ?_; rintro e w' ⟨rfl, rfl⟩) | (go_at_call 43; refine hq2.out.mono ?_; rintro e w' ⟨rfl, rfl⟩) | (go_at_call 44; refine hq3.out.mono ?_; rintro e w1 ⟨rfl, hn1⟩))
                          go_roundw
                          case rel => exact ⟨m + 1, by omega, by go_num, Lib.hid (pre_more (P := fun s => symbolOkB s = true ∧ (greatB s = true → isHead g s = true)) hd.out (fun _ => ⟨Hg.out.1, fun _ => Hg.out.2⟩)), hn.trans hn1⟩
                          case measure => simp [intOf]; omega
                  · have q1 := hn.cell p1
                    have q2 := hn.cell p2
                    have hcap := (h.cap).2
                    have hb2 := hb1.trans hn
                    have hq := Lib.hid (ContainsFunc_prod _ (g.take k) wr ((h.new hb2).take k hk) (by simp; omega) 46 #[.pointer (some ⟨wo.heap.size, 0, none⟩)] (fun p => p.1 == g[k].1 && p.2 == g[k].2) enters46
                      (fun j hj w' a'' cap'' hn' hst => Grammar1_any _ g[k].1 _ g[k].2 a'' a' cap'' cap' wo.heap.size w' (hn'.cell q1) (hn'.cell q2) hst ((h3'.new hn).new hn')
                        (by have hjk : j < k := by { simp at hj; omega }
                            have hjl : j < g.length := by omega
                            have := (hp.each j hjl hjk).2.2.1
                            simp only [List.getElem_take]; omega) (by omega)))
                    have hP := Lib.hid (pre_step hp hlt Hs.out Hg.out h4' (fun s hs => by obtain ⟨j, hj, rfl⟩ := List.getElem_of_mem hs; exact hd.out j hj (by omega)))
                    clear q1 q2 hg' h3'
                    cases ha : (g.take k).any (fun p => p.1 == g[k].1 && p.2 == g[k].2) with
                    | true =>
                      rw [ha] at hq
                      clear ha
                      go_wp2_with (first | (go_at_call 45; refine hq.out.mono ?_; rintro e w1 ⟨rfl, hn1⟩))
                      go_ret
                      exact GOkB.no (hb2.trans hn1)
                    | false =>
                      rw [ha] at hq
                      have Ha := Lib.hid ha
                      clear ha
                      go_wp2_with (first | (go_at_call 45; refine hq.out.mono ?_; rintro e w1 ⟨rfl, hn1⟩))
                      go_roundw
                      case rel => exact ⟨k + 1, by omega, by go_num, hP.out Ha.out, hb2.trans hn1⟩
                      case measure => simp [intOf]; omega
        · obtain rfl : k = g.length := by omega
          have hm := hp.sm
          clear hlt hk
          go_wp2_with fail
          refine (reached_any _ g wr (h.new hb) hm).mono ?_
          rintro e w1 ⟨v1, rfl, ⟨a1, n1, c1, rfl, hn1⟩, hw1⟩
          go_wp2_with fail
          refine (Heads_any _ g w1 ((h.new hb).new hw1) (by omega)).mono ?_
          rintro e w2 ⟨v2, rfl, ho2, hw2⟩
          obtain ⟨a2, c2, rfl⟩ := owns_slice ho2
          have hb2 := (hb.trans hw1).trans hw2
          clear ho2 hw1 hw2 hb
          go_wp2_with fail
          · refine (wordy_any _ g w2 (h.new hb2) hm).mono ?_
            rintro e w3 ⟨v3, rfl, ⟨a3, c3, L, rfl, hL⟩, hw3⟩
            go_wp2_with fail
            refine (Heads_any _ g w3 ((h.new hb2).new hw3) (by omega)).mono ?_
            rintro e w4 ⟨v4, rfl, ho4, hw4⟩
            obtain ⟨a4, c4, rfl⟩ := owns_slice ho4
            have hb4 := (hb2.trans hw3).trans hw4
            clear ho4 hw3 hw4 hb2
            go_wp2_with fail
            go_ret
            exact ⟨_, rfl, fun e => ⟨hm, hL.all (by simp at e; omega)⟩, hb4⟩
          · go_ret
            exact GOkB.no hb2
end Go.Proofs.YtdejcdmgcckmoaaGreatDoor
