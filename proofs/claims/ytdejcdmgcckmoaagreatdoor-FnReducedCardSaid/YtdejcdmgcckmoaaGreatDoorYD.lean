/- The reference: its test of a grammar, whole; symbols. -/
import Derived.Test.YtdejcdmgcckmoaaGreatDoorYC
import Derived.Test.YtdejcdmgcckmoaaGreatDoorProg
namespace Go.Proofs.YtdejcdmgcckmoaaGreatDoor
open Go.RowKit Lr

/-- What has been asked of the productions ahead of the k-th. -/
structure Pre (g : Gram) (k : Nat) : Prop where
  pos : 0 < g.length
  len : g.length ≤ 12
  each : ∀ j, (hj : j < g.length) → j < k → symbolOkB g[j].1 = true ∧ greatB g[j].1 = true ∧ g[j].2.length ≤ 4 ∧ (∀ s ∈ g[j].2, symbolOkB s = true ∧ (greatB s = true → isHead g s = true)) ∧ (g.take j).any (fun p => p.1 == g[j].1 && p.2 == g[j].2) = false

theorem Pre.sm {g : Gram} (h : Pre g g.length) : Sm g := by
  have each : ∀ p ∈ g, symbolOkB p.1 = true ∧ greatB p.1 = true ∧ p.2.length ≤ 4 ∧ ∀ s ∈ p.2, symbolOkB s = true ∧ (greatB s = true → isHead g s = true) := by
    intro p hp
    obtain ⟨j, hj, rfl⟩ := List.getElem_of_mem hp
    obtain ⟨h1, h2, h3, h4, _⟩ := h.each j hj hj
    exact ⟨h1, h2, h3, h4⟩
  refine ⟨h.pos, h.len, fun p hp => (each p hp).2.2.1, fun p hp => ⟨(each p hp).1, (each p hp).2.1⟩, fun p hp s hs => ((each p hp).2.2.2 s hs).1, fun p hp s hs => ((each p hp).2.2.2 s hs).2, ?_⟩
  unfold List.Nodup
  rw [List.pairwise_iff_getElem]
  intro i j hi hj hij e
  have := (h.each j hj hj).2.2.2.2
  rw [List.any_eq_false] at this
  refine this g[i] ?_ (by simp [e])
  rw [List.mem_take_iff_getElem]
  exact ⟨i, by omega, rfl⟩

def GOkB (g : Gram) (w : World) (e : Ending) (w' : World) : Prop := ∃ b, e = .returned (.bool b) ∧ (b = true → GOk g) ∧ New w w'
theorem GOkB.no {g : Gram} {w w' : World} (h : New w w') : GOkB g w (.returned (.bool false)) w' := ⟨false, rfl, fun e => absurd e (by decide), h⟩

theorem GramAt.take {w : World} {a : Option Addr} {n cap : Nat} {g : Gram} (h : GramAt w (.slice a n cap) g) (k : Nat) (hk : k ≤ g.length) : GramAt w (.slice a k cap) (g.take k) := by
  obtain ⟨a1, cap1, e, h1, hc⟩ := h
  cases e
  have hl : (g.take k).length = k := by rw [List.length_take]; omega
  refine ⟨a, cap, by rw [hl], by omega, fun h0 => ?_⟩
  obtain ⟨b, o, rfl, hcc⟩ := hc (by omega)
  refine ⟨b, o, rfl, fun j hj => ?_⟩
  rw [hl] at hj
  have := hcc j (by omega)
  have e : (g.take k).getD j default = g.getD j default := by
    simp only [List.getD_eq_getElem?_getD]; rw [List.getElem?_take_of_lt hj]
  rw [e]; exact this

theorem pre_step {g : Gram} {k : Nat} (hp : Pre g k) (hk : k < g.length) (h1 : symbolOkB g[k].1 = true) (h2 : greatB g[k].1 = true) (h3 : g[k].2.length ≤ 4)
    (h4 : ∀ s ∈ g[k].2, symbolOkB s = true ∧ (greatB s = true → isHead g s = true)) (h5 : (g.take k).any (fun p => p.1 == g[k].1 && p.2 == g[k].2) = false) : Pre g (k + 1) := by
  refine ⟨hp.pos, hp.len, fun j hj hlt => ?_⟩
  by_cases e : j = k
  · subst e; exact ⟨h1, h2, h3, h4, h5⟩
  · exact hp.each j hj (by omega)
theorem pre_more {P : Str → Prop} {l : List Str} {m : Nat} (h : ∀ j, (hj : j < l.length) → j < m → P l[j]) (h2 : ∀ hj : m < l.length, P l[m]) : ∀ j, (hj : j < l.length) → j < m + 1 → P l[j] := by
  intro j hj hlt
  by_cases e : j = m
  · subst e; exact h2 hj
  · exact h j hj (by omega)

set_option maxRecDepth 20000 in
set_option maxHeartbeats 4000000 in
theorem GrammarOk_any (v : Value) (g : Gram) (w : World) (h : GramAt w v g) (hf : Fits g) :
    Calls Tryz.prog 12 #[v] w (GOkB g w) := by
  obtain ⟨a, cap, rfl⟩ := h.slice
  by_cases h0 : g.length = 0
  · have e0 : ((g.length : Int) == 0) = true := by simp [h0]
    clear h0
    go_enter Tryz.func12, Tryz.ntmps12
    go_wp2
    go_ret
    exact GOkB.no (New.refl _)
  · have e0 : ((g.length : Int) == 0) = false := by rw [beq_eq_false_iff_ne]; omega
    by_cases h12 : 12 < g.length
    · clear h0
      go_enter Tryz.func12, Tryz.ntmps12
      go_wp2
      go_ret
      exact GOkB.no (New.refl _)
    · have hpos : 0 < g.length := by omega
      have hlen : g.length ≤ 12 := by omega
      clear h0 h12
      go_enter Tryz.func12, Tryz.ntmps12
      go_wp2
      go_loopw [17] (fun i wr => ∃ k : Nat, k ≤ g.length ∧ i = .int .i64 k ∧ Pre g k ∧ New w wr) (fun i _ => g.length - (intOf i).toNat)
      case atStart => exact ⟨0, Nat.zero_le _, rfl, ⟨hpos, hlen, fun j _ h => absurd h (Nat.not_lt_zero _)⟩, New.refl _⟩
      case round =>
        obtain ⟨k, hk, rfl, hp, hb⟩ := hrel
        by_cases hlt : k < g.length
        · obtain ⟨wo, rfl⟩ : ∃ wo : World, wo = wr := ⟨_, rfl⟩
          obtain ⟨b', o', a', cap', e', h1, h2, h3⟩ := h.elem hlt
          cases e'
          have c1 := hb.cell h1
          have c2 := hb.cell h2
          have hmem := List.getElem_mem hlt
          have hW : New wo (wo.alloc (.cells #[sv g[k].1, .slice a' g[k].2.length cap'] 67)) := (New.refl _).alloc _
          have hfh := hf.head _ hmem
          have hfb := hf.body _ hmem
          have hfs := hf.syms _ hmem
          have hq := Lib.hid (symbolOk_any g[k].1 (wo.alloc (.cells #[sv g[k].1, .slice a' g[k].2.length cap'] 67)) hfh)
          cases hs : symbolOkB g[k].1 with
          | false =>
            rw [hs] at hq
            clear h h1 h2 hs
            go_wp2_with (first | (go_at_call 42; refine hq.out.mono ?_; rintro e w' ⟨rfl, rfl⟩))
            go_ret
            exact GOkB.no (hb.trans hW)
          | true =>
            rw [hs] at hq
            have hq2 := Lib.hid (great_any g[k].1 (wo.alloc (.cells #[sv g[k].1, .slice a' g[k].2.length cap'] 67)) (symbolOk_pos hs))
            cases hg : greatB g[k].1 with
            | false =>
              rw [hg] at hq2
              clear h h1 h2 hs hg
              go_wp2_with (first | (go_at_call 42; refine hq.out.mono ?_; rintro e w' ⟨rfl, rfl⟩) | (go_at_call 43; refine hq2.out.mono ?_; rintro e w' ⟨rfl, rfl⟩))
              go_ret
              exact GOkB.no (hb.trans hW)
            | true =>
              rw [hg] at hq2
              have Hs := Lib.hid hs
              have Hg := Lib.hid hg
              clear hs hg
              by_cases h4 : 4 < g[k].2.length
              · clear h h1 h2
                go_wp2_with (first | (go_at_call 42; refine hq.out.mono ?_; rintro e w' ⟨rfl, rfl⟩) | (go_at_call 43; refine hq2.out.mono ?_; rintro e w' ⟨rfl, rfl⟩))
                go_ret
                exact GOkB.no (hb.trans hW)
              · have h4' : g[k].2.length ≤ 4 := by omega
                clear h4
                have hb1 := hb.trans hW
                have p1 : (wo.alloc (.cells #[sv g[k].1, .slice a' g[k].2.length cap'] 67)).cell? ⟨wo.heap.size, 0, none⟩ = some (sv g[k].1) := by simp
                have p2 : (wo.alloc (.cells #[sv g[k].1, .slice a' g[k].2.length cap'] 67)).cell? ⟨wo.heap.size, 1, none⟩ = some (.slice a' g[k].2.length cap') := by simp
                have h3' := (h3.new hb).new hW
                have hg' := h.new hb1
                clear h1 h2
                go_wp2_with (first | (go_at_call 42; refine hq.out.mono ?_; rintro e w' ⟨rfl, rfl⟩) | (go_at_call 43; refine hq2.out.mono ?_; rintro e w' ⟨rfl, rfl⟩))
                clear hq hq2 c1 c2
                go_loopw [41] (fun i wr => ∃ m : Nat, m ≤ g[k].2.length ∧ i = .int .i64 m ∧ Hid (∀ j, (hj : j < g[k].2.length) → j < m → symbolOkB g[k].2[j] = true ∧ (greatB g[k].2[j] = true → isHead g g[k].2[j] = true)) ∧ New (wo.alloc (.cells #[sv g[k].1, .slice a' g[k].2.length cap'] 67)) wr)
                  (fun i _ => g[k].2.length - (intOf i).toNat)
                case atStart => exact ⟨0, Nat.zero_le _, rfl, fun j _ h => absurd h (Nat.not_lt_zero _), New.refl _⟩
                case round =>
                  obtain ⟨m, hmm, rfl, hd, hn⟩ := hrel
                  by_cases hml : m < g[k].2.length
                  · obtain ⟨b2, o2, rfl, h5⟩ := h3'.elem hml
                    have c3 := hn.cell h5
                    have hb2 := hb1.trans hn
                    have hq := Lib.hid (symbolOk_any g[k].2[m] wr (hfs _ (List.getElem_mem hml)))
                    cases hs : symbolOkB g[k].2[m] with
                    | false =>
                      rw [hs] at hq
                      clear h5 hs
                      go_wp2_with (first | (go_at_call 42; refine hq.out.mono ?_; rintro e w' ⟨rfl, rfl⟩))
                      go_ret
                      exact GOkB.no hb2
                    | true =>
                      rw [hs] at hq
                      have hq2 := Lib.hid (great_any g[k].2[m] wr (symbolOk_pos hs))
                      have hemp : (g[k].2[m] == [101, 109, 112, 116, 121]) = false := by
                        rw [beq_eq_false_iff_ne]; intro e
                        have := symbolOk_le hs
                        rw [e] at this
                        simp at this
                      cases hg : greatB g[k].2[m] with
                      | false =>
                        rw [hg] at hq2
                        have Hg := Lib.hid (And.intro hs hg)
                        clear h5 hs hg
                        go_wp2_with (first | (go_at_call 42; refine hq.out.mono ?_; rintro e w' ⟨rfl, rfl⟩) | (go_at_call 43; refine hq2.out.mono ?_; rintro e w' ⟨rfl, rfl⟩))
                        go_roundw
                        case rel => exact ⟨m + 1, by omega, by go_num, Lib.hid (pre_more (P := fun s => symbolOkB s = true ∧ (greatB s = true → isHead g s = true)) hd.out (fun _ => ⟨Hg.out.1, fun e => by rw [Hg.out.2] at e; cases e⟩)), hn⟩
                        case measure => simp [intOf]; omega
                      | true =>
                        rw [hg] at hq2
                        have hq3 := Lib.hid (isHead_any _ g g[k].2[m] wr (hg'.new hn) (by omega))
                        cases hi : isHead g g[k].2[m] with
                        | false =>
                          rw [hi] at hq3
                          clear h5 hs hg hi
                          go_wp2_with (first | (go_at_call 42; refine hq.out.mono ?_; rintro e w' ⟨rfl, rfl⟩) | (go_at_call 43; refine hq2.out.mono ?_; rintro e w' ⟨rfl, rfl⟩) | (go_at_call 44; refine hq3.out.mono ?_; rintro e w1 ⟨rfl, hn1⟩))
                          go_ret
                          exact GOkB.no (hb2.trans hn1)
                        | true =>
                          rw [hi] at hq3
                          have Hg := Lib.hid (And.intro hs hi)
                          clear h5 hs hg hi
                          go_wp2_with (first | (go_at_call 42; refine hq.out.mono ?_; rintro e w' ⟨rfl, rfl⟩) | (go_at_call 43; refine hq2.out.mono ?_; rintro e w' ⟨rfl, rfl⟩) | (go_at_call 44; refine hq3.out.mono ?_; rintro e w1 ⟨rfl, hn1⟩))
                          go_roundw
                          case rel => exact ⟨m + 1, by omega, by go_num, Lib.hid (pre_more (P := fun s => symbolOkB s = true ∧ (greatB s = true → isHead g s = true)) hd.out (fun _ => ⟨Hg.out.1, fun _ => Hg.out.2⟩)), hn.trans hn1⟩
                          case measure => simp [intOf]; omega
                  · have q1 := hn.cell p1
                    have q2 := hn.cell p2
                    have hcap := (h.cap).2
                    have hb2 := hb1.trans hn
                    have hq := Lib.hid (ContainsFunc_prod _ (g.take k) wr ((h.new hb2).take k hk) (by simp; omega) 46 #[.pointer (some ⟨wo.heap.size, 0, none⟩)] (fun p => p.1 == g[k].1 && p.2 == g[k].2) enters46
                      (fun j hj w' a'' cap'' hn' hst => Grammar1_any _ g[k].1 _ g[k].2 a'' a' cap'' cap' wo.heap.size w' (hn'.cell q1) (hn'.cell q2) hst ((h3'.new hn).new hn')
                        (by have hjk : j < k := by { simp at hj; omega }
                            have hjl : j < g.length := by omega
                            have := (hp.each j hjl hjk).2.2.1
                            simp only [List.getElem_take]; omega) (by omega)))
                    have hP := Lib.hid (pre_step hp hlt Hs.out Hg.out h4' (fun s hs => by obtain ⟨j, hj, rfl⟩ := List.getElem_of_mem hs; exact hd.out j hj (by omega)))
                    clear q1 q2 hg' h3'
                    cases ha : (g.take k).any (fun p => p.1 == g[k].1 && p.2 == g[k].2) with
                    | true =>
                      rw [ha] at hq
                      clear ha
                      go_wp2_with (first | (go_at_call 45; refine hq.out.mono ?_; rintro e w1 ⟨rfl, hn1⟩))
                      go_ret
                      exact GOkB.no (hb2.trans hn1)
                    | false =>
                      rw [ha] at hq
                      have Ha := Lib.hid ha
                      clear ha
                      go_wp2_with (first | (go_at_call 45; refine hq.out.mono ?_; rintro e w1 ⟨rfl, hn1⟩))
                      go_roundw
                      case rel => exact ⟨k + 1, by omega, by go_num, hP.out Ha.out, hb2.trans hn1⟩
                      case measure => simp [intOf]; omega
        · obtain rfl : k = g.length := by omega
          have hm := hp.sm
          clear hlt hk
          go_wp2_with fail
          refine (reached_any _ g wr (h.new hb) hm).mono ?_
          rintro e w1 ⟨v1, rfl, ⟨a1, n1, c1, rfl, hn1⟩, hw1⟩
          go_wp2_with fail
          refine (Heads_any _ g w1 ((h.new hb).new hw1) (by omega)).mono ?_
          rintro e w2 ⟨v2, rfl, ho2, hw2⟩
          obtain ⟨a2, c2, rfl⟩ := owns_slice ho2
          have hb2 := (hb.trans hw1).trans hw2
          clear ho2 hw1 hw2 hb
          go_wp2_with fail
          · refine (wordy_any _ g w2 (h.new hb2) hm).mono ?_
            rintro e w3 ⟨v3, rfl, ⟨a3, c3, L, rfl, hL⟩, hw3⟩
            go_wp2_with fail
            refine (Heads_any _ g w3 ((h.new hb2).new hw3) (by omega)).mono ?_
            rintro e w4 ⟨v4, rfl, ho4, hw4⟩
            obtain ⟨a4, c4, rfl⟩ := owns_slice ho4
            have hb4 := (hb2.trans hw3).trans hw4
            clear ho4 hw3 hw4 hb2
            go_wp2_with fail
            go_ret
            exact ⟨_, rfl, fun e => ⟨hm, hL.all (by simp at e; omega)⟩, hb4⟩
          · go_ret
            exact GOkB.no hb2
end Go.Proofs.YtdejcdmgcckmoaaGreatDoor
namespace Go.Proofs.YtdejcdmgcckmoaaGreatDoor
open Go.RowKit Lr

theorem letter_int {c : UInt8} (h : letterB c = true) : (97 ≤ (c.toNat : Int) ∧ (c.toNat : Int) ≤ 122) ∨ (65 ≤ (c.toNat : Int) ∧ (c.toNat : Int) ≤ 90) := by
  unfold letterB at h; simp at h; omega
theorem ne_of_len {s t : Str} (h : s.length ≤ 4) (ht : 4 < t.length) : (s == t) = false := by
  rw [beq_eq_false_iff_ne]; intro e; rw [e] at h; omega

set_option maxRecDepth 20000 in
set_option maxHeartbeats 2000000 in
theorem isSymbol_ok (s : Str) (w : World) (h : symbolOkB s = true) :
    Calls Tryz.prog 95 #[sv s] w fun e w' => e = .returned (.bool true) ∧ w = w' := by
  have hlen := symbolOk_le h
  have hpos := symbolOk_pos h
  have hlet := symbolOk_letter h
  have g1 := ne_of_len (t := [101, 109, 112, 116, 121]) hlen (by simp)
  have g2 := ne_of_len (t := [101, 114, 114, 111, 114]) hlen (by simp)
  have g3 := ne_of_len (t := [73, 78, 86, 65, 76, 73, 68]) hlen (by simp)
  go_enter Tryz.func95, Tryz.ntmps95
  go_wp2
  go_loop [3] (fun i => ∃ k : Nat, k ≤ s.length ∧ i = .int .i64 k) (fun i => s.length - (intOf i).toNat)
  case atStart => exact ⟨0, Nat.zero_le _, rfl⟩
  case round =>
    obtain ⟨k, hk, rfl⟩ := hrel
    by_cases hlt : k < s.length
    · have hsz : k < ({ data := s.toArray } : ByteArray).size := hlt
      have hl : (97 ≤ ((({ data := s.toArray } : ByteArray)[k]'hsz).toNat : Int) ∧ ((({ data := s.toArray } : ByteArray)[k]'hsz).toNat : Int) ≤ 122) ∨ (65 ≤ ((({ data := s.toArray } : ByteArray)[k]'hsz).toNat : Int) ∧ ((({ data := s.toArray } : ByteArray)[k]'hsz).toNat : Int) ≤ 90) := letter_int (hlet s[k] (List.getElem_mem hlt))
      clear hlet
      rcases hl with hl | hl
      · obtain ⟨l1, l2⟩ := hl
        go_wp2
        all_goals (go_round
                   case rel => exact ⟨k + 1, by omega, by go_num⟩
                   case measure => simp [intOf]; omega)
      · obtain ⟨l1, l2⟩ := hl
        go_wp2
        all_goals (go_round
                   case rel => exact ⟨k + 1, by omega, by go_num⟩
                   case measure => simp [intOf]; omega)
    · have hsz : ¬ k < ({ data := s.toArray } : ByteArray).size := hlt
      clear hlet
      go_wp2
      go_ret
      exact ⟨rfl, rfl⟩

theorem enters101 : ∀ args w, (callFunc 101 args).run Tryz.prog w = .ok (.enter 101 args) w := enters_of Tryz.func101 (by kernel_rfl) rfl
set_option maxHeartbeats 400000 in
theorem implHead1_any (s t : Str) (a : Option Addr) (n c b : Nat) (w : World) (h : w.cell? ⟨b, 0, none⟩ = some (sv t)) :
    Calls Tryz.prog 101 #[.agg #[sv s, .slice a n c], .pointer (some ⟨b, 0, none⟩)] w fun e w' => e = .returned (.bool (s == t)) ∧ New w w' := by
  have hb := lt_of_cell h
  go_enter Tryz.func101, Tryz.ntmps101
  go_wp2
  go_ret
  exact ⟨rfl, (New.refl _).alloc _⟩

set_option maxHeartbeats 400000 in
theorem implHead_any (v : Value) (g : Gram) (s : Str) (w : World) (h : GramAt w v g) (hl : g.length ≤ 100000) :
    Calls Tryz.prog 56 #[v, sv s] w fun e w' => e = .returned (.bool (isHead g s)) ∧ New w w' := by
  have hq := Lib.hid (ContainsFunc_prod v g (w.alloc (.cells #[sv s] 9)) (h.new ((New.refl _).alloc _)) hl 101 #[.pointer (some ⟨w.heap.size, 0, none⟩)] (fun p => p.1 == s) enters101
    (fun k hk w' a' cap' hn _ => implHead1_any _ _ _ _ _ _ _ (hn.cell (by simp))))
  go_enter Tryz.func56, Tryz.ntmps56
  go_wp2_with (go_at_call 45; refine hq.out.mono ?_; rintro e w' ⟨rfl, hn⟩)
  go_ret
  exact ⟨rfl, ((New.refl _).alloc _).trans hn⟩

set_option maxRecDepth 20000 in
set_option maxHeartbeats 2000000 in
theorem right_any (v : Value) (g : Gram) (w : World) (h : GramAt w v g) (hm : Sm g) :
    Calls Tryz.prog 49 #[v] w fun e w' => e = .returned (.bool true) ∧ New w w' := by
  obtain ⟨a, cap, rfl⟩ := h.slice
  have hpos := hm.pos
  have hlen := hm.len
  go_enter Tryz.func49, Tryz.ntmps49
  go_wp2
  go_loopw [17] (fun i wr => ∃ k : Nat, k ≤ g.length ∧ i = .int .i64 k ∧ New w wr) (fun i _ => g.length - (intOf i).toNat)
  case atStart => exact ⟨0, Nat.zero_le _, rfl, New.refl _⟩
  case round =>
    obtain ⟨k, hk, rfl, hb⟩ := hrel
    by_cases hlt : k < g.length
    · obtain ⟨wo, rfl⟩ : ∃ wo : World, wo = wr := ⟨_, rfl⟩
      obtain ⟨b', o', a', cap', e', h1, h2, h3⟩ := h.elem hlt
      cases e'
      have c1 := hb.cell h1
      have c2 := hb.cell h2
      have hmem := List.getElem_mem hlt
      have hW : New wo (wo.alloc (.cells #[sv g[k].1, .slice a' g[k].2.length cap'] 67)) := (New.refl _).alloc _
      have hq := Lib.hid (isSymbol_ok g[k].1 (wo.alloc (.cells #[sv g[k].1, .slice a' g[k].2.length cap'] 67)) (hm.head _ hmem).1)
      have hbl := hm.body _ hmem
      have hb1 := hb.trans hW
      clear h h1 h2 hb
      go_wp2_with (first | (go_at_call 95; refine hq.out.mono ?_; rintro e w' ⟨rfl, rfl⟩))
      clear hq c1 c2
      go_loopw [34] (fun i wr => ∃ m : Nat, m ≤ g[k].2.length ∧ i = .int .i64 m ∧ New w wr) (fun i _ => g[k].2.length - (intOf i).toNat)
      case atStart => exact ⟨0, Nat.zero_le _, rfl, hb1⟩
      case round =>
        obtain ⟨m, hmm, rfl, hn⟩ := hrel
        by_cases hml : m < g[k].2.length
        · obtain ⟨b2, o2, rfl, h5⟩ := h3.elem hml
          have c3 := hn.cell h5
          have hq := Lib.hid (isSymbol_ok g[k].2[m] wr (hm.sym _ hmem _ (List.getElem_mem hml)))
          clear h5
          go_wp2_with (first | (go_at_call 95; refine hq.out.mono ?_; rintro e w' ⟨rfl, rfl⟩))
          go_roundw
          case rel => exact ⟨m + 1, by omega, by go_num, hn⟩
          case measure => simp [intOf]; omega
        · go_wp2
          go_roundw
          case rel => exact ⟨k + 1, by omega, by go_num, hn⟩
          case measure => simp [intOf]; omega
    · go_wp2
      go_ret
      exact ⟨rfl, hb⟩
end Go.Proofs.YtdejcdmgcckmoaaGreatDoor
namespace Go.Proofs.YtdejcdmgcckmoaaGreatDoor
open Go.RowKit Lr

/-- A symbol of the package's syntax. -/
inductive Sy where
  | nt (s : Str)
  | tk (s : Str)
  | em
  deriving DecidableEq
def emptyS : Str := [101, 109, 112, 116, 121]
def Sy.str : Sy → Str
  | .nt s => s
  | .tk s => s
  | .em => emptyS
def Sy.val : Sy → Value
  | .nt s => .iface 142 (sv s)
  | .tk s => .iface 143 (sv s)
  | .em => .iface 144 (.int .i64 0)
abbrev AP := Str × List Sy

def SysAt (w : World) (v : Value) (l : List Sy) : Prop := SlcAt w v l.length l.length fun j => (l.getD j .em).val
theorem SysAt.new {w w' : World} {v : Value} {l : List Sy} (h : SysAt w v l) (hn : New w w') : SysAt w' v l := SlcAt.new h hn
theorem SysAt.elem {w : World} {a : Option Addr} {n cap : Nat} {l : List Sy} (h : SysAt w (.slice a n cap) l) {k : Nat} (hk : k < l.length) :
    ∃ b o, a = some ⟨b, o, none⟩ ∧ w.cell? ⟨b, o + k, none⟩ = some l[k].val := by
  obtain ⟨a1, cap1, e, _, hc⟩ := h
  cases e
  obtain ⟨b, o, rfl, hcc⟩ := hc (by omega)
  have h1 := hcc k hk
  have eg : l.getD k .em = l[k] := by simp [List.getD, hk]
  simp only [eg] at h1
  exact ⟨b, o, rfl, h1⟩
theorem SysAt.slice {w : World} {v : Value} {l : List Sy} (h : SysAt w v l) : ∃ a cap, v = .slice a l.length cap := by
  obtain ⟨a, cap, rfl, _, _⟩ := h
  exact ⟨a, cap, rfl⟩

/-- A production of the package's syntax, behind its pointer. -/
def ProdPtr (w : World) (v : Value) (p : AP) : Prop :=
  ∃ b q a c, v = .pointer (some ⟨b, 0, none⟩) ∧ w.cell? ⟨b, 0, none⟩ = some (sv p.1) ∧ w.cell? ⟨b, 1, none⟩ = some (.pointer (some ⟨q, 0, none⟩)) ∧
    w.cell? ⟨q, 1, none⟩ = some (.slice a p.2.length c) ∧ SysAt w (.slice a p.2.length c) p.2
theorem ProdPtr.new {w w' : World} {v : Value} {p : AP} (h : ProdPtr w v p) (hn : New w w') : ProdPtr w' v p := by
  obtain ⟨b, q, a, c, rfl, h1, h2, h3, h4⟩ := h
  exact ⟨b, q, a, c, rfl, hn.cell h1, hn.cell h2, hn.cell h3, h4.new hn⟩

/-- A list of productions. -/
def ProdsAt (w : World) (v : Value) (L : List AP) : Prop :=
  ∃ a cap, v = .slice a L.length cap ∧ L.length ≤ cap ∧ (0 < L.length → ∃ b o, a = some ⟨b, o, none⟩ ∧ ∀ j, (hj : j < L.length) → ∃ pv, w.cell? ⟨b, o + j, none⟩ = some pv ∧ ProdPtr w pv L[j])
theorem ProdsAt.new {w w' : World} {v : Value} {L : List AP} (h : ProdsAt w v L) (hn : New w w') : ProdsAt w' v L := by
  obtain ⟨a, cap, rfl, hcap, hc⟩ := h
  refine ⟨a, cap, rfl, hcap, fun hne => ?_⟩
  obtain ⟨b, o, rfl, hcc⟩ := hc hne
  refine ⟨b, o, rfl, fun j hj => ?_⟩
  obtain ⟨pv, h1, h2⟩ := hcc j hj
  exact ⟨pv, hn.cell h1, h2.new hn⟩
theorem ProdsAt.slice {w : World} {v : Value} {L : List AP} (h : ProdsAt w v L) : ∃ a cap, v = .slice a L.length cap := by
  obtain ⟨a, cap, rfl, _, _⟩ := h
  exact ⟨a, cap, rfl⟩
/-- One of its productions, opened. -/
theorem ProdsAt.elem {w : World} {a : Option Addr} {n cap : Nat} {L : List AP} (h : ProdsAt w (.slice a n cap) L) {k : Nat} (hk : k < L.length) :
    ∃ b o pb q sa sc, a = some ⟨b, o, none⟩ ∧ w.cell? ⟨b, o + k, none⟩ = some (.pointer (some ⟨pb, 0, none⟩)) ∧ w.cell? ⟨pb, 0, none⟩ = some (sv L[k].1) ∧ w.cell? ⟨pb, 1, none⟩ = some (.pointer (some ⟨q, 0, none⟩)) ∧
      w.cell? ⟨q, 1, none⟩ = some (.slice sa L[k].2.length sc) ∧ SysAt w (.slice sa L[k].2.length sc) L[k].2 := by
  obtain ⟨a1, cap1, e, _, hc⟩ := h
  cases e
  obtain ⟨b, o, rfl, hcc⟩ := hc (by omega)
  obtain ⟨pv, h1, pb, q, sa, sc, rfl, h2, h3, h4, h5⟩ := hcc k hk
  exact ⟨b, o, pb, q, sa, sc, rfl, h1, h2, h3, h4, h5⟩

/-- The package's grammar, behind its pointer. -/
def GrmAt (w : World) (v : Value) (L : List AP) : Prop :=
  ∃ x y z, v = .pointer (some ⟨x, 0, none⟩) ∧ w.cell? ⟨x, 0, none⟩ = some (.pointer (some ⟨y, 0, none⟩)) ∧ w.cell? ⟨y, 1, none⟩ = some z ∧ ProdsAt w z L
theorem GrmAt.new {w w' : World} {v : Value} {L : List AP} (h : GrmAt w v L) (hn : New w w') : GrmAt w' v L := by
  obtain ⟨x, y, z, rfl, h1, h2, h3⟩ := h
  exact ⟨x, y, z, rfl, hn.cell h1, hn.cell h2, h3.new hn⟩

/-- The augmented grammar of plain productions. -/
def bodyS (g : Gram) (b : List Str) : List Sy := if b = [] then [.em] else b.map fun s => if isHead g s then .nt s else .tk s
def startS : Str := [83, 39]
def augP (g : Gram) : List AP := (startS, [.nt (Lr.start g)]) :: g.map fun p => (p.1, bodyS g p.2)

/-! methods of the symbols -/
theorem SymStr_nt (s : Str) (w : World) : Calls Tryz.prog 302 #[sv s] w fun e w' => e = .returned (sv s) ∧ w = w' := by
  go_enter Tryz.func302, Tryz.ntmps302
  go_wp2
  go_ret
  exact ⟨rfl, rfl⟩
theorem SymStr_tk (s : Str) (w : World) : Calls Tryz.prog 305 #[sv s] w fun e w' => e = .returned (sv s) ∧ w = w' := by
  go_enter Tryz.func305, Tryz.ntmps305
  go_wp2
  go_ret
  exact ⟨rfl, rfl⟩
theorem SymStr_em (n : Int) (w : World) : Calls Tryz.prog 308 #[.int .i64 n] w fun e w' => e = .returned (sv emptyS) ∧ w = w' := by
  go_enter Tryz.func308, Tryz.ntmps308
  go_wp2
  go_ret
  exact ⟨rfl, rfl⟩

theorem met142 (s : Str) (w : World) : (method 481 142 (sv s) "SymbolString").run Tryz.prog w = .ok (302, sv s) w := by kernel_rfl
theorem met143 (s : Str) (w : World) : (method 481 143 (sv s) "SymbolString").run Tryz.prog w = .ok (305, sv s) w := by kernel_rfl
theorem met144 (w : World) : (method 481 144 (.int .i64 0) "SymbolString").run Tryz.prog w = .ok (308, .int .i64 0) w := by kernel_rfl

theorem ta142 (s : Str) (w : World) : (Instr.typeAssert (.iface 142 (sv s)) 207 208 true).run Tryz.prog w = .ok (.tuple #[.string ByteArray.empty, .bool false]) w := by kernel_rfl
theorem ta143 (s : Str) (w : World) : (Instr.typeAssert (.iface 143 (sv s)) 207 208 true).run Tryz.prog w = .ok (.tuple #[.string ByteArray.empty, .bool false]) w := by kernel_rfl
theorem ta144 (w : World) : (Instr.typeAssert (.iface 144 (.int .i64 0)) 207 208 true).run Tryz.prog w = .ok (.tuple #[.string ByteArray.empty, .bool false]) w := by kernel_rfl

set_option maxHeartbeats 400000 in
theorem ZZBody_any (a : Option Addr) (n c : Nat) (w : World) :
    Calls Tryz.prog 96 #[.slice a n c] w fun e w' => e = .returned (.pointer (some ⟨w.heap.size, 0, none⟩)) ∧ w.alloc (.cells #[.bool false, .slice a n c, sv []] 192) = w' := by
  go_enter Tryz.func96, Tryz.ntmps96
  go_wp2
  go_ret
  exact ⟨rfl, rfl⟩
end Go.Proofs.YtdejcdmgcckmoaaGreatDoor
namespace Go.Proofs.YtdejcdmgcckmoaaGreatDoor
open Go.RowKit Lr

/-- The package's symbols while they are made. -/
structure SymSt (w : World) (B p m1 m2 m3 : Nat) (r2 r4 r5 : Value) (tm nt nk : List Str) (n : Nat) : Prop where
  blk : w.heap[p]? = some (.cells #[.map (some m1), .map (some m2), r2, .map (some m3), r4, r5] 153 (0, 0))
  id : ∃ f, MapF Tryz.prog 9 w m1 n f ∧ ∀ s, (f s).isSome = has tm s
  ntm : ∃ f, MapF Tryz.prog 9 w m2 n f ∧ ∀ s, (f s).isSome = has nk s
  tmr : Strs w B r5 tm
  ntr : Strs w B r2 nt
  dis : r2.ownBlock = none ∨ r2.ownBlock ≠ r5.ownBlock
  mne : m1 ≠ m2
  pB : B ≤ p
  m1B : B ≤ m1
  m2B : B ≤ m2

theorem SymSt.new {w w' : World} {B p m1 m2 m3 : Nat} {r2 r4 r5 : Value} {tm nt nk : List Str} {n : Nat} (h : SymSt w B p m1 m2 m3 r2 r4 r5 tm nt nk n) (hn : New w w') : SymSt w' B p m1 m2 m3 r2 r4 r5 tm nt nk n :=
  ⟨hn.heap h.blk, h.id.imp fun _ q => ⟨q.1.new hn, q.2⟩, h.ntm.imp fun _ q => ⟨q.1.new hn, q.2⟩, h.tmr.new hn, h.ntr.new hn, h.dis, h.mne, h.pB, h.m1B, h.m2B⟩

theorem z3 (w : World) : (zeroValue 3).run Tryz.prog w = .ok (.int .i64 0) w := by kernel_rfl

set_option maxRecDepth 20000 in
set_option maxHeartbeats 1000000 in
theorem Add_one {w : World} {B p m1 m2 m3 : Nat} {r2 r4 r5 : Value} {tm nt nk : List Str} {n : Nat} (st : SymSt w B p m1 m2 m3 r2 r4 r5 tm nt nk n) (s : Str) (hs : s.length ≤ 1000) (q c : Nat) (hq : w.cell? ⟨q, 0, none⟩ = some (sv s))
    (htm : tm.length ≤ 1000) (hn : n ≤ 1000000) (hB : B ≤ w.heap.size) :
    Calls Tryz.prog 129 #[.pointer (some ⟨p, 0, none⟩), .slice (some ⟨q, 0, none⟩) 1 c] w fun e w' => e = .returned (.tuple #[]) ∧ ∃ r5', SymSt w' B p m1 m2 m3 r2 r4 r5' (addTo tm s) nt nk (n + 1) ∧ Below B w w' := by
  have c0 := cell_of_blk st.blk 0
  have c5 := cell_of_blk st.blk 5
  simp only [List.getElem?_toArray, List.getElem?_cons_zero, List.getElem?_cons_succ] at c0 c5
  obtain ⟨f, hf, hfk⟩ := st.id
  obtain ⟨a5, k5, rfl⟩ := owns_slice st.tmr
  have hf0 := hf
  go_enter Tryz.func129, Tryz.ntmps129
  go_wp2
  refine wp_loop_rounds 2 ?_
  rw [rounds_succ]
  cases hh : has tm s with
  | true =>
    have h1 : (f s).isSome = true := by rw [hfk, hh]
    have h0 : f s = none → False := by intro e; rw [e] at h1; cases h1
    go_wp2_with (at_lookup; refine wpList_look_ok _ rfl _ _ _ _ rfl Tryz.underlying9 Tryz.underlying91 (z3 _) m1 n f rfl hf s rfl (by omega) ?_; rw [h1])
    rw [rounds_succ]
    clear hf
    go_wp2
    go_end0
    exact ⟨rfl, _, ⟨st.blk, ⟨f, hf0.mono (by omega), fun t => by rw [hfk, addTo_yes hh]⟩, st.ntm.imp fun _ h => ⟨h.1.mono (by omega), h.2⟩, by rw [addTo_yes hh]; exact st.tmr, st.ntr, st.dis, st.mne, st.pB, st.m1B, st.m2B⟩, Below.refl _ _⟩
  | false =>
    have h1 : (f s).isSome = false := by rw [hfk, hh]
    have hown := st.tmr
    go_wp2_with (first | (at_lookup; refine wpList_look_ok _ rfl _ _ _ _ rfl Tryz.underlying9 Tryz.underlying91 (z3 _) m1 n f rfl hf s rfl (by omega) ?_; rw [h1]) | (at_builtin; go_must (refine wpList_push _ rfl _ _ _ _ rfl T24 B _ _ _ rfl hown [_] rfl rfl _ _ rfl (by simp) (by omega) (by omega) hB ?_)))
    intro v' w1 hown1 hgrow hne hat
    have b1 := (hgrow.block p (lt_of_block st.blk) (fun e => ownBlock_ne hown st.blk (by decide) e.symm)).trans st.blk
    have hown2 := Strs.push hown1
    obtain ⟨a6, k6, rfl⟩ := owns_slice hown1
    have e1 := cell_of_blk b1 5
    simp only [List.getElem?_toArray, List.getElem?_cons_zero, List.getElem?_cons_succ] at e1
    have e2 := free_of_blk b1 5
    have b2 := set_of_blk b1 5 (.slice a6 (tm.length + 1) k6)
    simp only [List.setIfInBounds_toArray, List.set_cons_succ, List.set_cons_zero] at b2
    have g0 := cell_of_blk b2 0
    have g5 := cell_of_blk b2 5
    simp only [List.getElem?_toArray, List.getElem?_cons_zero, List.getElem?_cons_succ] at g0 g5
    have hf1 := (hf.kept hgrow (fun e => ownBlock_ne_map hown hf e.symm)).setCell (u := .slice a6 (tm.length + 1) k6) e1
    have hB2 := (Below.grown (Below.refl B w) hgrow hB (fun k hk => (hown.lt k hk).1)).setCell (p := ⟨p, 5, none⟩) st.pB (.slice a6 (tm.length + 1) k6)
    have hs2 := ownsRow_setCell_other hown2 (a := ⟨p, 5, none⟩) (ownBlock_ne hown2 b1 (by decide)) (.slice a6 (tm.length + 1) k6)
    have hr2 := ownsRow_setCell_other (st.ntr.kept hgrow st.dis) (a := ⟨p, 5, none⟩) (ownBlock_ne (st.ntr.kept hgrow st.dis) b1 (by decide)) (.slice a6 (tm.length + 1) k6)
    have hm2 : ∃ f, MapF Tryz.prog 9 (w1.setCell ⟨p, 5, none⟩ (.slice a6 (tm.length + 1) k6)) m2 n f ∧ ∀ s, (f s).isSome = has nk s := by
      obtain ⟨f2, hf2, hk2⟩ := st.ntm
      exact ⟨f2, (hf2.kept hgrow (fun e => ownBlock_ne_map hown hf2 e.symm)).setCell e1, hk2⟩
    have hdis : r2.ownBlock = none ∨ r2.ownBlock ≠ (Value.slice a6 (tm.length + 1) k6).ownBlock := by
      rcases st.dis with h | h
      · exact .inl h
      · cases hr : r2.ownBlock with
        | none => exact .inl rfl
        | some k =>
          right
          rcases hat with e | ⟨b, e, hb⟩
          · rw [e, ← hr]; exact h
          · rw [e]
            intro e3
            have := (st.ntr.lt k hr).2
            injection e3 with e3
            omega
    go_wp2_with fail
    clear hgrow hne hat e1 e2 b1 hf c0 c5 hown hown1 hown2
    generalize w1.setCell ⟨p, 5, none⟩ (.slice a6 (tm.length + 1) k6) = w2 at *
    go_still_tail 11, (by kernel_rfl)
    change wpList _ _ _ _ _ (World.drew _)
    go_wp2_with (at_mapUpdate; go_must (refine wpList_mstore _ rfl _ _ _ _ _ rfl Tryz.underlying9 Tryz.underlying91 m1 n f rfl hf1 (by omega) s rfl (by omega) _ rfl ?_))
    intro w3 hf3 hg3
    have hg4 : w2.grownBy w3 (some m1) := ⟨hg3.os, hg3.tape, hg3.output, hg3.size, hg3.block⟩
    have hpm : some p ≠ some m1 := by
      intro e
      obtain ⟨es, cl, hm⟩ := hf1.block
      injection e with e
      rw [← e, b2] at hm
      cases hm
    have b3 := (hg4.block p (lt_of_block b2) hpm).trans b2
    have hs3 := hs2.kept hg4 (.inr (ownBlock_ne_map hs2 hf1))
    have hr3 := hr2.kept hg4 (.inr (ownBlock_ne_map hr2 hf1))
    have hm3 : ∃ f, MapF Tryz.prog 9 w3 m2 (n + 1) f ∧ ∀ s, (f s).isSome = has nk s := by
      obtain ⟨f2, hf2, hk2⟩ := hm2
      exact ⟨f2, (hf2.kept hg4 (fun e => st.mne (by injection e with e; exact e.symm))).mono (by omega), hk2⟩
    have hB3 : Below B w w3 := hB2.grown hg4 (Nat.le_trans hB hB2.size) (fun k hk => by injection hk with hk; rw [← hk]; exact st.m1B)
    clear hg3 hg4 hf1 hs2 hr2 hm2 hB2 b2 g0 g5 hpm
    go_wp2
    rw [rounds_succ]
    go_wp2
    go_end0
    refine ⟨rfl, _, ⟨b3, ⟨_, hf3, fun t => ?_⟩, hm3, ?_, hr3, hdis, st.mne, st.pB, st.m1B, st.m2B⟩, hB3⟩
    · rw [addTo_no hh]
      unfold putF
      by_cases e : t = s
      · subst e; simp [has]
      · simp only [e, if_false, hfk]
        simp [has, e]
    · rw [addTo_no hh]; exact hs3
end Go.Proofs.YtdejcdmgcckmoaaGreatDoor
namespace Go.Proofs.YtdejcdmgcckmoaaGreatDoor
open Go.RowKit Lr

section
variable {P : Program} {md : Region.Mode} {ops : Array Oper} {Q : Exit → Act → World → Prop}
theorem ready_mem {listed : Array Bool} {i : Nat} (h : i ∈ Region.ready md ops listed) : i < ops.size ∧ listed.getD i true = false := by
  simp only [Region.ready, List.mem_filter, List.mem_range, Bool.and_eq_true, Bool.not_eq_true'] at h
  exact ⟨h.1, h.2.1⟩
/-- A region that draws its order, by what holds whichever operations have been done. -/
theorem wpAny_inv {I : Array Bool → Act → World → Prop} (hstep : ∀ listed a w, listed.size = ops.size → I listed a w → ∀ i ∈ Region.ready md ops listed, wpOp P ops Q i (I (listed.setIfInBounds i true)) a w)
    (hdone : ∀ listed a w, listed.size = ops.size → I listed a w → Region.ready md ops listed = [] → Q .normal a w) :
    ∀ (fuel : Nat) (listed : Array Bool) (a : Act) (w : World), I listed a w → listed.size = ops.size → listed.toList.countP (· == false) ≤ fuel → wpAny P md ops Q fuel listed a w
  | 0, listed, a, w, hI, hs, hc => by
    have hr : Region.ready md ops listed = [] := by
      cases hr : Region.ready md ops listed with
      | nil => rfl
      | cons i r =>
        obtain ⟨h1, h2⟩ := ready_mem (md := md) (ops := ops) (listed := listed) (i := i) (by rw [hr]; exact List.mem_cons_self ..)
        rw [← hs] at h1
        have h0 : listed.toList.countP (· == false) = 0 := by omega
        rw [List.countP_eq_zero] at h0
        have := h0 listed[i] (by simp)
        rw [Array.getD_eq_getD_getElem?, Array.getElem?_eq_getElem h1] at h2
        simp at h2
        simp [h2] at this
    exact ⟨hr, hdone listed a w hs hI hr⟩
  | fuel + 1, listed, a, w, hI, hs, hc => by
    refine ⟨fun hr => hdone listed a w hs hI hr, fun i hi => ?_⟩
    obtain ⟨h1, h2⟩ := ready_mem hi
    rw [← hs] at h1
    rw [Array.getD_eq_getD_getElem?, Array.getElem?_eq_getElem h1] at h2
    simp only [Option.getD_some] at h2
    refine wpOp_mono (fun a w hI' => wpAny_inv hstep hdone fuel _ a w hI' (by simpa using hs) ?_) (hstep listed a w hs hI i hi)
    have e : (listed.setIfInBounds i true).toList = listed.toList.set i true := by simp
    rw [e, List.countP_set (by simpa using h1)]
    have h3 : listed.toList[i]'(by simpa using h1) = false := by simpa using h2
    simp only [h3]
    have h4 : 0 < listed.toList.countP (· == false) := by
      rw [List.countP_pos_iff]
      exact ⟨false, by rw [← h3]; exact List.getElem_mem _, rfl⟩
    have e1 : ((false : Bool) == false) = true := rfl
    have e2 : ((true : Bool) == false) = false := rfl
    rw [e1, e2]
    simp only [if_true, Bool.false_eq_true, if_false]
    omega
end
end Go.Proofs.YtdejcdmgcckmoaaGreatDoor
