/- The reference: its test of a grammar, heads, terminals. -/
import Derived.Test.YtdejcdmgcckmoaaGreatDoorProg
import Derived.Test.YtdejcdmgcckmoaaGreatDoorYB
namespace Go.Proofs.YtdejcdmgcckmoaaGreatDoor
open Go.RowKit Lr

theorem great_cons (c : UInt8) (s : Str) : greatB (c :: s) = (decide (65 ≤ c.toNat) && decide (c.toNat ≤ 90)) := rfl

set_option maxHeartbeats 400000 in
theorem great_any (s : Str) (w : World) (h : 0 < s.length) :
    Calls Tryz.prog 43 #[sv s] w fun e w' => e = .returned (.bool (greatB s)) ∧ w = w' := by
  cases s with
  | nil => simp at h
  | cons c s =>
    go_enter Tryz.func43, Tryz.ntmps43
    go_wp2
    · have ht : (65 : Int) ≤ (({ data := (c :: s).toArray } : ByteArray)[0]'h).toNat := by assumption
      go_ret
      refine ⟨ret_bool ?_, rfl⟩
      have e : (({ data := (c :: s).toArray } : ByteArray)[0]'h) = c := rfl
      rw [e] at ht
      simp only [e]
      rw [great_cons, decide_eq_true (show 65 ≤ c.toNat by omega), Bool.true_and]
      exact decide_eq_decide.2 (by omega)
    · have ht : ((({ data := (c :: s).toArray } : ByteArray)[0]'h).toNat : Int) < 65 := by assumption
      go_ret
      refine ⟨ret_bool ?_, rfl⟩
      have e : (({ data := (c :: s).toArray } : ByteArray)[0]'h) = c := rfl
      rw [e] at ht
      rw [great_cons, decide_eq_false (by omega), Bool.false_and]

theorem letter_yes {c : UInt8} (h : (97 ≤ (c.toNat : Int) ∧ (c.toNat : Int) ≤ 122) ∨ (65 ≤ (c.toNat : Int) ∧ (c.toNat : Int) ≤ 90)) : letterB c = true := by
  unfold letterB; simp; omega
theorem letter_no {c : UInt8} (h : ¬ ((97 ≤ (c.toNat : Int) ∧ (c.toNat : Int) ≤ 122) ∨ (65 ≤ (c.toNat : Int) ∧ (c.toNat : Int) ≤ 90))) : letterB c = false := by
  unfold letterB; simp; omega
theorem letter_take {s : Str} {k : Nat} (h : k < s.length) (h1 : (s.take k).all letterB = true) (h2 : letterB s[k] = true) : (s.take (k + 1)).all letterB = true := by
  rw [List.take_succ_eq_append_getElem h, List.all_append, h1]; simp [h2]
theorem symbolOk_no {s : Str} {k : Nat} (h : k < s.length) (h2 : letterB s[k] = false) : symbolOkB s = false := by
  have : s.all letterB = false := by
    rw [List.all_eq_false]
    exact ⟨s[k], List.getElem_mem h, by simp [h2]⟩
  simp [symbolOkB, this]

theorem sv_get (s : Str) (i : Nat) (h : i < ({ data := s.toArray } : ByteArray).size) : (({ data := s.toArray } : ByteArray)[i]'h) = s[i]'h := rfl

set_option maxRecDepth 20000 in
set_option maxHeartbeats 1000000 in
theorem symbolOk_any (s : Str) (w : World) (h : s.length ≤ 9223372036854775807) :
    Calls Tryz.prog 42 #[sv s] w fun e w' => e = .returned (.bool (symbolOkB s)) ∧ w = w' := by
  go_enter Tryz.func42, Tryz.ntmps42
  go_wp2
  go_loop [3] (fun i => ∃ k : Nat, k ≤ s.length ∧ i = .int .i64 k ∧ Hid ((s.take k).all letterB = true)) (fun i => s.length - (intOf i).toNat)
  case atStart => exact ⟨0, Nat.zero_le _, rfl, rfl⟩
  case round =>
    obtain ⟨k, hk, rfl, hd⟩ := hrel
    by_cases hlt : k < s.length
    · have hsz : k < ({ data := s.toArray } : ByteArray).size := hlt
      have hs := sv_get s k hsz
      go_wp2
      all_goals (try simp only [sv_get] at *)
      all_goals first
        | (go_round
           case rel => exact ⟨k + 1, by omega, by go_num, letter_take hlt hd.out (letter_yes (by omega))⟩
           case measure => simp [intOf]; omega)
        | (go_ret; exact ⟨ret_bool (symbolOk_no hlt (letter_no (by omega))).symm, rfl⟩)
    · have hsz : ¬ k < ({ data := s.toArray } : ByteArray).size := hlt
      rw [List.take_of_length_le (by omega)] at hd
      go_wp2
      · go_ret
        have hp : 0 < s.length := by assumption
        exact ⟨ret_bool (by rw [symbolOkB, hd.out, decide_eq_true hp]; simp only [Bool.true_and]; exact decide_eq_decide.2 (by omega)), rfl⟩
      · go_ret
        have hp : ¬ 0 < s.length := by assumption
        exact ⟨ret_bool (by rw [symbolOkB, decide_eq_false hp]; simp), rfl⟩
end Go.Proofs.YtdejcdmgcckmoaaGreatDoor
namespace Go.Proofs.YtdejcdmgcckmoaaGreatDoor
open Go.RowKit Lr

theorem GramAt.elem {w : World} {a : Option Addr} {n cap : Nat} {g : Gram} (h : GramAt w (.slice a n cap) g) {k : Nat} (hk : k < g.length) :
    ∃ b o a' cap', a = some ⟨b, o, none⟩ ∧ w.cell? ⟨b, o + k * 2, none⟩ = some (sv g[k].1) ∧ w.cell? ⟨b, o + k * 2 + 1, none⟩ = some (.slice a' g[k].2.length cap') ∧ StrsAt w (.slice a' g[k].2.length cap') g[k].2 := by
  obtain ⟨a1, cap1, e, _, hc⟩ := h
  cases e
  obtain ⟨b, o, rfl, hcc⟩ := hc (by omega)
  obtain ⟨h1, vb, h2, h3⟩ := hcc k hk
  have eg : g.getD k default = g[k] := by simp [List.getD, hk]
  rw [eg] at h1 h3
  obtain ⟨a', cap', rfl, h5, h4⟩ := h3
  exact ⟨b, o, a', cap', rfl, h1, h2, a', cap', rfl, h5, h4⟩
theorem GramAt.cap {w : World} {a : Option Addr} {n cap : Nat} {g : Gram} (h : GramAt w (.slice a n cap) g) : n = g.length ∧ g.length ≤ cap := by
  obtain ⟨a1, cap1, e, h1, _⟩ := h
  cases e
  exact ⟨rfl, h1⟩
theorem GramAt.slice {w : World} {v : Value} {g : Gram} (h : GramAt w v g) : ∃ a cap, v = .slice a g.length cap := by
  obtain ⟨a, cap, rfl, _, _⟩ := h
  exact ⟨a, cap, rfl⟩

set_option maxRecDepth 20000 in
set_option maxHeartbeats 1000000 in
theorem IndexFunc_prod (v : Value) (g : Gram) (w : World) (h : GramAt w v g) (hl : g.length ≤ 100000) (F : Nat) (caps : Array Value) (p : Prd → Bool)
    (hE : ∀ args w, (callFunc F args).run Tryz.prog w = .ok (.enter F args) w)
    (hp : ∀ (k : Nat) (hk : k < g.length) (w' : World) (a' : Option Addr) (cap' : Nat), New w w' → StrsAt w' (.slice a' g[k].2.length cap') g[k].2 →
      Calls Tryz.prog F (#[.agg #[sv g[k].1, .slice a' g[k].2.length cap']] ++ caps) w' fun e w'' => e = .returned (.bool (p g[k])) ∧ New w' w'') :
    Calls Tryz.prog 93 #[v, .func (.func F) #[] caps] w fun e w' => e = .returned (.int .i64 (idxBy p g 0)) ∧ New w w' := by
  obtain ⟨a, cap, rfl⟩ := h.slice
  go_enter Tryz.func93, Tryz.ntmps93
  go_wp2
  go_loopw [8] (fun i wr => ∃ k : Nat, k ≤ g.length ∧ i = .int .i64 k ∧ Hid (idxBy p g 0 = idxBy p (g.drop k) k) ∧ New w wr) (fun i _ => g.length - (intOf i).toNat)
  case atStart => exact ⟨0, Nat.zero_le _, rfl, rfl, New.refl _⟩
  case round =>
    obtain ⟨k, hk, rfl, hd, hn⟩ := hrel
    by_cases hlt : k < g.length
    · have hs := Lib.hid (@idxBy_drop _ p g k hlt)
      obtain ⟨b, o, a', cap', rfl, h1, h2, h3⟩ := h.elem hlt
      have c1 := hn.cell h1
      have c2 := hn.cell h2
      have hq := Lib.hid (hp k hlt wr a' cap' hn (h3.new hn))
      clear h1 h2 h3 h hp
      go_wp2_with fail
      refine hq.out.mono ?_
      rintro e w1 ⟨rfl, hn1⟩
      have hn2 := hn.trans hn1
      clear hq c1 c2 hn hn1
      go_wp2
      · have ht : p g[k] = true := by assumption
        go_ret
        exact ⟨ret_int (by rw [hd.out, hs.out, if_pos ht]), hn2⟩
      · have ht : p g[k] = false := by assumption
        go_roundw
        case rel => exact ⟨k + 1, by omega, by go_num, by rw [hd.out, hs.out, ht]; rfl, hn2⟩
        case measure => simp [intOf]; omega
    · have hs := Lib.hid (@idxBy_end _ p g k hlt)
      go_wp2
      go_ret
      exact ⟨ret_int (by rw [hd.out, hs.out]), hn⟩

set_option maxHeartbeats 400000 in
theorem ContainsFunc_prod (v : Value) (g : Gram) (w : World) (h : GramAt w v g) (hl : g.length ≤ 100000) (F : Nat) (caps : Array Value) (p : Prd → Bool)
    (hE : ∀ args w, (callFunc F args).run Tryz.prog w = .ok (.enter F args) w)
    (hp : ∀ (k : Nat) (hk : k < g.length) (w' : World) (a' : Option Addr) (cap' : Nat), New w w' → StrsAt w' (.slice a' g[k].2.length cap') g[k].2 →
      Calls Tryz.prog F (#[.agg #[sv g[k].1, .slice a' g[k].2.length cap']] ++ caps) w' fun e w'' => e = .returned (.bool (p g[k])) ∧ New w' w'') :
    Calls Tryz.prog 45 #[v, .func (.func F) #[] caps] w fun e w' => e = .returned (.bool (g.any p)) ∧ New w w' := by
  have hq := Lib.hid (IndexFunc_prod v g w h hl F caps p hE hp)
  clear hE hp h
  go_enter Tryz.func45, Tryz.ntmps45
  go_wp2_with (go_at_call 93; refine hq.out.mono ?_; rintro e w' ⟨rfl, hn⟩)
  go_ret
  exact ⟨ret_bool idxBy_ge, hn⟩

theorem enters92 : ∀ args w, (callFunc 92 args).run Tryz.prog w = .ok (.enter 92 args) w := enters_of Tryz.func92 (by kernel_rfl) rfl
set_option maxHeartbeats 400000 in
theorem isHead1_any (s t : Str) (a : Option Addr) (n c b : Nat) (w : World) (h : w.cell? ⟨b, 0, none⟩ = some (sv t)) :
    Calls Tryz.prog 92 #[.agg #[sv s, .slice a n c], .pointer (some ⟨b, 0, none⟩)] w fun e w' => e = .returned (.bool (s == t)) ∧ New w w' := by
  have hb := lt_of_cell h
  go_enter Tryz.func92, Tryz.ntmps92
  go_wp2
  go_ret
  exact ⟨rfl, (New.refl _).alloc _⟩

set_option maxHeartbeats 400000 in
theorem isHead_any (v : Value) (g : Gram) (s : Str) (w : World) (h : GramAt w v g) (hl : g.length ≤ 100000) :
    Calls Tryz.prog 44 #[v, sv s] w fun e w' => e = .returned (.bool (isHead g s)) ∧ New w w' := by
  have hq := Lib.hid (ContainsFunc_prod v g (w.alloc (.cells #[sv s] 9)) (h.new ((New.refl _).alloc _)) hl 92 #[.pointer (some ⟨w.heap.size, 0, none⟩)] (fun p => p.1 == s) enters92
    (fun k hk w' a' cap' hn _ => isHead1_any _ _ _ _ _ _ _ (hn.cell (by simp))))
  go_enter Tryz.func44, Tryz.ntmps44
  go_wp2_with (go_at_call 45; refine hq.out.mono ?_; rintro e w' ⟨rfl, hn⟩)
  go_ret
  exact ⟨rfl, ((New.refl _).alloc _).trans hn⟩
end Go.Proofs.YtdejcdmgcckmoaaGreatDoor
namespace Go.Proofs.YtdejcdmgcckmoaaGreatDoor
open Go.RowKit Lr

theorem StrsAt.elem {w : World} {a : Option Addr} {n cap : Nat} {l : List Str} (h : StrsAt w (.slice a n cap) l) {k : Nat} (hk : k < l.length) :
    ∃ b o, a = some ⟨b, o, none⟩ ∧ w.cell? ⟨b, o + k, none⟩ = some (sv l[k]) := by
  obtain ⟨a1, cap1, e, _, hc⟩ := h
  cases e
  obtain ⟨b, o, rfl, hcc⟩ := hc (by omega)
  have h1 := hcc k hk
  have eg : l.getD k [] = l[k] := by simp [List.getD, hk]
  simp only [eg] at h1
  exact ⟨b, o, rfl, h1⟩
theorem StrsAt.slice {w : World} {v : Value} {l : List Str} (h : StrsAt w v l) : ∃ a cap, v = .slice a l.length cap := by
  obtain ⟨a, cap, rfl, _, _⟩ := h
  exact ⟨a, cap, rfl⟩

set_option maxHeartbeats 400000 in
theorem Index_str (v : Value) (l : List Str) (s : Str) (w : World) (h : StrsAt w v l) (hl : l.length ≤ 9223372036854775807) :
    Calls Tryz.prog 55 #[v, sv s] w fun e w' => e = .returned (.int .i64 (idxOf s l 0)) ∧ w = w' := by
  obtain ⟨a, cap, rfl, _, hc⟩ := h
  go_enter Tryz.func55, Tryz.ntmps55
  go_wp2
  go_loop [5, 8, 10, 11, 12, 13, 14, 15, 16, 18] (fun _ i _ _ _ _ _ _ _ _ => ∃ k : Nat, k ≤ l.length ∧ i = .int .i64 k ∧ Hid (idxOf s l 0 = idxOf s (l.drop k) k)) (fun _ i _ _ _ _ _ _ _ _ => l.length - (intOf i).toNat)
  case atStart => exact ⟨0, Nat.zero_le _, rfl, rfl⟩
  case round =>
    obtain ⟨k, hk, rfl, hd⟩ := hrel
    by_cases hlt : k < l.length
    · have hs := Lib.hid (@idxOf_drop s l k hlt)
      obtain ⟨b, o, rfl, hcc⟩ := hc (by omega)
      have c0 := hcc k hlt
      clear hc hcc
      go_wp2
      · go_ret
        have ht : (s == l[k]) = true := by assumption
        exact ⟨ret_int (by rw [hd.out, hs.out, if_pos ht]), rfl⟩
      · go_round
        case rel =>
          have ht : (s == l[k]) = false := by assumption
          exact ⟨k + 1, by omega, by go_num, by rw [hd.out, hs.out, ht]; rfl⟩
        case measure => simp [intOf]; omega
    · have hs := Lib.hid (@idxOf_end s l k hlt)
      go_wp2
      go_ret
      exact ⟨ret_int (by rw [hd.out, hs.out]), rfl⟩

set_option maxHeartbeats 400000 in
theorem Contains_str (v : Value) (l : List Str) (s : Str) (w : World) (h : StrsAt w v l) (hl : l.length ≤ 9223372036854775807) :
    Calls Tryz.prog 15 #[v, sv s] w fun e w' => e = .returned (.bool (has l s)) ∧ w = w' := by
  go_enter Tryz.func15, Tryz.ntmps15
  go_wp2_with (go_at_call 55; refine (Index_str v l s _ h hl).mono ?_; rintro e w' ⟨rfl, rfl⟩)
  go_ret
  exact ⟨ret_bool idxOf_ge, rfl⟩
theorem New.drewN {w w' : World} (h : New w w') (n : Nat) : New w (w'.drewN n) := ⟨h.os, h.tape, h.output, h.size, h.block⟩

theorem eq_take {l m : List Str} {k : Nat} (h : k < l.length) (h' : k < m.length) (h1 : l.take k = m.take k) (h2 : l[k] = m[k]) : l.take (k + 1) = m.take (k + 1) := by
  rw [List.take_succ_eq_append_getElem h, List.take_succ_eq_append_getElem h', h1, h2]

set_option maxRecDepth 20000 in
set_option maxHeartbeats 1000000 in
theorem Equal_str (v v' : Value) (l m : List Str) (w : World) (h : StrsAt w v l) (h' : StrsAt w v' m) (hl : l.length ≤ 100000000000) (hm : m.length ≤ 100000000000) :
    Calls Tryz.prog 20 #[v, v'] w fun e w' => e = .returned (.bool (l == m)) ∧ New w w' := by
  obtain ⟨a, cap, rfl⟩ := h.slice
  obtain ⟨a', cap', rfl⟩ := h'.slice
  by_cases hne : l.length = m.length
  · have h0 : ((l.length : Int) != (m.length : Int)) = false := by simp [hne]
    have Hne := Lib.hid hne
    have hle1 : l.length ≤ m.length := by omega
    have hle2 : m.length ≤ l.length := by omega
    clear hne
    go_enter Tryz.func20, Tryz.ntmps20
    go_wp2
    go_loopw [13] (fun i wr => ∃ k : Nat, k ≤ l.length ∧ i = .int .i64 k ∧ Hid (l.take k = m.take k) ∧ New w wr) (fun i _ => l.length - (intOf i).toNat)
    case atStart => exact ⟨0, Nat.zero_le _, rfl, rfl, New.refl _⟩
    case round =>
      obtain ⟨k, hk, rfl, hd, hn⟩ := hrel
      by_cases hlt : k < l.length
      · have hlt' : k < m.length := by omega
        obtain ⟨b, o, rfl, h1⟩ := h.elem hlt
        obtain ⟨b', o', rfl, h1'⟩ := h'.elem hlt'
        have c1 := hn.cell h1
        have c1' := hn.cell h1'
        clear h h' h1 h1'
        go_wp2
        go_quiet (fail)
        go_wp2
        · have ht : (!l[k] == m[k]) = true := by assumption
          go_ret
          refine ⟨ret_bool ?_, hn.drewN _⟩
          symm; rw [beq_eq_false_iff_ne]; intro e; subst e; simp at ht
        · have ht : (!l[k] == m[k]) = false := by assumption
          go_roundw
          case rel => exact ⟨k + 1, by omega, by go_num, eq_take hlt hlt' hd.out (by simpa using ht), hn.drewN _⟩
          case measure => simp [intOf]; omega
      · have hz : l.length ≤ k := by omega
        rw [List.take_of_length_le hz, List.take_of_length_le (by omega)] at hd
        go_wp2
        go_ret
        exact ⟨ret_bool (by rw [hd.out]; simp), hn⟩
  · have h0 : ((l.length : Int) != (m.length : Int)) = true := by simp; omega
    go_enter Tryz.func20, Tryz.ntmps20
    go_wp2
    go_ret
    exact ⟨ret_bool (by symm; rw [beq_eq_false_iff_ne]; intro e; rw [e] at hne; exact hne rfl), New.refl _⟩


/-- The call returns a bool; old memory stays. -/
def SomeB (w : World) (e : Ending) (w' : World) : Prop := ∃ b, e = .returned (.bool b) ∧ New w w'

/-! the laws' sizes -/
set_option maxRecDepth 20000 in
set_option maxHeartbeats 400000 in
theorem zzFits3_any (v : Value) (l : List Str) (w : World) (h : StrsAt w v l) (hl : l.length ≤ 9223372036854775807) :
    Calls Tryz.prog 25 #[v] w (SomeB w) := by
  obtain ⟨a, cap, rfl⟩ := h.slice
  go_enter Tryz.func25, Tryz.ntmps25
  go_wp2
  · go_ret
    exact ⟨_, rfl, New.refl _⟩
  · go_loop [10] (fun i => ∃ k : Nat, k ≤ l.length ∧ i = .int .i64 k) (fun i => l.length - (intOf i).toNat)
    case atStart => exact ⟨0, Nat.zero_le _, rfl⟩
    case round =>
      obtain ⟨k, hk, rfl⟩ := hrel
      by_cases hlt : k < l.length
      · obtain ⟨b, o, rfl, c1⟩ := h.elem hlt
        clear h
        go_wp2
        · go_ret
          exact ⟨_, rfl, New.refl _⟩
        · go_round
          case rel => exact ⟨k + 1, by omega, by go_num⟩
          case measure => simp [intOf]; omega
      · go_wp2
        go_ret
        exact ⟨_, rfl, New.refl _⟩
end Go.Proofs.YtdejcdmgcckmoaaGreatDoor
namespace Go.Proofs.YtdejcdmgcckmoaaGreatDoor
open Go.RowKit Lr

/-- What every reading of a grammar gives on sizes. -/
structure Fits (g : Gram) : Prop where
  len : g.length ≤ 9223372036854775807
  head : ∀ p ∈ g, p.1.length ≤ 9223372036854775807
  body : ∀ p ∈ g, p.2.length ≤ 9223372036854775807
  syms : ∀ p ∈ g, ∀ s ∈ p.2, s.length ≤ 9223372036854775807

set_option maxRecDepth 20000 in
set_option maxHeartbeats 400000 in
theorem zzFits2_any (s : Str) (l : List Str) (a : Option Addr) (cap : Nat) (w : World) (h : StrsAt w (.slice a l.length cap) l) (hl : l.length ≤ 9223372036854775807) :
    Calls Tryz.prog 41 #[.agg #[sv s, .slice a l.length cap]] w (SomeB w) := by
  have hq := Lib.hid (zzFits3_any _ _ (w.alloc (.cells #[sv s, .slice a l.length cap] 67)) (h.new ((New.refl _).alloc _)) hl)
  go_enter Tryz.func41, Tryz.ntmps41
  go_wp2_with (go_at_call 25; refine hq.out.mono ?_; rintro e w' ⟨b, rfl, hn⟩; have hn2 := ((New.refl w).alloc _).trans hn; clear hn)
  all_goals (go_ret; exact ⟨_, rfl, by first | assumption | exact (New.refl w).alloc _⟩)

set_option maxRecDepth 20000 in
set_option maxHeartbeats 400000 in
theorem zzFits1_any (v : Value) (g : Gram) (w : World) (h : GramAt w v g) (hf : Fits g) :
    Calls Tryz.prog 11 #[v] w (SomeB w) := by
  obtain ⟨a, cap, rfl⟩ := h.slice
  have hlen := hf.len
  go_enter Tryz.func11, Tryz.ntmps11
  go_wp2
  · go_ret
    exact ⟨_, rfl, New.refl _⟩
  · go_loopw [10] (fun i wr => ∃ k : Nat, k ≤ g.length ∧ i = .int .i64 k ∧ New w wr) (fun i _ => g.length - (intOf i).toNat)
    case atStart => exact ⟨0, Nat.zero_le _, rfl, New.refl _⟩
    case round =>
      obtain ⟨k, hk, rfl, hn⟩ := hrel
      by_cases hlt : k < g.length
      · obtain ⟨b, o, a', cap', rfl, h1, h2, h3⟩ := h.elem hlt
        have c1 := hn.cell h1
        have c2 := hn.cell h2
        have hq := Lib.hid (zzFits2_any g[k].1 g[k].2 a' cap' (wr.alloc (.cells #[sv g[k].1, .slice a' g[k].2.length cap'] 67)) (h3.new (hn.alloc _)) (hf.body _ (List.getElem_mem hlt)))
        have hn' := hn.alloc (.cells #[sv g[k].1, .slice a' g[k].2.length cap'] 67)
        clear h h1 h2 h3 hn
        go_wp2_with (go_at_call 41; refine hq.out.mono ?_; rintro e w1 ⟨bb, rfl, hn1⟩; have hn2 := hn'.trans hn1; clear hn1 hn')
        · go_ret
          exact ⟨_, rfl, hn2⟩
        · go_roundw
          case rel => exact ⟨k + 1, by omega, by go_num, hn2⟩
          case measure => simp [intOf]; omega
      · go_wp2
        go_ret
        exact ⟨_, rfl, hn⟩
end Go.Proofs.YtdejcdmgcckmoaaGreatDoor
namespace Go.Proofs.YtdejcdmgcckmoaaGreatDoor
open Go.RowKit Lr

set_option maxRecDepth 20000 in
set_option maxHeartbeats 1000000 in
theorem IndexFunc_str (v : Value) (l : List Str) (w : World) (h : StrsAt w v l) (hl : l.length ≤ 100000) (F : Nat) (caps : Array Value) (p : Str → Bool)
    (hE : ∀ args w, (callFunc F args).run Tryz.prog w = .ok (.enter F args) w)
    (hp : ∀ (k : Nat) (hk : k < l.length) (w' : World), New w w' →
      Calls Tryz.prog F (#[sv l[k]] ++ caps) w' fun e w'' => e = .returned (.bool (p l[k])) ∧ New w' w'') :
    Calls Tryz.prog 115 #[v, .func (.func F) #[] caps] w fun e w' => e = .returned (.int .i64 (idxBy p l 0)) ∧ New w w' := by
  obtain ⟨a, cap, rfl⟩ := h.slice
  go_enter Tryz.func115, Tryz.ntmps115
  go_wp2
  go_loopw [8] (fun i wr => ∃ k : Nat, k ≤ l.length ∧ i = .int .i64 k ∧ Hid (idxBy p l 0 = idxBy p (l.drop k) k) ∧ New w wr) (fun i _ => l.length - (intOf i).toNat)
  case atStart => exact ⟨0, Nat.zero_le _, rfl, rfl, New.refl _⟩
  case round =>
    obtain ⟨k, hk, rfl, hd, hn⟩ := hrel
    by_cases hlt : k < l.length
    · have hs := Lib.hid (@idxBy_drop _ p l k hlt)
      obtain ⟨b, o, rfl, h1⟩ := h.elem hlt
      have c1 := hn.cell h1
      have hq := Lib.hid (hp k hlt wr hn)
      clear h1 h hp
      go_wp2_with fail
      refine hq.out.mono ?_
      rintro e w1 ⟨rfl, hn1⟩
      have hn2 := hn.trans hn1
      clear hq c1 hn hn1
      go_wp2
      · have ht : p l[k] = true := by assumption
        go_ret
        exact ⟨ret_int (by rw [hd.out, hs.out, if_pos ht]), hn2⟩
      · have ht : p l[k] = false := by assumption
        go_roundw
        case rel => exact ⟨k + 1, by omega, by go_num, by rw [hd.out, hs.out, ht]; rfl, hn2⟩
        case measure => simp [intOf]; omega
    · have hs := Lib.hid (@idxBy_end _ p l k hlt)
      go_wp2
      go_ret
      exact ⟨ret_int (by rw [hd.out, hs.out]), hn⟩

set_option maxHeartbeats 400000 in
theorem ContainsFunc_str (v : Value) (l : List Str) (w : World) (h : StrsAt w v l) (hl : l.length ≤ 100000) (F : Nat) (caps : Array Value) (p : Str → Bool)
    (hE : ∀ args w, (callFunc F args).run Tryz.prog w = .ok (.enter F args) w)
    (hp : ∀ (k : Nat) (hk : k < l.length) (w' : World), New w w' →
      Calls Tryz.prog F (#[sv l[k]] ++ caps) w' fun e w'' => e = .returned (.bool (p l[k])) ∧ New w' w'') :
    Calls Tryz.prog 74 #[v, .func (.func F) #[] caps] w fun e w' => e = .returned (.bool (l.any p)) ∧ New w w' := by
  have hq := Lib.hid (IndexFunc_str v l w h hl F caps p hE hp)
  clear hE hp h
  go_enter Tryz.func74, Tryz.ntmps74
  go_wp2_with (go_at_call 115; refine hq.out.mono ?_; rintro e w' ⟨rfl, hn⟩)
  go_ret
  exact ⟨ret_bool idxBy_ge, hn⟩

theorem enters94 : ∀ args w, (callFunc 94 args).run Tryz.prog w = .ok (.enter 94 args) w := enters_of Tryz.func94 (by kernel_rfl) rfl
set_option maxHeartbeats 400000 in
theorem wordy1_any (s : Str) (out : List Str) (v : Value) (b : Nat) (w : World) (hs : 0 < s.length) (h : w.cell? ⟨b, 0, none⟩ = some v) (hv : StrsAt w v out) (hl : out.length ≤ 100000) :
    Calls Tryz.prog 94 #[sv s, .pointer (some ⟨b, 0, none⟩)] w fun e w' => e = .returned (.bool (greatB s && !has out s)) ∧ New w w' := by
  obtain ⟨a, cap, rfl⟩ := hv.slice
  cases hg : greatB s with
  | true =>
    have h1 := great_any s w hs
    rw [hg] at h1
    have hq := Lib.hid h1
    clear h1 hg
    go_enter Tryz.func94, Tryz.ntmps94
    go_wp2_with (first | (go_at_call 43; refine hq.out.mono ?_; rintro e w' ⟨rfl, rfl⟩) | (go_at_call 15; refine (Contains_str _ out s _ hv (by omega)).mono ?_; rintro e w' ⟨rfl, rfl⟩))
    go_ret
    exact ⟨rfl, New.refl _⟩
  | false =>
    have h1 := great_any s w hs
    rw [hg] at h1
    have hq := Lib.hid h1
    clear h1 hg
    go_enter Tryz.func94, Tryz.ntmps94
    go_wp2_with (first | (go_at_call 43; refine hq.out.mono ?_; rintro e w' ⟨rfl, rfl⟩))
    go_ret
    exact ⟨rfl, New.refl _⟩

theorem enters46 : ∀ args w, (callFunc 46 args).run Tryz.prog w = .ok (.enter 46 args) w := enters_of Tryz.func46 (by kernel_rfl) rfl
set_option maxHeartbeats 400000 in
theorem Grammar1_any (s t : Str) (l m : List Str) (a a2 : Option Addr) (c c2 b : Nat) (w : World) (h : w.cell? ⟨b, 0, none⟩ = some (sv t)) (h2 : w.cell? ⟨b, 1, none⟩ = some (.slice a2 m.length c2))
    (hl : StrsAt w (.slice a l.length c) l) (hm : StrsAt w (.slice a2 m.length c2) m) (hl1 : l.length ≤ 100000) (hm1 : m.length ≤ 100000) :
    Calls Tryz.prog 46 #[.agg #[sv s, .slice a l.length c], .pointer (some ⟨b, 0, none⟩)] w fun e w' => e = .returned (.bool (s == t && l == m)) ∧ New w w' := by
  have hb := lt_of_cell h
  have hn := (New.refl w).alloc (.cells #[sv s, .slice a l.length c] 67)
  cases hst : s == t with
  | true =>
    have hq := Lib.hid (Equal_str _ _ l m _ (hl.new hn) (hm.new hn) (by omega) (by omega))
    go_enter Tryz.func46, Tryz.ntmps46
    go_wp2_with (first | (go_at_call 20; refine hq.out.mono ?_; rintro e w' ⟨rfl, hn1⟩; have hn2 := hn.trans hn1; clear hn1))
    go_ret
    exact ⟨rfl, hn2⟩
  | false =>
    go_enter Tryz.func46, Tryz.ntmps46
    go_wp2_with fail
    go_ret
    exact ⟨rfl, hn⟩
end Go.Proofs.YtdejcdmgcckmoaaGreatDoor
namespace Go.Proofs.YtdejcdmgcckmoaaGreatDoor
open Go.RowKit Lr

theorem T24 : SliceTy Tryz.prog 24 9 1 16 (.string ByteArray.empty) := ⟨Tryz.underlying24, by kernel_rfl, rfl, by omega⟩

/-- A row of the call's own reads as a slice of strings. -/
theorem StrsAt.of_owns {w : World} {base : Nat} {e : TypeId} {v : Value} {l : List Str} (h : w.ownsRow base e 1 v l.length (l.map sv)) : StrsAt w v l := by
  obtain ⟨hlen, hh⟩ := h
  rcases hh with ⟨rfl, h0⟩ | ⟨g, cap, cur, rfl, hb, hg, h1, h2, h3, h4⟩
  · exact ⟨none, 0, by rw [h0], by omega, fun h => by omega⟩
  · refine ⟨some ⟨g, 0, none⟩, cap, rfl, h1, fun _ => ⟨g, 0, rfl, fun j hj => ?_⟩⟩
    have hcell := World.ownsRow.cells (w := w) (base := base) (e := e) (size := 1) (v := .slice (some ⟨g, 0, none⟩) l.length cap) (n := l.length) (xs := l.map sv) ⟨hlen, .inr ⟨g, cap, cur, rfl, hb, hg, h1, h2, h3, h4⟩⟩ (g := g) rfl j (sv l[j]) (by simp [hj])
    have ea : (⟨g, 0, none⟩ : Addr).add j = ⟨g, 0 + j, none⟩ := by unfold Addr.add; split <;> simp_all
    rw [ea] at hcell
    rw [hcell]
    simp [hj]

/-- A slice value that owns its row is a slice. -/
theorem owns_slice {w : World} {base : Nat} {e : TypeId} {size : Nat} {v : Value} {n : Nat} {xs : List Value} (h : w.ownsRow base e size v n xs) : ∃ a cap, v = .slice a n cap := by
  obtain ⟨_, hh⟩ := h
  rcases hh with ⟨rfl, h0⟩ | ⟨g, cap, cur, rfl, _⟩
  · exact ⟨none, 0, by rw [h0]⟩
  · exact ⟨_, _, rfl⟩

/-- A row of strings of the call's own. -/
abbrev Strs (w : World) (B : Nat) (v : Value) (l : List Str) : Prop := w.ownsRow B 9 1 v l.length (l.map sv)
theorem Strs.at {w : World} {B : Nat} {v : Value} {l : List Str} (h : Strs w B v l) : StrsAt w v l := StrsAt.of_owns h
theorem Strs.new {w w' : World} {B : Nat} {v : Value} {l : List Str} (h : Strs w B v l) (hn : New w w') : Strs w' B v l := ownsRow_new h hn
theorem Strs.alloc {w : World} {B : Nat} {v : Value} {l : List Str} (h : Strs w B v l) (o : Obj) : Strs (w.alloc o) B v l := World.ownsRow.alloc h o
theorem Strs.push {w : World} {B : Nat} {v : Value} {l : List Str} {s : Str} (h : w.ownsRow B 9 1 v (l.length + 1) (l.map sv ++ [sv s])) : Strs w B v (l ++ [s]) := by
  unfold Strs; simpa using h

theorem headsF_take {g : Gram} {k : Nat} (h : k < g.length) : headsF (g.take (k + 1)) = addTo (headsF (g.take k)) g[k].1 := by
  have := foldl_take (fun out (p : Prd) => addTo out p.1) [] g default h
  simpa [headsF, List.getD, h] using this
theorem addTo_yes {l : List Str} {s : Str} (h : has l s = true) : addTo l s = l := by simp [addTo, h]
theorem addTo_no {l : List Str} {s : Str} (h : has l s = false) : addTo l s = l ++ [s] := by simp [addTo, h]

set_option maxRecDepth 20000 in
set_option maxHeartbeats 400000 in
theorem Heads_any (v : Value) (g : Gram) (w : World) (h : GramAt w v g) (hl : g.length ≤ 100000) :
    Calls Tryz.prog 16 #[v] w (Gives w fun v' w' => Strs w' w.heap.size v' (headsF g)) := by
  obtain ⟨a, cap, rfl⟩ := h.slice
  go_enter Tryz.func16, Tryz.ntmps16
  go_wp2
  go_loopw [3, 9] (fun out i wr => ∃ k : Nat, k ≤ g.length ∧ i = .int .i64 k ∧ Strs wr w.heap.size out (headsF (g.take k)) ∧ New w wr)
    (fun _ i _ => g.length - (intOf i).toNat)
  case atStart => exact ⟨0, Nat.zero_le _, rfl, World.ownsRow_made _ _ _ (Nat.le_refl _) (Nat.zero_le _) rfl, (New.refl _).alloc _⟩
  case round =>
    obtain ⟨k, hk, rfl, hown, hb⟩ := hrel
    by_cases hlt : k < g.length
    · obtain ⟨b, o, a', cap', rfl, h1, h2, h3⟩ := h.elem hlt
      have c1 := hb.cell h1
      have c2 := hb.cell h2
      have hlen := headsF_len (g.take k)
      simp only [List.length_take] at hlen
      have hT := Lib.hid (headsF_take hlt)
      have hsz : w.heap.size ≤ wr.heap.size := hb.size
      clear h h1 h2 h3
      go_wp2_with (first | (go_at_call 15; refine (Contains_str _ (headsF (g.take k)) _ _ (hown.alloc _).at (by omega)).mono ?_; rintro e w' ⟨rfl, rfl⟩) | (at_builtin; go_must (refine wpList_push _ rfl _ _ _ _ rfl T24 w.heap.size _ _ _ rfl (hown.alloc _) [_] rfl rfl _ _ rfl (by simp) (by omega) (by omega) (by simp; omega) ?_)))
      · intro v' w1 hown1 hgrow hne hat
        have ht : (!has (headsF (g.take k)) g[k].1) = true := by assumption
        have hb1 : New w w1 := Below.push (hb.alloc _) (hown.alloc _) hgrow (by simp; omega)
        have hown2 := Strs.push hown1
        clear hgrow hne hat
        go_wp2
        go_roundw
        case rel => exact ⟨k + 1, by omega, by go_num, by rw [hT.out, addTo_no (by simpa using ht)]; exact hown2, hb1⟩
        case measure => simp [intOf]; omega
      · have ht : (!has (headsF (g.take k)) g[k].1) = false := by assumption
        go_roundw
        case rel => exact ⟨k + 1, by omega, by go_num, by rw [hT.out, addTo_yes (by simpa using ht)]; exact hown.alloc _, hb.alloc _⟩
        case measure => simp [intOf]; omega
    · go_wp2
      go_ret
      rw [List.take_of_length_le (by omega)] at hown
      exact ⟨_, rfl, hown, hb⟩
end Go.Proofs.YtdejcdmgcckmoaaGreatDoor
namespace Go.Proofs.YtdejcdmgcckmoaaGreatDoor
open Go.RowKit Lr

theorem terminals_step {g : Gram} {k : Nat} (h : k < g.length) : terminalsF (g.take (k + 1)) = g[k].2.foldl addT (terminalsF (g.take k)) := by
  have := foldl_take (fun out (p : Prd) => p.2.foldl addT out) [] g default h
  simpa [terminalsF, List.getD, h] using this
theorem fold_step {l : List Str} {out : List Str} {j : Nat} (h : j < l.length) : (l.take (j + 1)).foldl addT out = addT ((l.take j).foldl addT out) l[j] := by
  have := foldl_take addT out l [] h
  simpa [List.getD, h] using this
theorem addT_yes {l : List Str} {s : Str} (h1 : greatB s = false) (h : has l s = false) : addT l s = l ++ [s] := by simp [addT, h, h1]
theorem addT_great {l : List Str} {s : Str} (h1 : greatB s = true) : addT l s = l := by simp [addT, h1]
theorem addT_has {l : List Str} {s : Str} (h1 : has l s = true) : addT l s = l := by simp [addT, h1]

set_option maxRecDepth 20000 in
set_option maxHeartbeats 1000000 in
theorem Terminals_any (v : Value) (g : Gram) (w : World) (h : GramAt w v g) (hm : Sm g) :
    Calls Tryz.prog 14 #[v] w (Gives w fun v' w' => Strs w' w.heap.size v' (terminalsF g)) := by
  obtain ⟨a, cap, rfl⟩ := h.slice
  have hlen := hm.len
  go_enter Tryz.func14, Tryz.ntmps14
  go_wp2
  go_loopw [3, 11] (fun out i wr => ∃ k : Nat, k ≤ g.length ∧ i = .int .i64 k ∧ Strs wr w.heap.size out (terminalsF (g.take k)) ∧ New w wr)
    (fun _ i _ => g.length - (intOf i).toNat)
  case atStart => exact ⟨0, Nat.zero_le _, rfl, World.ownsRow_made _ _ _ (Nat.le_refl _) (Nat.zero_le _) rfl, (New.refl _).alloc _⟩
  case round =>
    obtain ⟨k, hk, rfl, hown, hb⟩ := hrel
    by_cases hlt : k < g.length
    · obtain ⟨b, o, a', cap', rfl, h1, h2, h3⟩ := h.elem hlt
      have c1 := hb.cell h1
      have c2 := hb.cell h2
      have hT := Lib.hid (terminals_step hlt)
      have hmem := List.getElem_mem hlt
      have hbl := hm.body _ hmem
      clear h h1 h2
      go_wp2
      go_loopw [3, 18] (fun out i wq => ∃ j : Nat, j ≤ g[k].2.length ∧ i = .int .i64 j ∧ Strs wq w.heap.size out ((g[k].2.take j).foldl addT (terminalsF (g.take k))) ∧ New w wq)
        (fun _ i _ => g[k].2.length - (intOf i).toNat)
      case atStart => exact ⟨0, Nat.zero_le _, rfl, hown.alloc _, hb.alloc _⟩
      case round =>
        obtain ⟨j, hj, rfl, hown, hb⟩ := hrel
        by_cases hjl : j < g[k].2.length
        · obtain ⟨b2, o2, rfl, h4⟩ := h3.elem hjl
          have c3 := hb.cell h4
          have hS := Lib.hid (@fold_step g[k].2 (terminalsF (g.take k)) j hjl)
          have hsp := hm.sym_pos hmem (List.getElem_mem hjl)
          have hlen2 := terminals_part hm.body hlen k j hlt
          have hsz : w.heap.size ≤ wr.heap.size := hb.size
          clear h3 h4 c1 c2
          generalize hout : (g[k].2.take j).foldl addT (terminalsF (g.take k)) = outl at *
          have Hout := Lib.hid hout
          clear hout
          cases hg : greatB g[k].2[j] with
          | true =>
            have h1 := great_any g[k].2[j] wr hsp
            rw [hg] at h1
            have hq := Lib.hid h1
            have hS2 := Lib.hid (hS.out.trans (addT_great hg))
            clear h1 hg
            go_wp2_with (first | (go_at_call 43; refine hq.out.mono ?_; rintro e w' ⟨rfl, rfl⟩))
            go_roundw
            case rel => exact ⟨j + 1, by omega, by go_num, by rw [hS2.out]; exact hown, hb⟩
            case measure => simp [intOf]; omega
          | false =>
            have h1 := great_any g[k].2[j] wr hsp
            rw [hg] at h1
            have hq := Lib.hid h1
            have Hg := Lib.hid hg
            clear h1 hg
            go_wp2_with (first | (go_at_call 43; refine hq.out.mono ?_; rintro e w' ⟨rfl, rfl⟩) | (go_at_call 15; refine (Contains_str _ outl _ _ hown.at (by omega)).mono ?_; rintro e w' ⟨rfl, rfl⟩) | (at_builtin; go_must (refine wpList_push _ rfl _ _ _ _ rfl T24 w.heap.size _ _ _ rfl hown [_] rfl rfl _ _ rfl (by simp) (by omega) (by omega) (by omega) ?_)))
            · intro v' w1 hown1 hgrow hne hat
              have ht : (!has outl g[k].2[j]) = true := by assumption
              have hb1 : New w w1 := Below.push hb hown hgrow (by omega)
              have hown2 := Strs.push hown1
              clear hgrow hne hat
              go_wp2
              go_roundw
              case rel => exact ⟨j + 1, by omega, by go_num, by rw [hS.out, addT_yes Hg.out (by simpa using ht)]; exact hown2, hb1⟩
              case measure => simp [intOf]; omega
            · have ht : (!has outl g[k].2[j]) = false := by assumption
              go_roundw
              case rel => exact ⟨j + 1, by omega, by go_num, by rw [hS.out, addT_has (by simpa using ht)]; exact hown, hb⟩
              case measure => simp [intOf]; omega
        · have e := Lib.hid (List.take_of_length_le (l := g[k].2) (i := j) (by omega))
          rw [e.out, ← hT.out] at hown
          go_wp2
          go_roundw
          case rel => exact ⟨k + 1, by omega, by go_num, hown, hb⟩
          case measure => simp [intOf]; omega
    · go_wp2
      go_ret
      rw [List.take_of_length_le (by omega)] at hown
      exact ⟨_, rfl, hown, hb⟩
end Go.Proofs.YtdejcdmgcckmoaaGreatDoor
namespace Go.Proofs.YtdejcdmgcckmoaaGreatDoor
open Go.RowKit Lr

theorem ownsRow_one (w : World) (e : TypeId) (x : Value) : (w.alloc (.cells #[x] e)).ownsRow w.heap.size e 1 (.slice (some ⟨w.heap.size, 0, none⟩) 1 1) 1 [x] :=
  ⟨rfl, .inr ⟨w.heap.size, 1, _, rfl, Nat.le_refl _, heap_alloc_new w _, Nat.le_refl _, by unfold maxLen; omega, rfl, rfl⟩⟩

theorem start_get : ∀ {g : Gram} (h : 0 < g.length), Lr.start g = g[0].1
  | _ :: _, _ => rfl

/-- All symbols that `reached` may come to. -/
def symsU (g : Gram) : List Str := Lr.start g :: g.flatMap (·.2)
theorem flat_len : ∀ {g : Gram}, (∀ p ∈ g, p.2.length ≤ 4) → (g.flatMap (·.2)).length ≤ 4 * g.length
  | [], _ => by simp
  | p :: g, h => by
    have h1 := flat_len (g := g) (fun q hq => h q (by simp [hq]))
    have h2 := h p (by simp)
    simp only [List.flatMap_cons, List.length_append, List.length_cons]; omega
theorem symsU_len {g : Gram} (hm : Sm g) : (symsU g).length ≤ 49 := by
  have h1 := flat_len hm.body
  have h2 := hm.len
  simp only [symsU, List.length_cons]; omega
theorem symsU_mem {g : Gram} {k j : Nat} (hk : k < g.length) (hj : j < g[k].2.length) : g[k].2[j] ∈ symsU g :=
  List.mem_cons_of_mem _ (List.mem_flatMap.2 ⟨g[k], List.getElem_mem hk, List.getElem_mem hj⟩)
/-- Rows without doubles of these symbols. -/
def InU (g : Gram) (L : List Str) : Prop := L.Nodup ∧ ∀ x ∈ L, x ∈ symsU g

theorem InU.len {g : Gram} (hm : Sm g) {L : List Str} (h : InU g L) : L.length ≤ 49 := Nat.le_trans (nodup_le h.1 h.2) (symsU_len hm)
theorem InU.snoc {g : Gram} {L : List Str} {s : Str} (h : InU g L) (hs : s ∈ symsU g) (hn : has L s = false) : InU g (L ++ [s]) := by
  refine ⟨?_, ?_⟩
  · rw [List.nodup_append]
    refine ⟨h.1, by simp, ?_⟩
    intro a ha b hb e
    simp at hb
    subst hb; subst e
    exact absurd ha (has_false.1 hn)
  · intro x hx
    rcases List.mem_append.1 hx with hx | hx
    · exact h.2 x hx
    · simp at hx; subst hx; exact hs

set_option maxRecDepth 20000 in
set_option maxHeartbeats 2000000 in
theorem reached_any (v : Value) (g : Gram) (w : World) (h : GramAt w v g) (hm : Sm g) :
    Calls Tryz.prog 47 #[v] w (Gives w fun v' _ => ∃ a n c, v' = .slice a n c ∧ n ≤ 49) := by
  obtain ⟨a, cap, rfl⟩ := h.slice
  have hlen := hm.len
  obtain ⟨b, o, a0, cap0, rfl, h1, h2, h3⟩ := h.elem hm.pos
  have hst := start_get hm.pos
  have Hst := Lib.hid hst
  have hpos := hm.pos
  simp only [Nat.zero_mul, Nat.add_zero] at h1
  clear hst h2 h3
  go_enter Tryz.func47, Tryz.ntmps47
  go_wp2
  clear h1
  go_loopw [3, 4] (fun out i wr => ∃ (k : Nat) (L : List Str), k ≤ L.length ∧ i = .int .i64 k ∧ Strs wr w.heap.size out L ∧ InU g L ∧ New w wr)
    (fun _ i _ => 60 - (intOf i).toNat)
  case atStart => exact ⟨0, [g[0].1], Nat.zero_le _, rfl, ownsRow_one _ _ _, ⟨by simp, by intro x hx; simp at hx; subst hx; rw [← Hst.out]; exact List.mem_cons_self ..⟩, (New.refl _).alloc _⟩
  case round =>
    obtain ⟨k, L, hk, rfl, hown, hU, hb⟩ := hrel
    have hL := hU.len hm
    obtain ⟨ao, co, rfl⟩ := owns_slice hown
    by_cases hlt : k < L.length
    · go_wp2
      go_loopw [3, 22] (fun out i wr => ∃ (j : Nat) (L : List Str), j ≤ g.length ∧ i = .int .i64 j ∧ k < L.length ∧ Strs wr w.heap.size out L ∧ InU g L ∧ New w wr)
        (fun _ i _ => g.length - (intOf i).toNat)
      case atStart => exact ⟨0, L, Nat.zero_le _, rfl, hlt, hown, hU, hb⟩
      case round =>
        clear hown hU hb hL hlt hk
        obtain ⟨j, L, hj, rfl, hkL, hown, hU, hb⟩ := hrel
        have hL := hU.len hm
        obtain ⟨ao, co, rfl⟩ := owns_slice hown
        by_cases hlt : j < g.length
        · obtain ⟨b', o', a', cap', e', h1, h2, h3⟩ := h.elem hlt
          cases e'
          have c1 := hb.cell h1
          have c2 := hb.cell h2
          have hmem := List.getElem_mem hlt
          obtain ⟨bo, oo, rfl, c3⟩ := hown.at.elem hkL
          have l3 := lt_of_cell c3
          have hbl := hm.body _ hmem
          clear h1 h2
          cases ht : (!(g[j].1 == L[k])) with
          | true =>
            go_wp2
            go_quiet (fail)
            go_wp2
            go_roundw
            case rel => exact ⟨j + 1, L, by omega, by go_num, hkL, ((hown.alloc _).new ((New.refl _).drewN _)), hU, (hb.alloc _).drewN _⟩
            case measure => simp [intOf]; omega
          | false =>
            go_wp2
            go_quiet (fail)
            go_wp2
            have hown0 : Strs ((wr.alloc (.cells #[sv g[j].1, .slice a' g[j].2.length cap'] 67)).drewN nq) w.heap.size _ L := (hown.alloc _).new ((New.refl _).drewN _)
            have hb0 : New w ((wr.alloc (.cells #[sv g[j].1, .slice a' g[j].2.length cap'] 67)).drewN nq) := (hb.alloc _).drewN _
            clear hown hb c1 c2 c3 l3
            go_loopw [3, 36] (fun out i wr => ∃ (m : Nat) (L : List Str), m ≤ g[j].2.length ∧ i = .int .i64 m ∧ k < L.length ∧ Strs wr w.heap.size out L ∧ InU g L ∧ New w wr)
              (fun _ i _ => g[j].2.length - (intOf i).toNat)
            case atStart => exact ⟨0, L, Nat.zero_le _, rfl, hkL, hown0, hU, hb0⟩
            case round =>
              clear hown0 hU hb0 hL hj
              obtain ⟨m, L, hmm, rfl, hkL, hown, hU, hb⟩ := hrel
              have hL := hU.len hm
              by_cases hml : m < g[j].2.length
              · obtain ⟨b2, o2, rfl, h4⟩ := h3.elem hml
                have c4 := hb.cell h4
                have hsp := hm.sym_pos hmem (List.getElem_mem hml)
                have hsz : w.heap.size ≤ wr.heap.size := hb.size
                clear h4 h3
                have hq := Lib.hid (great_any g[j].2[m] wr hsp)
                cases hg : greatB g[j].2[m] with
                | true =>
                  rw [hg] at hq
                  clear hg
                  go_wp2_with (first | (go_at_call 43; refine hq.out.mono ?_; rintro e w' ⟨rfl, rfl⟩) | (go_at_call 15; refine (Contains_str _ L _ _ hown.at (by omega)).mono ?_; rintro e w' ⟨rfl, rfl⟩) | (at_builtin; go_must (refine wpList_push _ rfl _ _ _ _ rfl T24 w.heap.size _ _ _ rfl hown [_] rfl rfl _ _ rfl (by simp) (by omega) (by omega) (by omega) ?_)))
                  · intro v' w1 hown1 hgrow hne hat
                    have ht : (!has L g[j].2[m]) = true := by assumption
                    have hb1 : New w w1 := Below.push hb hown hgrow (by omega)
                    have hown2 := Strs.push hown1
                    clear hgrow hne hat
                    go_wp2
                    go_roundw
                    case rel => exact ⟨m + 1, L ++ [g[j].2[m]], by omega, by go_num, by simp; omega, hown2, hU.snoc (symsU_mem hlt hml) (by simpa using ht), hb1⟩
                    case measure => simp [intOf]; omega
                  · go_roundw
                    case rel => exact ⟨m + 1, L, by omega, by go_num, hkL, hown, hU, hb⟩
                    case measure => simp [intOf]; omega
                | false =>
                  rw [hg] at hq
                  clear hg
                  go_wp2_with (first | (go_at_call 43; refine hq.out.mono ?_; rintro e w' ⟨rfl, rfl⟩))
                  go_roundw
                  case rel => exact ⟨m + 1, L, by omega, by go_num, hkL, hown, hU, hb⟩
                  case measure => simp [intOf]; omega
              · go_wp2
                go_roundw
                case rel => exact ⟨j + 1, L, by omega, by go_num, hkL, hown, hU, hb⟩
                case measure => simp [intOf]; omega
        · go_wp2
          go_roundw
          case rel => exact ⟨k + 1, L, by omega, by go_num, hown, hU, hb⟩
          case measure => simp [intOf]; omega
    · go_wp2
      go_ret
      exact ⟨_, rfl, ⟨_, _, _, rfl, hL⟩, hb⟩
end Go.Proofs.YtdejcdmgcckmoaaGreatDoor
namespace Go.Proofs.YtdejcdmgcckmoaaGreatDoor
open Go.RowKit Lr

set_option maxRecDepth 20000 in
set_option maxHeartbeats 2000000 in
theorem wordy_any (v : Value) (g : Gram) (w : World) (h : GramAt w v g) (hm : Sm g) :
    Calls Tryz.prog 48 #[v] w (Gives w fun v' _ => ∃ a c L, v' = .slice a (List.length L) c ∧ Wordy g L) := by
  obtain ⟨a, cap, rfl⟩ := h.slice
  have hlen := hm.len
  have hhl := headsF_len g
  go_enter Tryz.func48, Tryz.ntmps48
  go_wp2
  go_loopw [9] (fun i wr => ∃ (k : Nat) (L : List Str) (v : Value), k ≤ g.length ∧ i = .int .i64 k ∧ wr.heap[w.heap.size + 1]? = some (.cells #[v] 24 (0, 0)) ∧ Strs wr w.heap.size v L ∧ Wordy g L ∧ New w wr)
    (fun i _ => g.length - (intOf i).toNat)
  case atStart =>
    refine ⟨0, [], _, Nat.zero_le _, rfl, ?_, (World.ownsRow_made w #[] 0 (Nat.le_refl _) (Nat.zero_le _) rfl).alloc _, ⟨List.nodup_nil, by simp⟩, ((New.refl _).alloc _).alloc _⟩
    have := heap_alloc_new (w.alloc (.cells #[] 9)) (.cells #[.slice (some ⟨w.heap.size, 0, none⟩) 0 0] 24)
    simpa using this
  case round =>
    obtain ⟨k, L, v, hk, rfl, hbox, hown, hL, hb⟩ := hrel
    have hLl := hL.len
    by_cases hlt : k < g.length
    · go_wp2
      go_loopw [13] (fun i wr => ∃ (j : Nat) (L : List Str) (v : Value), j ≤ g.length ∧ i = .int .i64 j ∧ wr.heap[w.heap.size + 1]? = some (.cells #[v] 24 (0, 0)) ∧ Strs wr w.heap.size v L ∧ Wordy g L ∧ New w wr)
        (fun i _ => g.length - (intOf i).toNat)
      case atStart => exact ⟨0, L, v, Nat.zero_le _, rfl, hbox, hown, hL, hb⟩
      case round =>
        clear hbox hown hL hb hLl
        obtain ⟨j, L, v, hj, rfl, hbox, hown, hL, hb⟩ := hrel
        have hLl := hL.len
        by_cases hlj : j < g.length
        · obtain ⟨b', o', a', cap', e', h1, h2, h3⟩ := h.elem hlj
          cases e'
          have c1 := hb.cell h1
          have c2 := hb.cell h2
          have c3 := cell_of_one hbox
          have l3 := lt_of_block hbox
          have hmem := List.getElem_mem hlj
          have hbl := hm.body _ hmem
          have hsz : w.heap.size ≤ wr.heap.size := hb.size
          obtain ⟨ao, co, rfl⟩ := owns_slice hown
          have hW : New wr (wr.alloc (.cells #[sv g[j].1, .slice a' g[j].2.length cap'] 67)) := (New.refl _).alloc _
          have hq := Lib.hid (Contains_str _ L g[j].1 (wr.alloc (.cells #[sv g[j].1, .slice a' g[j].2.length cap'] 67)) (hown.alloc _).at (by omega))
          cases hh : has L g[j].1 with
          | true =>
            rw [hh] at hq
            clear h h1 h2 hh
            go_wp2_with (first | (go_at_call 15; refine hq.out.mono ?_; rintro e w' ⟨rfl, rfl⟩))
            go_roundw
            case rel => exact ⟨j + 1, L, _, by omega, by go_num, hW.heap hbox, hown.alloc _, hL, hb.alloc _⟩
            case measure => simp [intOf]; omega
          | false =>
            rw [hh] at hq
            have hq2 := Lib.hid (ContainsFunc_str _ g[j].2 _ ((h3.new hb).new hW) (by omega) 94 #[.pointer (some ⟨w.heap.size + 1, 0, none⟩)] (fun s => greatB s && !has L s) enters94
              (fun k hk w' hn => wordy1_any _ L _ _ w' (hm.sym_pos hmem (List.getElem_mem hk)) (hn.cell (hW.cell c3)) (((hown.alloc _).at).new hn) (by omega)))
            have Hh := Lib.hid hh
            have p1 : (wr.alloc (.cells #[sv g[j].1, .slice a' g[j].2.length cap'] 67)).cell? ⟨wr.heap.size, 0, none⟩ = some (sv g[j].1) := by simp
            clear h h1 h2 hh
            cases ha : g[j].2.any fun s => greatB s && !has L s with
            | true =>
              rw [ha] at hq2
              clear ha
              go_wp2_with (first | (go_at_call 15; refine hq.out.mono ?_; rintro e w' ⟨rfl, rfl⟩) | (go_at_call 74; refine hq2.out.mono ?_; rintro e w1 ⟨rfl, hn1⟩))
              go_roundw
              case rel => exact ⟨j + 1, L, _, by omega, by go_num, hn1.heap (hW.heap hbox), Strs.new (hown.alloc _) hn1, hL, (hb.alloc _).trans hn1⟩
              case measure => simp [intOf]; omega
            | false =>
              rw [ha] at hq2
              have hL2 := hL.snoc hm hlj Hh.out ha
              clear ha
              go_wp2_with (first | (go_at_call 15; refine hq.out.mono ?_; rintro e w' ⟨rfl, rfl⟩) | (go_at_call 74; refine hq2.out.mono ?_; rintro e w1 ⟨rfl, hn1⟩; have q1 := hn1.cell p1; have q2 := hn1.cell (hW.cell c3); have q3 : Strs w1 _ _ _ := Strs.new (hown.alloc _) hn1; have q4 : w.heap.size ≤ w1.heap.size := Nat.le_trans hsz (Nat.le_trans hW.size hn1.size); have q5 := hn1.heap (hW.heap hbox); have q6 := (hb.alloc (.cells #[sv g[j].1, .slice a' g[j].2.length cap'] 67)).trans hn1; clear hn1 hq hq2 c1 c2 c3 p1 hW hown hbox hb) | (at_builtin; go_must (refine wpList_push _ rfl _ _ _ _ rfl T24 w.heap.size _ _ _ rfl q3 [_] rfl rfl _ _ rfl (by simp) (by omega) (by omega) (by omega) ?_)))
              intro v' w2 hown1 hgrow hne hat
              have r1 := hgrow.block (w.heap.size + 1) (lt_of_block q5) (fun e => ownBlock_ne q3 q5 (by decide) e.symm)
              have r2 := r1.trans q5
              have c4 := cell_of_one r2
              have f4 := free_of_one r2
              have hb2 : New w w2 := Below.push q6 q3 hgrow (by omega)
              have hown2 := Strs.push hown1
              obtain ⟨ao', co', rfl⟩ := owns_slice hown1
              have hown3 := ownsRow_setCell_other hown2 (a := ⟨w.heap.size + 1, 0, none⟩) (ownBlock_ne hown2 r2 (by decide)) (.slice ao' (L.length + 1) co')
              have r3 := one_setCell r2 (u := .slice ao' (L.length + 1) co')
              have hb3 := hb2.setCell (a := ⟨w.heap.size + 1, 0, none⟩) (by simp) (.slice ao' (L.length + 1) co')
              clear hgrow hne hat r1 r2 q1 q2 q3 q5 q6 hb2 hown1 hown2
              go_wp2
              go_roundw
              case rel => exact ⟨j + 1, L ++ [g[j].1], _, by omega, by go_num, r3, hown3, hL2, hb3⟩
              case measure => simp [intOf]; omega
        · go_wp2
          go_roundw
          case rel => exact ⟨k + 1, L, v, by omega, by go_num, hbox, hown, hL, hb⟩
          case measure => simp [intOf]; omega
    · obtain ⟨ao, co, rfl⟩ := owns_slice hown
      have c1 := cell_of_one hbox
      go_wp2
      go_ret
      exact ⟨_, rfl, ⟨_, _, L, rfl, hL⟩, hb⟩
end Go.Proofs.YtdejcdmgcckmoaaGreatDoor
