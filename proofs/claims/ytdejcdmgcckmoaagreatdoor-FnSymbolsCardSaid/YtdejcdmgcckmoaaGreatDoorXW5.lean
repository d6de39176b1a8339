/- A part of the proofs about gocc: W5. -/
import Derived.Test.YtdejcdmgcckmoaaGreatDoorXW4
namespace Go.Proofs.YtdejcdmgcckmoaaGreatDoor
open Go.RowKit Lr

set_option maxRecDepth 20000 in
set_option maxHeartbeats 1000000 in
theorem IndexFunc_str (v : Value) (l : List Str) (w : World) (h : StrsAt w v l) (hl : l.length ≤ 100000) (F : Nat) (caps : Array Value) (p : Str → Bool)
    (hE : ∀ args w, (callFunc F args).run Tryz.prog w = .ok (.enter F args) w)
    (hp : ∀ (k : Nat) (hk : k < l.length) (w' : World), New w w' →
      Calls Tryz.prog F (#[sv l[k]] ++ caps) w' fun e w'' => e = .returned (.bool (p l[k])) ∧ New w' w'') :
    Calls Tryz.prog 115 #[v, .func (.func F) #[] caps] w fun e w' => e = .returned (.int .i64 (idxBy p l 0)) ∧ New w w' := by
  obtain ⟨a, cap, rfl⟩ := h.slice
  go_enter Tryz.func115, Tryz.ntmps115
  go_wp2
  go_loopw [8] (fun i wr => ∃ k : Nat, k ≤ l.length ∧ i = .int .i64 k ∧ Hid (idxBy p l 0 = idxBy p (l.drop k) k) ∧ New w wr) (fun i _ => l.length - (intOf i).toNat)
  case atStart => exact ⟨0, Nat.zero_le _, rfl, rfl, New.refl _⟩
  case round =>
    obtain ⟨k, hk, rfl, hd, hn⟩ := hrel
    by_cases hlt : k < l.length
    · have hs := Lib.hid (@idxBy_drop _ p l k hlt)
      obtain ⟨b, o, rfl, h1⟩ := h.elem hlt
      have c1 := hn.cell h1
      have hq := Lib.hid (hp k hlt wr hn)
      clear h1 h hp
      go_wp2_with fail
      refine hq.out.mono ?_
      rintro e w1 ⟨rfl, hn1⟩
      have hn2 := hn.trans hn1
      clear hq c1 hn hn1
      go_wp2
      · have ht : p l[k] = true := by assumption
        go_ret
        exact ⟨ret_int (by rw [hd.out, hs.out, if_pos ht]), hn2⟩
      · have ht : p l[k] = false := by assumption
        go_roundw
        case rel => exact ⟨k + 1, by omega, by go_num, by rw [hd.out, hs.out, ht]; rfl, hn2⟩
        case measure => simp [intOf]; omega
    · have hs := Lib.hid (@idxBy_end _ p l k hlt)
      go_wp2
      go_ret
      exact ⟨ret_int (by rw [hd.out, hs.out]), hn⟩

set_option maxHeartbeats 400000 in
theorem ContainsFunc_str (v : Value) (l : List Str) (w : World) (h : StrsAt w v l) (hl : l.length ≤ 100000) (F : Nat) (caps : Array Value) (p : Str → Bool)
    (hE : ∀ args w, (callFunc F args).run Tryz.prog w = .ok (.enter F args) w)
    (hp : ∀ (k : Nat) (hk : k < l.length) (w' : World), New w w' →
      Calls Tryz.prog F (#[sv l[k]] ++ caps) w' fun e w'' => e = .returned (.bool (p l[k])) ∧ New w' w'') :
    Calls Tryz.prog 74 #[v, .func (.func F) #[] caps] w fun e w' => e = .returned (.bool (l.any p)) ∧ New w w' := by
  have hq := Lib.hid (IndexFunc_str v l w h hl F caps p hE hp)
  clear hE hp h
  go_enter Tryz.func74, Tryz.ntmps74
  go_wp2_with (go_at_call 115; refine hq.out.mono ?_; rintro e w' ⟨rfl, hn⟩)
  go_ret
  exact ⟨ret_bool idxBy_ge, hn⟩

theorem enters94 : ∀ args w, (callFunc 94 args).run Tryz.prog w = .ok (.enter 94 args) w := enters_of Tryz.func94 (by kernel_rfl) rfl
set_option maxHeartbeats 400000 in
theorem wordy1_any (s : Str) (out : List Str) (v : Value) (b : Nat) (w : World) (hs : 0 < s.length) (h : w.cell? ⟨b, 0, none⟩ = some v) (hv : StrsAt w v out) (hl : out.length ≤ 100000) :
    Calls Tryz.prog 94 #[sv s, .pointer (some ⟨b, 0, none⟩)] w fun e w' => e = .returned (.bool (greatB s && !has out s)) ∧ New w w' := by
  obtain ⟨a, cap, rfl⟩ := hv.slice
  cases hg : greatB s with
  | true =>
    have h1 := great_any s w hs
    rw [hg] at h1
    have hq := Lib.hid h1
    clear h1 hg
    go_enter Tryz.func94, Tryz.ntmps94
    go_wp2_with (first | (go_at_call 43; refine hq.out.mono ?_; rintro e w' ⟨rfl, rfl⟩) | (go_at_call 15; refine (Contains_str _ out s _ hv (by omega)).mono ?_; rintro e w' ⟨rfl, rfl⟩))
    go_ret
    exact ⟨rfl, New.refl _⟩
  | false =>
    have h1 := great_any s w hs
    rw [hg] at h1
    have hq := Lib.hid h1
    clear h1 hg
    go_enter Tryz.func94, Tryz.ntmps94
    go_wp2_with (first | (go_at_call 43; refine hq.out.mono ?_; rintro e w' ⟨rfl, rfl⟩))
    go_ret
    exact ⟨rfl, New.refl _⟩

theorem enters46 : ∀ args w, (callFunc 46 args).run Tryz.prog w = .ok (.enter 46 args) w := enters_of Tryz.func46 (by kernel_rfl) rfl
set_option maxHeartbeats 400000 in
theorem Grammar1_any (s t : Str) (l m : List Str) (a a2 : Option Addr) (c c2 b : Nat) (w : World) (h : w.cell? ⟨b, 0, none⟩ = some (sv t)) (h2 : w.cell? ⟨b, 1, none⟩ = some (.slice a2 m.length c2))
    (hl : StrsAt w (.slice a l.length c) l) (hm : StrsAt w (.slice a2 m.length c2) m) (hl1 : l.length ≤ 100000) (hm1 : m.length ≤ 100000) :
    Calls Tryz.prog 46 #[.agg #[sv s, .slice a l.length c], .pointer (some ⟨b, 0, none⟩)] w fun e w' => e = .returned (.bool (s == t && l == m)) ∧ New w w' := by
  have hb := lt_of_cell h
  have hn := (New.refl w).alloc (.cells #[sv s, .slice a l.length c] 67)
  cases hst : s == t with
  | true =>
    have hq := Lib.hid (Equal_str _ _ l m _ (hl.new hn) (hm.new hn) (by omega) (by omega))
    go_enter Tryz.func46, Tryz.ntmps46
    go_wp2_with (first | (go_at_call 20; refine hq.out.mono ?_; rintro e w' ⟨rfl, hn1⟩; have hn2 := hn.trans hn1; clear hn1))
    go_ret
    exact ⟨rfl, hn2⟩
  | false =>
    go_enter Tryz.func46, Tryz.ntmps46
    go_wp2_with fail
    go_ret
    exact ⟨rfl, hn⟩
end Go.Proofs.YtdejcdmgcckmoaaGreatDoor
