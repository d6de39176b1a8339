/- A part of the proofs about gocc: W2. -/
import Derived.Test.YtdejcdmgcckmoaaGreatDoorXW1
namespace Go.Proofs.YtdejcdmgcckmoaaGreatDoor
open Go.RowKit Lr

theorem GramAt.elem {w : World} {a : Option Addr} {n cap : Nat} {g : Gram} (h : GramAt w (.slice a n cap) g) {k : Nat} (hk : k < g.length) :
    ∃ b o a' cap', a = some ⟨b, o, none⟩ ∧ w.cell? ⟨b, o + k * 2, none⟩ = some (sv g[k].1) ∧ w.cell? ⟨b, o + k * 2 + 1, none⟩ = some (.slice a' g[k].2.length cap') ∧ StrsAt w (.slice a' g[k].2.length cap') g[k].2 := by
  obtain ⟨a1, cap1, e, _, hc⟩ := h
  cases e
  obtain ⟨b, o, rfl, hcc⟩ := hc (by omega)
  obtain ⟨h1, vb, h2, h3⟩ := hcc k hk
  have eg : g.getD k default = g[k] := by simp [List.getD, hk]
  rw [eg] at h1 h3
  obtain ⟨a', cap', rfl, h5, h4⟩ := h3
  exact ⟨b, o, a', cap', rfl, h1, h2, a', cap', rfl, h5, h4⟩
theorem GramAt.cap {w : World} {a : Option Addr} {n cap : Nat} {g : Gram} (h : GramAt w (.slice a n cap) g) : n = g.length ∧ g.length ≤ cap := by
  obtain ⟨a1, cap1, e, h1, _⟩ := h
  cases e
  exact ⟨rfl, h1⟩
theorem GramAt.slice {w : World} {v : Value} {g : Gram} (h : GramAt w v g) : ∃ a cap, v = .slice a g.length cap := by
  obtain ⟨a, cap, rfl, _, _⟩ := h
  exact ⟨a, cap, rfl⟩

set_option maxRecDepth 20000 in
set_option maxHeartbeats 1000000 in
theorem IndexFunc_prod (v : Value) (g : Gram) (w : World) (h : GramAt w v g) (hl : g.length ≤ 100000) (F : Nat) (caps : Array Value) (p : Prd → Bool)
    (hE : ∀ args w, (callFunc F args).run Tryz.prog w = .ok (.enter F args) w)
    (hp : ∀ (k : Nat) (hk : k < g.length) (w' : World) (a' : Option Addr) (cap' : Nat), New w w' → StrsAt w' (.slice a' g[k].2.length cap') g[k].2 →
      Calls Tryz.prog F (#[.agg #[sv g[k].1, .slice a' g[k].2.length cap']] ++ caps) w' fun e w'' => e = .returned (.bool (p g[k])) ∧ New w' w'') :
    Calls Tryz.prog 93 #[v, .func (.func F) #[] caps] w fun e w' => e = .returned (.int .i64 (idxBy p g 0)) ∧ New w w' := by
  obtain ⟨a, cap, rfl⟩ := h.slice
  go_enter Tryz.func93, Tryz.ntmps93
  go_wp2
  go_loopw [8] (fun i wr => ∃ k : Nat, k ≤ g.length ∧ i = .int .i64 k ∧ Hid (idxBy p g 0 = idxBy p (g.drop k) k) ∧ New w wr) (fun i _ => g.length - (intOf i).toNat)
  case atStart => exact ⟨0, Nat.zero_le _, rfl, rfl, New.refl _⟩
  case round =>
    obtain ⟨k, hk, rfl, hd, hn⟩ := hrel
    by_cases hlt : k < g.length
    · have hs := Lib.hid (@idxBy_drop _ p g k hlt)
      obtain ⟨b, o, a', cap', rfl, h1, h2, h3⟩ := h.elem hlt
      have c1 := hn.cell h1
      have c2 := hn.cell h2
      have hq := Lib.hid (hp k hlt wr a' cap' hn (h3.new hn))
      clear h1 h2 h3 h hp
      go_wp2_with fail
      refine hq.out.mono ?_
      rintro e w1 ⟨rfl, hn1⟩
      have hn2 := hn.trans hn1
      clear hq c1 c2 hn hn1
      go_wp2
      · have ht : p g[k] = true := by assumption
        go_ret
        exact ⟨ret_int (by rw [hd.out, hs.out, if_pos ht]), hn2⟩
      · have ht : p g[k] = false := by assumption
        go_roundw
        case rel => exact ⟨k + 1, by omega, by go_num, by rw [hd.out, hs.out, ht]; rfl, hn2⟩
        case measure => simp [intOf]; omega
    · have hs := Lib.hid (@idxBy_end _ p g k hlt)
      go_wp2
      go_ret
      exact ⟨ret_int (by rw [hd.out, hs.out]), hn⟩

set_option maxHeartbeats 400000 in
theorem ContainsFunc_prod (v : Value) (g : Gram) (w : World) (h : GramAt w v g) (hl : g.length ≤ 100000) (F : Nat) (caps : Array Value) (p : Prd → Bool)
    (hE : ∀ args w, (callFunc F args).run Tryz.prog w = .ok (.enter F args) w)
    (hp : ∀ (k : Nat) (hk : k < g.length) (w' : World) (a' : Option Addr) (cap' : Nat), New w w' → StrsAt w' (.slice a' g[k].2.length cap') g[k].2 →
      Calls Tryz.prog F (#[.agg #[sv g[k].1, .slice a' g[k].2.length cap']] ++ caps) w' fun e w'' => e = .returned (.bool (p g[k])) ∧ New w' w'') :
    Calls Tryz.prog 45 #[v, .func (.func F) #[] caps] w fun e w' => e = .returned (.bool (g.any p)) ∧ New w w' := by
  have hq := Lib.hid (IndexFunc_prod v g w h hl F caps p hE hp)
  clear hE hp h
  go_enter Tryz.func45, Tryz.ntmps45
  go_wp2_with (go_at_call 93; refine hq.out.mono ?_; rintro e w' ⟨rfl, hn⟩)
  go_ret
  exact ⟨ret_bool idxBy_ge, hn⟩

theorem enters92 : ∀ args w, (callFunc 92 args).run Tryz.prog w = .ok (.enter 92 args) w := enters_of Tryz.func92 (by kernel_rfl) rfl
set_option maxHeartbeats 400000 in
theorem isHead1_any (s t : Str) (a : Option Addr) (n c b : Nat) (w : World) (h : w.cell? ⟨b, 0, none⟩ = some (sv t)) :
    Calls Tryz.prog 92 #[.agg #[sv s, .slice a n c], .pointer (some ⟨b, 0, none⟩)] w fun e w' => e = .returned (.bool (s == t)) ∧ New w w' := by
  have hb := lt_of_cell h
  go_enter Tryz.func92, Tryz.ntmps92
  go_wp2
  go_ret
  exact ⟨rfl, (New.refl _).alloc _⟩

set_option maxHeartbeats 400000 in
theorem isHead_any (v : Value) (g : Gram) (s : Str) (w : World) (h : GramAt w v g) (hl : g.length ≤ 100000) :
    Calls Tryz.prog 44 #[v, sv s] w fun e w' => e = .returned (.bool (isHead g s)) ∧ New w w' := by
  have hq := Lib.hid (ContainsFunc_prod v g (w.alloc (.cells #[sv s] 9)) (h.new ((New.refl _).alloc _)) hl 92 #[.pointer (some ⟨w.heap.size, 0, none⟩)] (fun p => p.1 == s) enters92
    (fun k hk w' a' cap' hn _ => isHead1_any _ _ _ _ _ _ _ (hn.cell (by simp))))
  go_enter Tryz.func44, Tryz.ntmps44
  go_wp2_with (go_at_call 45; refine hq.out.mono ?_; rintro e w' ⟨rfl, hn⟩)
  go_ret
  exact ⟨rfl, ((New.refl _).alloc _).trans hn⟩
end Go.Proofs.YtdejcdmgcckmoaaGreatDoor
