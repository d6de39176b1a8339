/- A part of the proofs about gocc: G1. -/
import Derived.Test.YtdejcdmgcckmoaaGreatDoorXS3
import Derived.Test.YtdejcdmgcckmoaaGreatDoorXS5
import Derived.Lib.SliceRun
namespace Go.Proofs.YtdejcdmgcckmoaaGreatDoor
open Go.RowKit Lr

def toldS (s : Str) : Str := if s = eofS then endS else s
theorem told_any (s : Str) (w : World) : Calls Tryz.prog 52 #[sv s] w fun e w' => e = .returned (sv (toldS s)) ∧ w = w' := by
  unfold toldS
  by_cases h : s = eofS
  · rw [if_pos h]
    have hd : (s == [226, 144, 154]) = true := by rw [h]; rfl
    clear h
    go_enter Tryz.func52, Tryz.ntmps52
    go_wp2
    go_ret
    exact ⟨rfl, rfl⟩
  · rw [if_neg h]
    have hd : (s == [226, 144, 154]) = false := beq_eq_false_iff_ne.2 h
    clear h
    go_enter Tryz.func52, Tryz.ntmps52
    go_wp2
    go_ret
    exact ⟨rfl, rfl⟩

theorem NTList_any {w : World} {B p m1 m2 m3 : Nat} {r2 r4 r5 : Value} {tm nt nk : List Str} {n : Nat} (st : SymSt w B p m1 m2 m3 r2 r4 r5 tm nt nk n) :
    Calls Tryz.prog 54 #[.pointer (some ⟨p, 0, none⟩)] w fun e w' => e = .returned r2 ∧ w = w' := by
  have c0 := cell_of_blk st.blk 2
  simp only [List.getElem?_toArray, List.getElem?_cons_zero, List.getElem?_cons_succ] at c0
  obtain ⟨a, k, rfl⟩ := owns_slice st.ntr
  clear st
  go_enter Tryz.func54, Tryz.ntmps54
  go_wp2
  go_ret
  exact ⟨rfl, rfl⟩

theorem StrsAt.news {w : World} {a : Option Addr} {n c : Nat} {l : List Str} (h : StrsAt w (.slice a n c) l) (h0 : 0 < l.length) : ∃ b o, a = some ⟨b, o, none⟩ ∧ ∀ j u, (l.map sv)[j]? = some u → w.cell? ((⟨b, o, none⟩ : Addr).add j) = some u := by
  obtain ⟨a', c', e, _, hc⟩ := h
  cases e
  obtain ⟨b, o, rfl, hcc⟩ := hc h0
  refine ⟨b, o, rfl, fun j u hu => ?_⟩
  have ea : (⟨b, o, none⟩ : Addr).add j = ⟨b, o + j, none⟩ := by unfold Addr.add; split <;> simp_all
  rw [ea]
  rw [List.getElem?_map, Option.map_eq_some_iff] at hu
  obtain ⟨s, hs, rfl⟩ := hu
  have hj : j < l.length := (List.getElem?_eq_some_iff.1 hs).1
  rw [hcc j hj]
  simp [List.getD, hs]

set_option maxRecDepth 20000 in
set_option maxHeartbeats 1000000 in
theorem Clone_str (v : Value) (l : List Str) (w : World) (h : StrsAt w v l) (h0 : 0 < l.length) (hl : l.length ≤ 100000) :
    Calls Tryz.prog 53 #[v] w fun e w' => ∃ v', e = .returned v' ∧ StrsAt w' v' l ∧ New w w' := by
  obtain ⟨a, cap, rfl⟩ := h.slice
  obtain ⟨b, o, rfl, hnews⟩ := h.news h0
  have hq : ∀ w, (binOp .eql 24 (.slice (some ⟨b, o, none⟩) l.length cap) (.slice none 0 0)).run Tryz.prog w = .ok (.bool false) w := fun _ => by kernel_rfl
  have hown : (w.alloc (.cells #[] 9)).ownsRow w.heap.size 9 1 (.slice (some ⟨w.heap.size, 0, none⟩) 0 0) 0 [] := World.ownsRow_made w #[] 0 (Nat.le_refl _) (Nat.zero_le _) rfl
  have HN := Lib.hid hnews
  clear h hnews
  go_enter Tryz.func53, Tryz.ntmps53
  go_wp2_with (at_builtin; refine wpList_extend _ rfl _ _ _ _ rfl T24 w.heap.size _ _ _ rfl hown ⟨b, o, none⟩ l.length cap (l.map sv) rfl (by simp) (fun j u hu => ((New.refl w).alloc (.cells #[] 9)).cell (HN.out j u hu)) (by intro u hu; simp at hu; obtain ⟨s, _, rfl⟩ := hu; rfl) (by omega) (by omega) (by simp) ?_)
  intro v' w2 hown2 hg
  go_wp2
  go_ret
  refine ⟨v', rfl, StrsAt.of_owns (base := w.heap.size) (e := 9) (by simpa using hown2), Below.grown ((New.refl w).alloc _) hg (by simp) (fun k hk => by simp [Value.ownBlock] at hk; omega)⟩
end Go.Proofs.YtdejcdmgcckmoaaGreatDoor
