/- A part of the proofs about gocc: S5. -/
import Derived.Test.YtdejcdmgcckmoaaGreatDoorXS4
import Derived.Deep.DeepCutAuto
import Derived.Deep.RegionHeld3
namespace Go.Proofs.YtdejcdmgcckmoaaGreatDoor
open Go.RowKit Lr

theorem T93 : SliceTy Tryz.prog 93 97 1 8 (.pointer none) := ⟨Tryz.underlying93, by kernel_rfl, rfl, by omega⟩
theorem T141 : SliceTy Tryz.prog 141 207 1 16 .nilIface := ⟨Tryz.underlying141, by kernel_rfl, rfl, by omega⟩

set_option maxRecDepth 20000 in
set_option maxHeartbeats 1000000 in
theorem NewSyntaxPart_any (a : Option Addr) (n c : Nat) (w : World) :
    Calls Tryz.prog 127 #[.nilIface, .iface 93 (.slice a n c)] w fun e w' => ∃ q, e = .returned (.tuple #[.pointer (some ⟨q, 0, none⟩), .nilIface]) ∧ w'.cell? ⟨q, 1, none⟩ = some (.slice a n c) ∧ (∃ k, w'.cell? ⟨q, 0, none⟩ = some (.pointer (some ⟨k, 0, none⟩))) ∧ New w w' := by
  have hta : ∀ w : World, (Instr.typeAssert (.iface 93 (.slice a n c)) 20 93 false).run Tryz.prog w = .ok (.slice a n c) w := fun _ => by kernel_rfl
  have he1 : ∀ w : World, (binOp .neq 20 .nilIface .nilIface).run Tryz.prog w = .ok (.bool false) w := fun _ => by kernel_rfl
  have he2 : ∀ w : World, (binOp .neq 20 (.iface 93 (.slice a n c)) .nilIface).run Tryz.prog w = .ok (.bool true) w := fun _ => by kernel_rfl
  go_enter Tryz.func127, Tryz.ntmps127
  go_wp2
  go_ret2
  exact ⟨w.heap.size, rfl, by simp, ⟨w.heap.size + 1, by simp⟩, ((New.refl _).alloc _).alloc _⟩

theorem row_cells {w : World} {B : Nat} {e : TypeId} {v : Value} {n : Nat} {xs : List Value} (h : w.ownsRow B e 1 v n xs) :
    xs.length = n ∧ ∃ a cap, v = .slice a n cap ∧ n ≤ cap ∧ (0 < n → ∃ b, a = some ⟨b, 0, none⟩ ∧ ∀ j u, xs[j]? = some u → w.cell? ⟨b, 0 + j, none⟩ = some u) := by
  have hq := h
  obtain ⟨hlen, hh⟩ := h
  refine ⟨by omega, ?_⟩
  rcases hh with ⟨rfl, h0⟩ | ⟨g, cap, cur, rfl, hb, hg, h1, h2, h3, h4⟩
  · exact ⟨none, 0, by rw [h0], by omega, fun h => by omega⟩
  · refine ⟨some ⟨g, 0, none⟩, cap, rfl, h1, fun _ => ⟨g, rfl, fun j u hj => ?_⟩⟩
    have hcell := World.ownsRow.cells hq (g := g) rfl j u hj
    have ea : (⟨g, 0, none⟩ : Addr).add j = ⟨g, 0 + j, none⟩ := by unfold Addr.add; split <;> simp_all
    rw [← ea]
    exact hcell

/-- `append(s, x...)` onto a row of the call's own. -/
theorem wpList_extend {P : Program} {ops : Array Oper} {rest : List Oper} {o : Oper} {a : Act} {Q : Exit → Act → World → Prop} (W : World) (hgd : o.guard = none) (s x : Operand) (t e : TypeId)
    (ho : o.op = .call { callee := .builtin .append, args := #[s, x], argTypes := #[t, t] }) {bytes : Nat} {z : Value} (T : SliceTy P t e 1 bytes z)
    (B : Nat) (v : Value) (n : Nat) (xs : List Value) (hs : a.eval s = v) (hown : W.ownsRow B e 1 v n xs) (ad : Addr) (m c : Nat) (news : List Value) (hx : a.eval x = .slice (some ad) m c) (hl : news.length = m)
    (hnews : ∀ j u, news[j]? = some u → W.cell? (ad.add j) = some u) (h1 : ∀ u ∈ news, u.oneCell' = true) (hbytes : (n + m) * bytes ≤ 140737488355328) (hlen : n + m ≤ 140737488355328) (hbase : B ≤ W.heap.size)
    (h : ∀ v' w', w'.ownsRow B e 1 v' (n + m) (xs ++ news) → W.grownBy w' v.ownBlock → wpList P ops Q rest (a.put o.dst v') w') :
    wpList P ops Q (o :: rest) a W := by
  obtain ⟨i, hi, hz0, hz1, hz2⟩ := info_parts T.row
  exact wpList_append_own_at W hgd s x t ho B e i z 1 bytes T.und hi hz0 hz1 hz2 T.cells T.pos v n xs hs hown ad m c news hx (by omega) hnews h1 (by unfold maxLen; omega) hbytes hbase fun v' w' h1 h2 _ _ => h v' w' h1 h2

/-- The pointers of a list of productions. -/
theorem ProdsAt.ptrs {w : World} {v : Value} {L : List AP} (h : ProdsAt w v L) (hL : 0 < L.length) : ∃ b o cap, ∃ ps : List Value, v = .slice (some ⟨b, o, none⟩) L.length cap ∧ ps.length = L.length ∧
    (∀ j u, ps[j]? = some u → w.cell? ⟨b, o + j, none⟩ = some u) ∧ (∀ u ∈ ps, u.oneCell' = true) ∧ ∀ j, (hj : j < L.length) → ∃ u, ps[j]? = some u ∧ ProdPtr w u L[j] := by
  obtain ⟨a, cap, rfl, _, hc⟩ := h
  obtain ⟨b, o, rfl, hcc⟩ := hc hL
  refine ⟨b, o, cap, (List.range L.length).map fun j => (w.cell? ⟨b, o + j, none⟩).getD .nilIface, rfl, by simp, ?_, ?_, ?_⟩
  · intro j u hj
    by_cases hlt : j < L.length
    · obtain ⟨pv, hp, _⟩ := hcc j hlt
      simpa [hlt, hp] using hj
    · simp [hlt] at hj
  · intro u hu
    simp only [List.mem_map, List.mem_range] at hu
    obtain ⟨j, hj, rfl⟩ := hu
    obtain ⟨pv, hp, _, _, _, _, rfl, _⟩ := hcc j hj
    rw [hp]; rfl
  · intro j hj
    obtain ⟨pv, hp, hq⟩ := hcc j hj
    exact ⟨pv, by simp [hj, hp], hq⟩

/-- A row of pointers to productions is a list of productions. -/
theorem ProdsAt.of_row {w : World} {B : Nat} {v : Value} {L : List AP} {ps : List Value} (h : w.ownsRow B 97 1 v L.length ps) (hp : ∀ j, (hj : j < L.length) → ∃ u, ps[j]? = some u ∧ ProdPtr w u L[j]) : ProdsAt w v L := by
  obtain ⟨_, a, cap, rfl, hcap, hc⟩ := row_cells h
  refine ⟨a, cap, rfl, hcap, fun hL => ?_⟩
  obtain ⟨b, rfl, hcc⟩ := hc hL
  refine ⟨b, 0, rfl, fun j hj => ?_⟩
  obtain ⟨u, hu, hpu⟩ := hp j hj
  exact ⟨u, hcc j u hu, hpu⟩

theorem step_extend {P : Program} {w : World} {ops : Array Oper} {o : Oper} {a : Act} {K : Act → World → Prop} {E : Prop} {Q : Exit → Act → World → Prop} (hgd : o.guard = none) (s x : Operand) (t e : TypeId)
    (ho : o.op = .call { callee := .builtin .append, args := #[s, x], argTypes := #[t, t] }) {bytes : Nat} {z : Value} (T : SliceTy P t e 1 bytes z)
    (B : Nat) (v : Value) (n : Nat) (xs : List Value) (hs : a.eval s = v) (hown : w.ownsRow B e 1 v n xs) (ad : Addr) (m c : Nat) (news : List Value) (hx : a.eval x = .slice (some ad) m c) (hl : news.length = m) (hm : 0 < m)
    (hnews : ∀ j u, news[j]? = some u → w.cell? (ad.add j) = some u) (h1 : ∀ u ∈ news, u.oneCell' = true) (hbytes : (n + m) * bytes ≤ 140737488355328) (hlen : n + m ≤ 140737488355328) (hbase : B ≤ w.heap.size)
    (h : ∀ g cap w', w'.ownsRow B e 1 (.slice (some ⟨g, 0, none⟩) (n + m) cap) (n + m) (xs ++ news) → w.grownBy w' v.ownBlock → K (a.put o.dst (.slice (some ⟨g, 0, none⟩) (n + m) cap)) w') :
    if Region.wanted o (yielded ops a.tmps) = true then Oper.wp P o a w K Q else E := by
  obtain ⟨i, hi, hz0, hz1, hz2⟩ := info_parts T.row
  exact step_append_lies w hgd s x t ho B e i z 1 bytes T.und hi hz0 hz1 hz2 T.cells T.pos v n xs hs hown ad m c news hx (by omega) hnews h1 hm (by unfold maxLen; omega) hbytes hbase _ rfl fun g cap w' h1 h2 _ _ => h g cap w' h1 h2

abbrev augW (w : World) (s : Str) : World := (((w.alloc (.cells #[.iface 142 (sv s)] 207)).alloc (.cells #[.bool false, .slice (some ⟨w.heap.size, 0, none⟩) 1 1, .string { data := #[] }] 192)).alloc
  (.cells #[.string { data := #[83, 39] }, .pointer (some ⟨w.heap.size + 1, 0, none⟩)] 148)).alloc (.cells #[.pointer (some ⟨w.heap.size + 1 + 1, 0, none⟩)] 97)
theorem aug_world (w : World) (s : Str) : New w (augW w s) ∧ (∃ W3 : World, W3.heap.size = w.heap.size + 1 + 1 + 1 ∧ New W3 (augW w s) ∧ ProdPtr W3 (.pointer (some ⟨w.heap.size + 1 + 1, 0, none⟩)) (startS, [.nt s])) ∧
    (augW w s).ownsRow (w.heap.size + 1 + 1 + 1) 97 1 (.slice (some ⟨w.heap.size + 1 + 1 + 1, 0, none⟩) 1 1) 1 [.pointer (some ⟨w.heap.size + 1 + 1, 0, none⟩)] ∧ (augW w s).heap.size = w.heap.size + 4 := by
  have q1 : (((w.alloc (.cells #[.iface 142 (sv s)] 207)).alloc (.cells #[.bool false, .slice (some ⟨w.heap.size, 0, none⟩) 1 1, .string { data := #[] }] 192)).alloc (.cells #[.string { data := #[83, 39] }, .pointer (some ⟨w.heap.size + 1, 0, none⟩)] 148)).heap[w.heap.size]? = _ := New.heap (((New.refl (w.alloc (.cells #[.iface 142 (sv s)] 207))).alloc _).alloc _) (heap_alloc_new w _)
  have q2 : (((w.alloc (.cells #[.iface 142 (sv s)] 207)).alloc (.cells #[.bool false, .slice (some ⟨w.heap.size, 0, none⟩) 1 1, .string { data := #[] }] 192)).alloc (.cells #[.string { data := #[83, 39] }, .pointer (some ⟨w.heap.size + 1, 0, none⟩)] 148)).heap[w.heap.size + 1]? = some (.cells #[.bool false, .slice (some ⟨w.heap.size, 0, none⟩) 1 1, .string { data := #[] }] 192 (0, 0)) := by
    have := New.heap ((New.refl ((w.alloc (.cells #[.iface 142 (sv s)] 207)).alloc (.cells #[.bool false, .slice (some ⟨w.heap.size, 0, none⟩) 1 1, .string { data := #[] }] 192))).alloc (.cells #[.string { data := #[83, 39] }, .pointer (some ⟨w.heap.size + 1, 0, none⟩)] 148)) (heap_alloc_new (w.alloc (.cells #[.iface 142 (sv s)] 207)) _)
    simpa using this
  have q3 : (((w.alloc (.cells #[.iface 142 (sv s)] 207)).alloc (.cells #[.bool false, .slice (some ⟨w.heap.size, 0, none⟩) 1 1, .string { data := #[] }] 192)).alloc (.cells #[.string { data := #[83, 39] }, .pointer (some ⟨w.heap.size + 1, 0, none⟩)] 148)).heap[w.heap.size + 1 + 1]? = some (.cells #[.string { data := #[83, 39] }, .pointer (some ⟨w.heap.size + 1, 0, none⟩)] 148 (0, 0)) := by
    have := heap_alloc_new ((w.alloc (.cells #[.iface 142 (sv s)] 207)).alloc (.cells #[.bool false, .slice (some ⟨w.heap.size, 0, none⟩) 1 1, .string { data := #[] }] 192)) (.cells #[.string { data := #[83, 39] }, .pointer (some ⟨w.heap.size + 1, 0, none⟩)] 148)
    simpa using this
  refine ⟨((((New.refl _).alloc _).alloc _).alloc _).alloc _, ⟨_, by simp, (New.refl _).alloc _, _, w.heap.size + 1, some ⟨w.heap.size, 0, none⟩, 1, rfl, ?_, ?_, ?_, ⟨_, _, rfl, Nat.le_refl _, fun _ => ⟨w.heap.size, 0, rfl, fun j hj => ?_⟩⟩⟩, ?_, by simp⟩
  · rw [cell_of_blk q3]; rfl
  · rw [cell_of_blk q3]; rfl
  · rw [cell_of_blk q2]; rfl
  · obtain rfl : j = 0 := by simp at hj; omega
    rw [cell_of_blk q1]; rfl
  · have := ownsRow_one (((w.alloc (.cells #[.iface 142 (sv s)] 207)).alloc (.cells #[.bool false, .slice (some ⟨w.heap.size, 0, none⟩) 1 1, .string { data := #[] }] 192)).alloc (.cells #[.string { data := #[83, 39] }, .pointer (some ⟨w.heap.size + 1, 0, none⟩)] 148)) 97 (.pointer (some ⟨w.heap.size + 1 + 1, 0, none⟩))
    simpa using this

set_option maxRecDepth 20000 in
set_option maxHeartbeats 1000000 in
theorem augment_any (y k0 : Nat) (z : Value) (L : List AP) (w : World) (h0 : w.cell? ⟨y, 0, none⟩ = some (.pointer (some ⟨k0, 0, none⟩))) (h1 : w.cell? ⟨y, 1, none⟩ = some z) (hP : ProdsAt w z L) (hL : 0 < L.length) (hL2 : L.length ≤ 1000) :
    Calls Tryz.prog 128 #[.pointer (some ⟨y, 0, none⟩)] w fun e w' => ∃ q z', e = .returned (.pointer (some ⟨q, 0, none⟩)) ∧ w'.cell? ⟨q, 1, none⟩ = some z' ∧ ProdsAt w' z' ((startS, [.nt L[0].1]) :: L) ∧ New w w' := by
  obtain ⟨a, cap, rfl⟩ := hP.slice
  obtain ⟨b, o, pb, q, sa, sc, e, g1, g2, g3, g4, g5⟩ := hP.elem hL
  cases e
  have HP := Lib.hid hP
  clear g3 g4 g5 hP
  have lg := World.block_lt_of_cell? w _ h0
  rw [Nat.add_zero] at g1
  go_enter Tryz.func128, Tryz.ntmps128
  go_wp2_with fail
  obtain ⟨hn4, hPP, hown, hsz⟩ := aug_world w L[0].1
  have HPP := Lib.hid hPP
  have HSZ := Lib.hid hsz
  clear hPP
  rw [show World.alloc _ _ = augW w L[0].1 from rfl]
  generalize augW w L[0].1 = W at *
  have h0 := hn4.cell h0
  have h1 := hn4.cell h1
  obtain ⟨b', o', cap', ps, e, hpl, hpc, hp1, hpp⟩ := HP.out.ptrs hL
  cases e
  have hB : w.heap.size + 1 + 1 + 1 ≤ W.heap.size := by omega
  have ly := World.block_lt_of_cell? W _ h0
  have hnews : ∀ j u, ps[j]? = some u → W.cell? ((⟨b, o, none⟩ : Addr).add j) = some u := fun j u hu => by
    have ea : (⟨b, o, none⟩ : Addr).add j = ⟨b, o + j, none⟩ := by unfold Addr.add; split <;> simp_all
    rw [ea]; exact hn4.cell (hpc j u hu)
  have HNW := Lib.hid hnews
  clear hnews
  have HPN := Lib.hid (And.intro hpc (And.intro hp1 hpp))
  have HPL := Lib.hid hpl
  have hpl2 : ps.length ≤ 1000 := by omega
  have hyne : some y ≠ some (w.heap.size + 1 + 1 + 1) := by intro e; injection e with e; omega
  clear hpc hp1 hpp hpl hsz g1 g2
  go_region_held3 (fun w' => w'.cell? ⟨y, 0, none⟩ = some (.pointer (some ⟨k0, 0, none⟩)) ∧ w'.cell? ⟨y, 1, none⟩ = some (.slice (some ⟨b, o, none⟩) L.length cap))
    (first
      | exact ⟨h0, h1⟩
      | exact ⟨(hgrow.cell_far ⟨y, 0, none⟩ ly hyne).trans h0, (hgrow.cell_far ⟨y, 1, none⟩ ly hyne).trans h1⟩
      | exact ⟨(hn5.cell h0), (hn5.cell h1)⟩
      | go_keep)
    ((refine step_extend (by rfl) _ _ _ _ (by rfl) T93 (w.heap.size + 1 + 1 + 1) (.slice (some ⟨w.heap.size + 1 + 1 + 1, 0, none⟩) 1 1) 1 _ (by rfl) (by first | exact hown.drew | exact hown) ⟨b, o, none⟩ L.length cap ps (by rfl) HPL.out hL
        HNW.out HPN.out.2.1 (by omega) (by omega) (by first | exact hB | (simp; omega)) ?_; intro gg cap1 w1 hown1 hgrow))
  go_wp2
  go_ret
  obtain ⟨W3, h3a, h3b, h3c⟩ := HPP.out
  have hg : W.grownBy w1 (some (w.heap.size + 1 + 1 + 1)) := ⟨hgrow.os, hgrow.tape, hgrow.output, hgrow.size, hgrow.block⟩
  have hn1 : New w w1 := Below.grown hn4 hg (by omega) (fun k hk => by injection hk with hk; omega)
  have hWn : Below (w.heap.size + 1 + 1 + 1) W w1 := Below.grown (Below.refl _ W) hg hB (fun k hk => by injection hk with hk; omega)
  have hrow : w1.ownsRow (w.heap.size + 1 + 1 + 1) 97 1 (.slice (some ⟨gg, 0, none⟩) (((startS, [Sy.nt L[0].1]) :: L).length) cap1) (((startS, [Sy.nt L[0].1]) :: L).length) ([.pointer (some ⟨w.heap.size + 1 + 1, 0, none⟩)] ++ ps) := by
    have := hown1
    rw [Nat.add_comm 1 L.length] at this
    exact this
  refine ⟨w1.heap.size, rfl, .slice (some ⟨gg, 0, none⟩) (1 + L.length) cap1, by simp, ?_, hn1.alloc _⟩
  rw [Nat.add_comm 1 L.length]
  have hprod : ∀ j, (hj : j < ((startS, [Sy.nt L[0].1]) :: L).length) → ∃ u, ([Value.pointer (some ⟨w.heap.size + 1 + 1, 0, none⟩)] ++ ps)[j]? = some u ∧ ProdPtr w1 u ((startS, [Sy.nt L[0].1]) :: L)[j] := by
    intro j hj
    cases j with
    | zero => exact ⟨_, rfl, h3c.new (Below.trans h3b (h3a ▸ hWn))⟩
    | succ j =>
      obtain ⟨u, h1, h2⟩ := HPN.out.2.2 j (by simpa using hj)
      exact ⟨u, by simpa using h1, by simpa using h2.new hn1⟩
  exact (ProdsAt.of_row hrow hprod).new ((New.refl w1).alloc _)
end Go.Proofs.YtdejcdmgcckmoaaGreatDoor
