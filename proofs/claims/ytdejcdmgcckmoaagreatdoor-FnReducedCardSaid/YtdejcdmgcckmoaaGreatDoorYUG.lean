/- The library: Grow and Concat of texts; parts of a row; the reductions read back, over plain lists. -/
import Derived.Test.YtdejcdmgcckmoaaGreatDoorYUB
import Derived.Test.YtdejcdmgcckmoaaGreatDoorYX
import Derived.Lib.AppendZerosOnto
import Derived.Test.YtdejcdmgcckmoaaGreatDoorYI
import Derived.Test.YtdejcdmgcckmoaaGreatDoorYUC
namespace Go.Proofs.YtdejcdmgcckmoaaGreatDoor
open Lr

/-! The reductions, read back: each step turns the last head of the row. -/
structure DerI (g : Gram) (row : List Str) (ps : List Nat) (word : List Str) : Prop where
  der : Der g row ps word
  sym : SymsOk g row
theorem DerI.init {g : Gram} (hm : Sm g) {ps : List Nat} {word : List Str} (h : Der g [Lr.start g] ps word) : DerI g [Lr.start g] ps word := ⟨h, syms_start hm⟩
theorem DerI.step {g : Gram} (hm : Sm g) {row : List Str} {p : Nat} {ps : List Nat} {word : List Str} (h : DerI g row (p :: ps) word) :
    ∃ α A b t, row = α ++ A :: t ∧ g[p]? = some (A, b) ∧ greatB A = true ∧ (∀ x ∈ t, greatB x = false) ∧ DerI g (α ++ b ++ t) ps word := by
  obtain ⟨α, A, b, t, rfl, hp, ht, hd⟩ := der_cons h.der
  refine ⟨α, A, b, t, rfl, hp, ?_, fun x hx => ?_, hd, syms_step hm hp h.sym⟩
  · exact (hm.head _ (List.mem_of_getElem? hp)).2
  · rw [(h.sym x (by simp [hx])).2]
    exact ht x hx
theorem DerI.fin {g : Gram} {row word : List Str} (h : DerI g row [] word) : row = word := der_nil h.der
end Go.Proofs.YtdejcdmgcckmoaaGreatDoor
namespace Go.Proofs.YtdejcdmgcckmoaaGreatDoor
open Go.RowKit Go.Sort Lr

/-- Nothing is added: the slice stays. -/
theorem run_append_zero {P : Program} (w : World) (t ty e : TypeId) (i : TypeInfo) (ht : P.underlying t = some (.slice e)) (hi : P.info? e = some i) (a : Option Addr) (n cap : Nat) (hn : n ≤ cap) (ha : a = none → n = 0 ∧ cap = 0) (b : Option Addr) (c : Nat) :
    (Builtin.append_ #[t, t] ty #[.slice a n cap, .slice b 0 c]).run P w = .ok (.slice a n cap) w := by
  cases b with
  | none =>
    cases a with
    | none =>
      obtain ⟨rfl, rfl⟩ := ha rfl
      simp [Builtin.append_, run_underlying ht, sizeOf, typeInfo, hi, Builtin.lenOf, Builtin.firstCells]
    | some a => simp [Builtin.append_, run_underlying ht, sizeOf, typeInfo, hi, Builtin.lenOf, Builtin.firstCells, hn, storeCells]
  | some b =>
    cases a with
    | none =>
      obtain ⟨rfl, rfl⟩ := ha rfl
      simp [Builtin.append_, run_underlying ht, sizeOf, typeInfo, hi, Builtin.lenOf, Builtin.firstCells, loadCells, loadCellsFrom]
    | some a => simp [Builtin.append_, run_underlying ht, sizeOf, typeInfo, hi, Builtin.lenOf, Builtin.firstCells, loadCells, loadCellsFrom, hn, storeCells]
/-- `append(s, l...)` of strings onto a row of the call's own; l may be nil. -/
theorem wpList_appStrs {ops : Array Oper} {rest : List Oper} {o : Oper} {a : Act} {Q : Exit → Act → World → Prop} (W : World) (hgd : o.guard = none) (s x : Operand)
    (ho : o.op = .call { callee := .builtin .append, args := #[s, x], argTypes := #[24, 24] })
    (B : Nat) (v : Value) (L : List Str) (hs : a.eval s = v) (hown : W.ownsRow B 9 1 v L.length (L.map sv)) (vx : Value) (l : List Str) (hx : a.eval x = vx) (hl : StrsAt W vx l)
    (hlen : L.length + l.length ≤ 100000) (hbase : B ≤ W.heap.size)
    (h : ∀ v' w', w'.ownsRow B 9 1 v' (L ++ l).length ((L ++ l).map sv) → W.grownBy w' v.ownBlock → wpList Tryz.prog ops Q rest (a.put o.dst v') w') :
    wpList Tryz.prog ops Q (o :: rest) a W := by
  obtain ⟨b, c, rfl⟩ := hl.slice
  by_cases h0 : 0 < l.length
  · obtain ⟨bb, oo, e, hc⟩ := hl.news h0
    cases e
    refine wpList_extend W hgd s x 24 9 ho T24 B v L.length (L.map sv) hs hown ⟨bb, oo, none⟩ l.length c (l.map sv) hx (by simp) hc (by intro u hu; simp at hu; obtain ⟨s, _, rfl⟩ := hu; rfl) (by omega) (by omega) hbase ?_
    intro v' w' h1 h2
    exact h v' w' (by simpa using h1) h2
  · have hl0 : l = [] := List.eq_nil_of_length_eq_zero (by omega)
    subst hl0
    obtain ⟨i, hi, hz0, hz1, hz2⟩ := info_parts T24.row
    have hv : ∃ av nv cv, v = .slice av nv cv ∧ nv ≤ cv ∧ (av = none → nv = 0 ∧ cv = 0) := by
      rcases hown.2 with ⟨rfl, _⟩ | ⟨g, cap, cur, rfl, _, _, h1, _⟩
      · exact ⟨none, 0, 0, rfl, Nat.le_refl _, fun _ => ⟨rfl, rfl⟩⟩
      · exact ⟨_, _, _, rfl, h1, fun e => by cases e⟩
    obtain ⟨av, nv, cv, rfl, h1, h2⟩ := hv
    refine Lib.wpList_append_run W hgd _ _ _ _ ho _ _ hs hx _ _ (run_append_zero W 24 _ 9 i T24.und hi av nv cv h1 h2 b c) ?_
    exact h _ _ (by simpa using hown) ⟨rfl, rfl, rfl, Nat.le_refl _, fun _ _ _ => rfl⟩
/-- A made row told as strings. -/
theorem strs_of_owns {w : World} {B : Nat} {v : Value} {l : List Str} (h : w.ownsRow B 9 1 v l.length (l.map sv)) : StrsAt w v l := Strs.at h
set_option maxRecDepth 20000 in
set_option maxHeartbeats 1000000 in
/-- `slices.Grow(nil, n)`. -/
theorem GrowS_any (n : Nat) (w : World) (hn : n ≤ 100000) :
    Calls Tryz.prog 123 #[.slice none 0 0, .int .i64 n] w fun e w' => ∃ v', e = .returned v' ∧ w'.ownsRow w.heap.size 9 1 v' 0 [] ∧ New w w' := by
  obtain ⟨i0, hi0, hz0, hz1, hz2⟩ := info_parts T24.row
  by_cases h0 : n = 0
  · subst h0
    go_enter Tryz.func123, Tryz.ntmps123
    go_wp2
    go_ret
    exact ⟨_, rfl, World.ownsRow_nil _ _ _ _, New.refl _⟩
  · have hrz : ∀ ty, (Builtin.append_ #[24, 3] ty #[.slice none 0 0, .int .i64 (n : Int)]).run Tryz.prog w =
        .ok (.slice (some ⟨w.heap.size, 0, none⟩) n (grownCap w n 0 9)) (w.drew.alloc (.cells (Builtin.zeroCells (Value.string ByteArray.empty).cells n ++ Builtin.zeroCells (Value.string ByteArray.empty).cells (grownCap w n 0 9 - n)) 9)) := fun ty => by
      have h := Lib.run_append_grow_zeros w 24 3 ty 9 i0 _ .i64 .i64 T24.und Tryz.underlying3 hi0 hz0 none 0 0 [] (run_firstCells_none w.drew i0.size 0 0 0) n (by omega) (by omega) (by omega) (by omega)
        (by rw [hz2]; omega) (growslice_fits (by omega) (by rw [hz2]; omega))
      simpa using h
    have hGn := grownCap_ge w n 0 9
    have hG63 := grownCap_le_maxLen w n 0 9 (by unfold maxLen; omega)
    generalize grownCap w n 0 9 = G at hrz hGn hG63
    have hG : G ≤ 9223372036854775807 := by unfold maxLen at hG63; omega
    have hn0 : (0 : Int) < (n : Int) := by omega
    have HM := Lib.hid hG63
    clear hG63
    go_enter Tryz.func123, Tryz.ntmps123
    go_wp2_with (at_builtin; refine Lib.wpList_append_run _ rfl _ _ _ _ rfl _ _ rfl rfl _ _ (hrz _) ?_)
    all_goals
      (go_ret
       refine ⟨_, rfl, World.ownsRow_made w.drew _ _ (Nat.le_refl _) HM.out ?_, ((New.refl w).drewN 1).alloc _⟩
       simp [size_zeroCells]
       omega)
end Go.Proofs.YtdejcdmgcckmoaaGreatDoor
namespace Go.Proofs.YtdejcdmgcckmoaaGreatDoor
open Go.RowKit Go.Sort Lr

theorem flat_take {Ls : List (List Str)} {k : Nat} (h : k < Ls.length) : (Ls.take (k + 1)).flatten = (Ls.take k).flatten ++ Ls[k] := by
  rw [List.take_succ_eq_append_getElem h, List.flatten_append]
  congr 1
  simp
theorem flat_le {Ls : List (List Str)} (k : Nat) : (Ls.take k).flatten.length ≤ Ls.flatten.length := by
  have h : Ls.flatten = (Ls.take k).flatten ++ (Ls.drop k).flatten := by rw [← List.flatten_append, List.take_append_drop]
  rw [h]; simp
set_option maxRecDepth 20000 in
set_option maxHeartbeats 1000000 in
/-- `slices.Concat` of rows of strings. -/
theorem Concat_any (v : Value) (Ls : List (List Str)) (w : World) (h : MatAt w v Ls) (hk : Ls.length ≤ 1000) (hl : Ls.flatten.length ≤ 100000) :
    Calls Tryz.prog 83 #[v] w fun e w' => ∃ v', e = .returned v' ∧ StrsAt w' v' Ls.flatten ∧ New w w' := by
  obtain ⟨a, cap, rfl⟩ := h.slice
  have HH := Lib.hid (And.intro h hl)
  clear h hl
  go_enter Tryz.func83, Tryz.ntmps83
  go_wp2
  go_loopg [3, 11] Ls.length (fun gk u3 u11 wr => ∃ k : Nat, k ≤ Ls.length ∧ gk = Ls.length - k ∧ u3 = .int .i64 ((Ls.take k).flatten.length : Nat) ∧ u11 = .int .i64 k ∧ w = wr)
  case atStart => exact ⟨0, Nat.zero_le _, rfl, rfl, rfl, rfl⟩
  case round =>
    obtain ⟨k, hk, rfl, rfl, rfl, rfl⟩ := hrel
    by_cases hlt : k < Ls.length
    · obtain ⟨b, o, a1, c1, e, h1, h2⟩ := HH.out.1.elem hlt
      cases e
      have hf := flat_take hlt
      have hle := flat_le (Ls := Ls) (k + 1)
      have hlen : (Ls.take (k + 1)).flatten.length = (Ls.take k).flatten.length + Ls[k].length := by rw [hf, List.length_append]
      have hall := HH.out.2
      have HF := Lib.hid hlen
      rw [hlen] at hle
      clear h2 hf hlen
      generalize Ls[k].length = m at *
      generalize (Ls.take k).flatten.length = q at *
      go_wp2
      go_roundg (Ls.length - (k + 1))
      case measure => omega
      case rel => exact ⟨k + 1, by omega, rfl, by rw [HF.out]; go_num, by go_num, rfl⟩
    · have hkk : k = Ls.length := by omega
      subst hkk
      rw [List.take_length]
      have hall := HH.out.2
      have hq := Lib.hid (GrowS_any Ls.flatten.length w hall)
      generalize hL : Ls.flatten.length = L at *
      go_wp2_with (go_at_call 123; refine hq.out.mono ?_; rintro e w1 ⟨v1, rfl, ho1, hn1⟩)
      obtain ⟨aS, cS, eS⟩ := owns_slice ho1
      subst eS
      have HO := Lib.hid (And.intro ho1 hn1)
      clear ho1 hn1
      go_wp2
      go_loopg [6, 27] Ls.length (fun gk u6 u27 wr => ∃ (k : Nat) (F : List Str), k ≤ Ls.length ∧ gk = Ls.length - k ∧ u27 = .int .i64 k ∧ Hid (F = (Ls.take k).flatten) ∧ Hid (Strs wr w.heap.size u6 F) ∧ Hid (New w wr))
      case atStart => exact ⟨0, [], Nat.zero_le _, rfl, rfl, Lib.hid rfl, Lib.hid HO.out.1, Lib.hid HO.out.2⟩
      case round =>
        obtain ⟨k, F, hk, rfl, rfl, hFl, hS, hn⟩ := hrel
        by_cases hlt : k < Ls.length
        · obtain ⟨b, o, a1, c1, e, h1, h2⟩ := HH.out.1.elem hlt
          cases e
          have hf := flat_take hlt
          have hle := flat_le (Ls := Ls) (k + 1)
          rw [hf, List.length_append, ← hFl.out] at hle
          rw [← hFl.out] at hf
          have h1' := hn.out.cell h1
          have h2' := h2.new hn.out
          have HF := Lib.hid (And.intro hf h2')
          obtain ⟨aS, cS, eS⟩ := owns_slice hS.out
          subst eS
          clear h1 h2 hf h2'
          go_wp2_with (at_builtin; refine wpList_appStrs _ rfl _ _ rfl w.heap.size _ F rfl hS.out _ Ls[k] rfl HF.out.2 (by omega) hn.out.size ?_)
          intro v' w' h1 h2
          have hn2 : New w w' := Below.grown hn.out h2 hn.out.size (fun b hb => (hS.out.lt b hb).1)
          have HN := Lib.hid (And.intro h1 hn2)
          clear h1 h2 hn2
          go_wp2
          go_roundg (Ls.length - (k + 1))
          case measure => omega
          case rel => exact ⟨k + 1, F ++ Ls[k], by omega, rfl, by go_num, Lib.hid HF.out.1.symm, Lib.hid (by simpa [Strs] using HN.out.1), Lib.hid HN.out.2⟩
        · have hkk : k = Ls.length := by omega
          subst hkk
          have hFe : F = Ls.flatten := by have := hFl.out; rwa [List.take_length] at this
          subst hFe
          go_wp2
          go_ret
          exact ⟨_, rfl, hS.out.at, hn.out⟩
end Go.Proofs.YtdejcdmgcckmoaaGreatDoor
namespace Go.Proofs.YtdejcdmgcckmoaaGreatDoor
open Go.RowKit Go.Sort Lr

/-! The parts of a row of texts. -/
theorem slice_takeS {a : Option Addr} {n c : Nat} {m : Nat} (hmn : m ≤ n) (hnc : n ≤ c) (W : World) :
    (Instr.slice 24 (.slice a n c) none (some (.int .i64 (m : Int))) none).run Tryz.prog W = .ok (.slice a m c) W := by
  rw [run_slice_h W 24 a n c (by rw [show Tryz.prog.elem 24 = 9 from by kernel_rfl]; exact T24.und) .i64 (m : Int) (by omega) (by omega)]
  have hs : (sizeOf (Tryz.prog.elem 24)).run Tryz.prog W = .ok 1 W := by kernel_rfl
  rw [hs]
  simp [Result.andThen_ok, sliced]
  intro _
  cases a <;> rfl
theorem StrsAt.cap {w : World} {a : Option Addr} {n c : Nat} {l : List Str} (h : StrsAt w (.slice a n c) l) : n = l.length ∧ n ≤ c := by
  obtain ⟨a1, c1, e, hcap, _⟩ := h
  cases e
  exact ⟨rfl, hcap⟩
theorem StrsAt.take {w : World} {a : Option Addr} {n c : Nat} {l x : List Str} (h : StrsAt w (.slice a n c) (x ++ l)) : StrsAt w (.slice a x.length c) x := by
  obtain ⟨a1, c1, e, hcap, hc⟩ := h
  cases e
  rw [List.length_append] at hcap
  refine ⟨_, _, rfl, by omega, fun h0 => ?_⟩
  obtain ⟨b, o, e, hcc⟩ := hc (by rw [List.length_append]; omega)
  refine ⟨b, o, e, fun j hj => ?_⟩
  rw [hcc j (by rw [List.length_append]; omega)]
  congr 1
  simp [List.getD_eq_getElem?_getD, List.getElem?_append_left hj]
/-- A row of three rows that has just been made. -/
theorem mat_three {w W : World} (hn : New w W) (t : TypeId) {va vb vc : Value} {A B C : List Str} (ha : StrsAt w va A) (hb : StrsAt w vb B) (hc : StrsAt w vc C) :
    MatAt (W.alloc (.cells #[va, vb, vc] t)) (.slice (some ⟨W.heap.size, 0, none⟩) 3 3) [A, B, C] := by
  have hn' : New w (W.alloc (.cells #[va, vb, vc] t)) := hn.alloc _
  have hcell := cell_of_row (W.alloc (.cells #[va, vb, vc] t)) W.heap.size
  refine ⟨_, 3, rfl, Nat.le_refl _, fun _ => ⟨_, 0, rfl, fun j hj => ?_⟩⟩
  match j, hj with
  | 0, _ => exact ⟨va, by rw [hcell 0 _ t (0, 0) (heap_alloc_new W _)]; rfl, ha.new hn'⟩
  | 1, _ => exact ⟨vb, by rw [hcell 1 _ t (0, 0) (heap_alloc_new W _)]; rfl, hb.new hn'⟩
  | 2, _ => exact ⟨vc, by rw [hcell 2 _ t (0, 0) (heap_alloc_new W _)]; rfl, hc.new hn'⟩
/-- Three rows are put together. -/
theorem Concat3_any {w W : World} (hn : New w W) {va vb vc : Value} {A B C : List Str} (ha : StrsAt w va A) (hb : StrsAt w vb B) (hc : StrsAt w vc C) (hl : A.length + B.length + C.length ≤ 100000) :
    Calls Tryz.prog 83 #[.slice (some ⟨W.heap.size, 0, none⟩) 3 3] (W.alloc (.cells #[va, vb, vc] 24)) fun e w' => ∃ v', e = .returned v' ∧ StrsAt w' v' (A ++ B ++ C) ∧ New w w' := by
  have h := Concat_any _ [A, B, C] _ (mat_three hn 24 ha hb hc) (by simp) (by simp; omega)
  refine h.mono ?_
  rintro e w' ⟨v', rfl, h1, h2⟩
  exact ⟨v', rfl, by simpa using h1, (hn.alloc _).trans h2⟩
/-- A row of one text that has just been made. -/
theorem strs_one (w : World) (s : Str) (t : TypeId) : StrsAt (w.alloc (.cells #[sv s] t)) (.slice (some ⟨w.heap.size, 0, none⟩) 1 1) [s] := by
  refine ⟨_, 1, rfl, Nat.le_refl _, fun _ => ⟨_, 0, rfl, fun j hj => ?_⟩⟩
  have : j = 0 := by simpa using hj
  subst this
  rw [cell_of_row (w.alloc (.cells #[sv s] t)) w.heap.size 0 _ t (0, 0) (heap_alloc_new w _)]
  rfl
theorem take_rev {ps : List Nat} {j : Nat} (h : j < ps.length) : (ps.take (j + 1)).reverse = ps[j] :: (ps.take j).reverse := by
  rw [List.take_succ_eq_append_getElem h]; simp
end Go.Proofs.YtdejcdmgcckmoaaGreatDoor
