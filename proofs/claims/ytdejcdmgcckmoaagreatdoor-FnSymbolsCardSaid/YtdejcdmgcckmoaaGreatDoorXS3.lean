/- A part of the proofs about gocc: S3. -/
import Derived.Test.YtdejcdmgcckmoaaGreatDoorXS2
import Derived.Test.YtdejcdmgcckmoaaGreatDoorXS4
import Derived.Deep.DeepCutAuto
import Derived.Deep.LoopGhost
import Derived.Deep.RegionHeld3
import Derived.RegionTactic
namespace Go.Proofs.YtdejcdmgcckmoaaGreatDoor
open Go.RowKit Lr

def fr98 (x : Nat) (v3 v17 v18 v19 v20 v21 v22 v23 v24 : Value) : Act := ⟨#[(.pointer (some ⟨x, 0, none⟩)), undef, (.pointer none), v3, undef, undef, undef, undef, undef, undef, undef, undef, undef, undef, undef, undef, undef, v17, v18, v19, v20, v21, v22, v23, v24, undef, undef, undef, undef, undef, undef, undef, undef, undef, undef, undef, undef, undef, undef, undef, undef, undef, undef, undef, undef, undef, undef, undef, undef, undef, undef, undef, undef, undef, undef, undef, undef, undef, undef, undef, undef, undef, undef, undef, undef, undef, undef, undef, undef, undef, undef, undef, undef, undef, undef, undef, undef, undef, undef, undef, undef, undef, undef, undef, undef, undef, undef, undef, undef, undef, undef, undef, undef, undef, undef, undef, undef, undef, undef, undef, undef, undef, undef, undef, undef, undef, undef, undef, undef, undef, undef, undef, undef, undef, undef, undef, undef, undef, undef, undef, undef, undef, undef, undef, undef, undef, undef, undef, undef, undef, undef, undef, undef, undef, undef, undef, undef, undef, undef, undef, undef, undef, undef, undef, undef, undef, undef, undef, undef, undef, undef, undef, undef, undef, undef, undef, undef, undef, undef, undef, undef, undef, undef, undef, undef, undef, undef, undef, undef, undef], []⟩

structure Made98 (w w' : World) (x : Nat) (listed : Array Bool) (a : Act) (v3 v17 v18 v19 v20 v21 v22 v23 v24 : Value) : Prop where
  fr : a = fr98 x v3 v17 v18 v19 v20 v21 v22 v23 v24
  f0 : listed[0]? = some true → ∃ b, v17 = .map (some b) ∧ w'.heap[b]? = some (.map #[] 0) ∧ w.heap.size ≤ b
  f1 : listed[1]? = some true → ∃ b, v18 = .slice (some ⟨b, 0, none⟩) 0 16 ∧ w'.heap[b]? = some (.cells (Array.replicate 16 (.string ByteArray.empty)) 9 (0, 0)) ∧ w.heap.size ≤ b
  f2 : listed[2]? = some true → ∃ b, v19 = .map (some b) ∧ w'.heap[b]? = some (.map #[] 0) ∧ w.heap.size ≤ b
  f3 : listed[3]? = some true → ∃ b, v20 = .slice (some ⟨b, 0, none⟩) 0 16 ∧ w'.heap[b]? = some (.cells (Array.replicate 16 (.string ByteArray.empty)) 9 (0, 0)) ∧ w.heap.size ≤ b
  f4 : listed[4]? = some true → ∃ b, v21 = .map (some b)
  f5 : listed[5]? = some true → ∃ a n c, v22 = .slice a n c
  d02 : listed[0]? = some true → listed[2]? = some true → v17 ≠ v19
  d13 : listed[1]? = some true → listed[3]? = some true → v18 ≠ v20
  m6 : listed[6]? = some true → ∀ j, j < 6 → listed[j]? = some true
  m7 : listed[7]? = some true → listed[6]? = some true
  m8 : listed[8]? = some true → listed[7]? = some true
  f6 : listed[6]? = some true → v23 = .agg #[v17, v19, v20, v21, v22, v18]
  f7 : listed[7]? = some true → ∃ p, v24 = .pointer (some ⟨p, 0, none⟩) ∧ w'.heap[p]? = some (.cells #[v17, v19, v20, v21, v22, v18] 153 (0, 0)) ∧ w.heap.size ≤ p
  f8 : listed[8]? = some true → v3 = v24
  n : New w w'

theorem keep_alloc {w : World} {b : Nat} {o O : Obj} (h : w.heap[b]? = some o) : (w.alloc O).heap[b]? = some o := by
  rw [Below.heap_alloc w O b (lt_of_block h)]; exact h
theorem set_other {l : Array Bool} {i j : Nat} (h : i ≠ j) : (l.setIfInBounds i true)[j]? = l[j]? := by simp [h]
theorem is_listed {l : Array Bool} {i : Nat} (h : l.getD i false = true) : l[i]? = some true := by
  rw [Array.getD_eq_getD_getElem?] at h
  cases e : l[i]? with
  | none => rw [e] at h; cases h
  | some b => rw [e] at h; simp at h; rw [h]
theorem ready_deps {md : Region.Mode} {ops : Array Oper} {listed : Array Bool} {i : Nat} {o : Oper} (h : i ∈ Region.ready md ops listed) (ho : ops[i]? = some o) : (o.after.all fun e => !Region.binds md e || listed.getD e.on false) = true := by
  simp only [Region.ready, List.mem_filter, List.mem_range, Bool.and_eq_true, Bool.not_eq_true'] at h
  have := h.2.2
  rw [ho] at this
  simpa using this
theorem listed_get {l : Array Bool} {i : Nat} (h : l[i]? = some true) : l.getD i false = true := by
  rw [Array.getD_eq_getD_getElem?, h]; rfl
theorem not_ready {md : Region.Mode} {ops : Array Oper} {listed : Array Bool} (h : Region.ready md ops listed = []) (i : Nat) (o : Oper) (ho : ops[i]? = some o) (hd : (o.after.all fun e => listed.getD e.on false) = true) (hs : listed.size = ops.size) : listed[i]? = some true := by
  have hi := (Array.getElem?_eq_some_iff.1 ho).1
  have h1 : i ∉ Region.ready md ops listed := by rw [h]; simp
  cases e : listed[i]? with
  | none => rw [Array.getElem?_eq_none_iff] at e; omega
  | some b =>
    cases b with
    | true => rfl
    | false =>
      exfalso
      apply h1
      simp only [Region.ready, List.mem_filter, List.mem_range, Bool.and_eq_true, Bool.not_eq_true']
      refine ⟨hi, by rw [Array.getD_eq_getD_getElem?, e]; rfl, ?_⟩
      rw [ho]
      simp only [Option.map_some, Option.getD_some, Array.all_eq_true] at hd ⊢
      intro j hj
      rw [hd j hj]; simp
theorem mapF_empty {P : Program} {kt : TypeId} {w : World} {b : Nat} (h : w.heap[b]? = some (.map #[] 0)) : MapF P kt w b 0 (fun _ => none) := by
  refine ⟨.map [], ⟨#[], 0, h, ⟨by simp, MapKept.stamped_empty 0, by simp⟩, Nat.le_refl _, rfl⟩, fun _ => .inl ⟨rfl, rfl⟩⟩
theorem row_empty {w : World} {B b : Nat} (h : w.heap[b]? = some (.cells (Array.replicate 16 (.string ByteArray.empty)) 9 (0, 0))) (hB : B ≤ b) : Strs w B (.slice (some ⟨b, 0, none⟩) 0 16) [] :=
  ⟨rfl, .inr ⟨b, 16, _, rfl, hB, h, by simp, by unfold maxLen; omega, by simp, by simp⟩⟩
theorem un_listed {l : Array Bool} {i : Nat} (h : l.getD i true = false) : l[i]? ≠ some true := by
  intro e
  rw [Array.getD_eq_getD_getElem?, e] at h
  cases h
theorem Made98.g0 {w w' : World} {x : Nat} {listed : Array Bool} {a : Act} {v3 v17 v18 v19 v20 v21 v22 v23 v24 : Value} (h : Made98 w w' x listed a v3 v17 v18 v19 v20 v21 v22 v23 v24) (O : Obj) (e : listed[0]? = some true) : ∃ b, v17 = .map (some b) ∧ (w'.alloc O).heap[b]? = some (.map #[] 0) ∧ w.heap.size ≤ b := by
  obtain ⟨b, h1, h2, h3⟩ := h.f0 e; exact ⟨b, h1, keep_alloc h2, h3⟩
theorem Made98.g2 {w w' : World} {x : Nat} {listed : Array Bool} {a : Act} {v3 v17 v18 v19 v20 v21 v22 v23 v24 : Value} (h : Made98 w w' x listed a v3 v17 v18 v19 v20 v21 v22 v23 v24) (O : Obj) (e : listed[2]? = some true) : ∃ b, v19 = .map (some b) ∧ (w'.alloc O).heap[b]? = some (.map #[] 0) ∧ w.heap.size ≤ b := by
  obtain ⟨b, h1, h2, h3⟩ := h.f2 e; exact ⟨b, h1, keep_alloc h2, h3⟩
theorem Made98.g1 {w w' : World} {x : Nat} {listed : Array Bool} {a : Act} {v3 v17 v18 v19 v20 v21 v22 v23 v24 : Value} (h : Made98 w w' x listed a v3 v17 v18 v19 v20 v21 v22 v23 v24) (O : Obj) (e : listed[1]? = some true) : ∃ b, v18 = .slice (some ⟨b, 0, none⟩) 0 16 ∧ (w'.alloc O).heap[b]? = some (.cells (Array.replicate 16 (.string ByteArray.empty)) 9 (0, 0)) ∧ w.heap.size ≤ b := by
  obtain ⟨b, h1, h2, h3⟩ := h.f1 e; exact ⟨b, h1, keep_alloc h2, h3⟩
theorem Made98.g3 {w w' : World} {x : Nat} {listed : Array Bool} {a : Act} {v3 v17 v18 v19 v20 v21 v22 v23 v24 : Value} (h : Made98 w w' x listed a v3 v17 v18 v19 v20 v21 v22 v23 v24) (O : Obj) (e : listed[3]? = some true) : ∃ b, v20 = .slice (some ⟨b, 0, none⟩) 0 16 ∧ (w'.alloc O).heap[b]? = some (.cells (Array.replicate 16 (.string ByteArray.empty)) 9 (0, 0)) ∧ w.heap.size ≤ b := by
  obtain ⟨b, h1, h2, h3⟩ := h.f3 e; exact ⟨b, h1, keep_alloc h2, h3⟩
theorem Made98.no6 {w w' : World} {x : Nat} {listed : Array Bool} {a : Act} {v3 v17 v18 v19 v20 v21 v22 v23 v24 : Value} (h : Made98 w w' x listed a v3 v17 v18 v19 v20 v21 v22 v23 v24) {i : Nat} (hi : i < 6) (hu : listed[i]? ≠ some true) : listed[6]? ≠ some true := fun e => hu (h.m6 e i hi)
theorem Made98.no7 {w w' : World} {x : Nat} {listed : Array Bool} {a : Act} {v3 v17 v18 v19 v20 v21 v22 v23 v24 : Value} (h : Made98 w w' x listed a v3 v17 v18 v19 v20 v21 v22 v23 v24) (hu : listed[6]? ≠ some true) : listed[7]? ≠ some true := fun e => hu (h.m7 e)
theorem Made98.no8 {w w' : World} {x : Nat} {listed : Array Bool} {a : Act} {v3 v17 v18 v19 v20 v21 v22 v23 v24 : Value} (h : Made98 w w' x listed a v3 v17 v18 v19 v20 v21 v22 v23 v24) (hu : listed[7]? ≠ some true) : listed[8]? ≠ some true := fun e => hu (h.m8 e)

set_option maxRecDepth 100000 in
set_option maxHeartbeats 2000000 in
theorem NewSymbols_any (x : Nat) (w : World) (L : List AP) (hg : GrmAt w (.pointer (some ⟨x, 0, none⟩)) L) (hL : L.length ≤ 20) (hl : ∀ p ∈ L, p.1.length ≤ 1000 ∧ p.2.length ≤ 20 ∧ ∀ s ∈ p.2, s.str.length ≤ 1000) :
    Calls Tryz.prog 98 #[.pointer (some ⟨x, 0, none⟩)] w fun e w' => ∃ p m1 m2 m3 r2 r4 r5 n, e = .returned (.pointer (some ⟨p, 0, none⟩)) ∧
      SymSt w' w.heap.size p m1 m2 m3 r2 r4 r5 (typesA L [invalidS, eofS]) (headsA L) (headsA L) n ∧ New w w' := by
  obtain ⟨x', y, z, e, gx, gy, hP⟩ := hg
  cases e
  have HG := Lib.hid (And.intro gx (And.intro gy hP))
  have HL := Lib.hid hl
  clear gx gy hP hl
  go_enter Tryz.func98, Tryz.ntmps98
  go_wp2
  refine wp_region_any (by kernel_rfl) ?_
  refine wpAny_inv (I := fun listed a w' => ∃ v3 v17 v18 v19 v20 v21 v22 v23 v24, Made98 w w' x listed a v3 v17 v18 v19 v20 v21 v22 v23 v24) ?_ ?_ _ _ _ _ ?_ (by simp) (by simp)
  · intro listed a w' hs hI i hi
    obtain ⟨v3, v17, v18, v19, v20, v21, v22, v23, v24, hI⟩ := hI
    obtain ⟨hlt, hun⟩ := ready_mem hi
    have hfr := hI.fr
    subst hfr
    have hmm := @run_makeMap Tryz.prog
    have hmk : ∀ w, (Instr.makeSlice 24 (.int .i64 0) (.int .i64 16)).run Tryz.prog w = .ok (.slice (some ⟨w.heap.size, 0, none⟩) 0 16) (w.alloc (.cells (Array.replicate 16 (.string ByteArray.empty)) 9)) := fun _ => by kernel_rfl
    have hi9 : i = 0 ∨ i = 1 ∨ i = 2 ∨ i = 3 ∨ i = 4 ∨ i = 5 ∨ i = 6 ∨ i = 7 ∨ i = 8 := by simp at hlt; omega
    rcases hi9 with rfl | rfl | rfl | rfl | rfl | rfl | rfl | rfl | rfl
    · have u := un_listed hun
      have u6 := hI.no6 (i := 0) (by decide) u
      have u7 := hI.no7 u6
      have u8 := hI.no8 u7
      refine wpOp_step rfl (fun K' hK => ?_)
      unfold fr98
      go_simp
      refine hK _ _ ⟨v3, _, v18, v19, v20, v21, v22, v23, v24, rfl, (fun _ => ⟨_, rfl, heap_alloc_new _ _, hI.n.size⟩),
        (fun e => hI.g1 _ (by rwa [set_other (by decide)] at e)),
        (fun e => hI.g2 _ (by rwa [set_other (by decide)] at e)),
        (fun e => hI.g3 _ (by rwa [set_other (by decide)] at e)),
        (fun e => hI.f4 (by rwa [set_other (by decide)] at e)),
        (fun e => hI.f5 (by rwa [set_other (by decide)] at e)),
        (fun _ e2 => by
        obtain ⟨b, h1, h2, _⟩ := hI.f2 (by rwa [set_other (by decide)] at e2)
        have := lt_of_block h2
        rw [h1]; intro e; injection e with e; injection e with e; omega),
        (fun e0 e2 => hI.d13 (by rwa [set_other (by decide)] at e0) (by rwa [set_other (by decide)] at e2)),
        (fun e => absurd (by rwa [set_other (by decide)] at e) u6),
        (fun e => absurd (by rwa [set_other (by decide)] at e) u7),
        (fun e => absurd (by rwa [set_other (by decide)] at e) u8),
        (fun e => absurd (by rwa [set_other (by decide)] at e) u6),
        (fun e => absurd (by rwa [set_other (by decide)] at e) u7),
        (fun e => absurd (by rwa [set_other (by decide)] at e) u8),
        (hI.n.alloc _)⟩
    · have u := un_listed hun
      have u6 := hI.no6 (i := 1) (by decide) u
      have u7 := hI.no7 u6
      have u8 := hI.no8 u7
      refine wpOp_step rfl (fun K' hK => ?_)
      unfold fr98
      go_simp
      refine hK _ _ ⟨v3, v17, _, v19, v20, v21, v22, v23, v24, rfl, (fun e => hI.g0 _ (by rwa [set_other (by decide)] at e)),
        (fun _ => ⟨_, rfl, heap_alloc_new _ _, hI.n.size⟩),
        (fun e => hI.g2 _ (by rwa [set_other (by decide)] at e)),
        (fun e => hI.g3 _ (by rwa [set_other (by decide)] at e)),
        (fun e => hI.f4 (by rwa [set_other (by decide)] at e)),
        (fun e => hI.f5 (by rwa [set_other (by decide)] at e)),
        (fun e0 e2 => hI.d02 (by rwa [set_other (by decide)] at e0) (by rwa [set_other (by decide)] at e2)),
        (fun _ e2 => by
        obtain ⟨b, h1, h2, _⟩ := hI.f3 (by rwa [set_other (by decide)] at e2)
        have := lt_of_block h2
        rw [h1]; intro e; injection e with e _ _; injection e with e; injection e with e _ _; omega),
        (fun e => absurd (by rwa [set_other (by decide)] at e) u6),
        (fun e => absurd (by rwa [set_other (by decide)] at e) u7),
        (fun e => absurd (by rwa [set_other (by decide)] at e) u8),
        (fun e => absurd (by rwa [set_other (by decide)] at e) u6),
        (fun e => absurd (by rwa [set_other (by decide)] at e) u7),
        (fun e => absurd (by rwa [set_other (by decide)] at e) u8),
        (hI.n.alloc _)⟩
    · have u := un_listed hun
      have u6 := hI.no6 (i := 2) (by decide) u
      have u7 := hI.no7 u6
      have u8 := hI.no8 u7
      refine wpOp_step rfl (fun K' hK => ?_)
      unfold fr98
      go_simp
      refine hK _ _ ⟨v3, v17, v18, _, v20, v21, v22, v23, v24, rfl, (fun e => hI.g0 _ (by rwa [set_other (by decide)] at e)),
        (fun e => hI.g1 _ (by rwa [set_other (by decide)] at e)),
        (fun _ => ⟨_, rfl, heap_alloc_new _ _, hI.n.size⟩),
        (fun e => hI.g3 _ (by rwa [set_other (by decide)] at e)),
        (fun e => hI.f4 (by rwa [set_other (by decide)] at e)),
        (fun e => hI.f5 (by rwa [set_other (by decide)] at e)),
        (fun e0 _ => by
        obtain ⟨b, h1, h2, _⟩ := hI.f0 (by rwa [set_other (by decide)] at e0)
        have := lt_of_block h2
        rw [h1]; intro e; injection e with e; injection e with e; omega),
        (fun e0 e2 => hI.d13 (by rwa [set_other (by decide)] at e0) (by rwa [set_other (by decide)] at e2)),
        (fun e => absurd (by rwa [set_other (by decide)] at e) u6),
        (fun e => absurd (by rwa [set_other (by decide)] at e) u7),
        (fun e => absurd (by rwa [set_other (by decide)] at e) u8),
        (fun e => absurd (by rwa [set_other (by decide)] at e) u6),
        (fun e => absurd (by rwa [set_other (by decide)] at e) u7),
        (fun e => absurd (by rwa [set_other (by decide)] at e) u8),
        (hI.n.alloc _)⟩
    · have u := un_listed hun
      have u6 := hI.no6 (i := 3) (by decide) u
      have u7 := hI.no7 u6
      have u8 := hI.no8 u7
      refine wpOp_step rfl (fun K' hK => ?_)
      unfold fr98
      go_simp
      refine hK _ _ ⟨v3, v17, v18, v19, _, v21, v22, v23, v24, rfl, (fun e => hI.g0 _ (by rwa [set_other (by decide)] at e)),
        (fun e => hI.g1 _ (by rwa [set_other (by decide)] at e)),
        (fun e => hI.g2 _ (by rwa [set_other (by decide)] at e)),
        (fun _ => ⟨_, rfl, heap_alloc_new _ _, hI.n.size⟩),
        (fun e => hI.f4 (by rwa [set_other (by decide)] at e)),
        (fun e => hI.f5 (by rwa [set_other (by decide)] at e)),
        (fun e0 e2 => hI.d02 (by rwa [set_other (by decide)] at e0) (by rwa [set_other (by decide)] at e2)),
        (fun e0 _ => by
        obtain ⟨b, h1, h2, _⟩ := hI.f1 (by rwa [set_other (by decide)] at e0)
        have := lt_of_block h2
        rw [h1]; intro e; injection e with e _ _; injection e with e; injection e with e _ _; omega),
        (fun e => absurd (by rwa [set_other (by decide)] at e) u6),
        (fun e => absurd (by rwa [set_other (by decide)] at e) u7),
        (fun e => absurd (by rwa [set_other (by decide)] at e) u8),
        (fun e => absurd (by rwa [set_other (by decide)] at e) u6),
        (fun e => absurd (by rwa [set_other (by decide)] at e) u7),
        (fun e => absurd (by rwa [set_other (by decide)] at e) u8),
        (hI.n.alloc _)⟩
    · have u := un_listed hun
      have u6 := hI.no6 (i := 4) (by decide) u
      have u7 := hI.no7 u6
      have u8 := hI.no8 u7
      refine wpOp_step rfl (fun K' hK => ?_)
      unfold fr98
      go_simp
      refine hK _ _ ⟨v3, v17, v18, v19, v20, _, v22, v23, v24, rfl, (fun e => hI.g0 _ (by rwa [set_other (by decide)] at e)),
        (fun e => hI.g1 _ (by rwa [set_other (by decide)] at e)),
        (fun e => hI.g2 _ (by rwa [set_other (by decide)] at e)),
        (fun e => hI.g3 _ (by rwa [set_other (by decide)] at e)),
        (fun _ => ⟨_, rfl⟩),
        (fun e => hI.f5 (by rwa [set_other (by decide)] at e)),
        (fun e0 e2 => hI.d02 (by rwa [set_other (by decide)] at e0) (by rwa [set_other (by decide)] at e2)),
        (fun e0 e2 => hI.d13 (by rwa [set_other (by decide)] at e0) (by rwa [set_other (by decide)] at e2)),
        (fun e => absurd (by rwa [set_other (by decide)] at e) u6),
        (fun e => absurd (by rwa [set_other (by decide)] at e) u7),
        (fun e => absurd (by rwa [set_other (by decide)] at e) u8),
        (fun e => absurd (by rwa [set_other (by decide)] at e) u6),
        (fun e => absurd (by rwa [set_other (by decide)] at e) u7),
        (fun e => absurd (by rwa [set_other (by decide)] at e) u8),
        (hI.n.alloc _)⟩
    · have u := un_listed hun
      have u6 := hI.no6 (i := 5) (by decide) u
      have u7 := hI.no7 u6
      have u8 := hI.no8 u7
      refine wpOp_step rfl (fun K' hK => ?_)
      unfold fr98
      go_simp
      refine hK _ _ ⟨v3, v17, v18, v19, v20, v21, _, v23, v24, rfl, (fun e => hI.g0 _ (by rwa [set_other (by decide)] at e)),
        (fun e => hI.g1 _ (by rwa [set_other (by decide)] at e)),
        (fun e => hI.g2 _ (by rwa [set_other (by decide)] at e)),
        (fun e => hI.g3 _ (by rwa [set_other (by decide)] at e)),
        (fun e => hI.f4 (by rwa [set_other (by decide)] at e)),
        (fun _ => ⟨_, _, _, rfl⟩),
        (fun e0 e2 => hI.d02 (by rwa [set_other (by decide)] at e0) (by rwa [set_other (by decide)] at e2)),
        (fun e0 e2 => hI.d13 (by rwa [set_other (by decide)] at e0) (by rwa [set_other (by decide)] at e2)),
        (fun e => absurd (by rwa [set_other (by decide)] at e) u6),
        (fun e => absurd (by rwa [set_other (by decide)] at e) u7),
        (fun e => absurd (by rwa [set_other (by decide)] at e) u8),
        (fun e => absurd (by rwa [set_other (by decide)] at e) u6),
        (fun e => absurd (by rwa [set_other (by decide)] at e) u7),
        (fun e => absurd (by rwa [set_other (by decide)] at e) u8),
        (hI.n.alloc _)⟩
    · have u := un_listed hun
      have u7 := hI.no7 u
      have u8 := hI.no8 u7
      have hd := ready_deps hi rfl
      simp [Region.binds] at hd
      obtain ⟨l0, l1, l2, l3, l4, l5⟩ := hd
      have e0 := is_listed (l := listed) (i := 0) (by simpa using l0)
      have e1 := is_listed (l := listed) (i := 1) (by simpa using l1)
      have e2 := is_listed (l := listed) (i := 2) (by simpa using l2)
      have e3 := is_listed (l := listed) (i := 3) (by simpa using l3)
      have e4 := is_listed (l := listed) (i := 4) (by simpa using l4)
      have e5 := is_listed (l := listed) (i := 5) (by simpa using l5)
      have k0 := e0
      have k1 := e1
      have k2 := e2
      have k3 := e3
      have k4 := e4
      have k5 := e5
      obtain ⟨b0, rfl, p0, q0⟩ := hI.f0 e0
      obtain ⟨b1, rfl, p1, q1⟩ := hI.f1 e1
      obtain ⟨b2, rfl, p2, q2⟩ := hI.f2 e2
      obtain ⟨b3, rfl, p3, q3⟩ := hI.f3 e3
      obtain ⟨b4, rfl⟩ := hI.f4 e4
      obtain ⟨a5, n5, c5, rfl⟩ := hI.f5 e5
      refine wpOp_step rfl (fun K' hK => ?_)
      unfold fr98
      clear l0 l1 l2 l3 l4 l5 e0 e1 e2 e3 e4 e5 p0 p1 p2 p3 q0 q1 q2 q3
      go_simp
      refine hK _ _ ⟨v3, _, _, _, _, _, _, _, v24, rfl, (fun e => hI.f0 (by rwa [set_other (by decide)] at e)), (fun e => hI.f1 (by rwa [set_other (by decide)] at e)), (fun e => hI.f2 (by rwa [set_other (by decide)] at e)), (fun e => hI.f3 (by rwa [set_other (by decide)] at e)), (fun _ => ⟨_, rfl⟩), (fun _ => ⟨_, _, _, rfl⟩),
        (fun e e' => hI.d02 (by rwa [set_other (by decide)] at e) (by rwa [set_other (by decide)] at e')), (fun e e' => hI.d13 (by rwa [set_other (by decide)] at e) (by rwa [set_other (by decide)] at e')),
        (fun _ j hj => by
          rw [set_other (by omega)]
          have : j = 0 ∨ j = 1 ∨ j = 2 ∨ j = 3 ∨ j = 4 ∨ j = 5 := by omega
          rcases this with rfl | rfl | rfl | rfl | rfl | rfl
          · exact k0
          · exact k1
          · exact k2
          · exact k3
          · exact k4
          · exact k5),
        (fun e => absurd (by rwa [set_other (by decide)] at e) u7), (fun e => absurd (by rwa [set_other (by decide)] at e) u8), (fun _ => rfl), (fun e => absurd (by rwa [set_other (by decide)] at e) u7), (fun e => absurd (by rwa [set_other (by decide)] at e) u8), hI.n⟩
    · have u := un_listed hun
      have u8 := hI.no8 u
      have hd := ready_deps hi rfl
      simp [Region.binds] at hd
      have k6 := is_listed (l := listed) (i := 6) (by simpa using hd)
      have e23 := hI.f6 k6
      subst e23
      have hm := hI.m6 k6
      obtain ⟨b0, rfl, p0, q0⟩ := hI.f0 (hm 0 (by omega))
      obtain ⟨b1, rfl, p1, q1⟩ := hI.f1 (hm 1 (by omega))
      obtain ⟨b2, rfl, p2, q2⟩ := hI.f2 (hm 2 (by omega))
      obtain ⟨b3, rfl, p3, q3⟩ := hI.f3 (hm 3 (by omega))
      obtain ⟨b4, rfl⟩ := hI.f4 (hm 4 (by omega))
      obtain ⟨a5, n5, c5, rfl⟩ := hI.f5 (hm 5 (by omega))
      refine wpOp_step rfl (fun K' hK => ?_)
      unfold fr98
      clear p0 p1 p2 p3 q0 q1 q2 q3 hd
      go_simp
      refine hK _ _ ⟨v3, _, _, _, _, _, _, _, _, rfl, (fun e => hI.g0 _ (by rwa [set_other (by decide)] at e)), (fun e => hI.g1 _ (by rwa [set_other (by decide)] at e)), (fun e => hI.g2 _ (by rwa [set_other (by decide)] at e)), (fun e => hI.g3 _ (by rwa [set_other (by decide)] at e)), (fun _ => ⟨_, rfl⟩), (fun _ => ⟨_, _, _, rfl⟩),
        (fun e e' => hI.d02 (by rwa [set_other (by decide)] at e) (by rwa [set_other (by decide)] at e')), (fun e e' => hI.d13 (by rwa [set_other (by decide)] at e) (by rwa [set_other (by decide)] at e')),
        (fun _ j hj => by rw [set_other (by omega)]; exact hm j hj), (fun _ => by rw [set_other (by decide)]; exact k6), (fun e => absurd (by rwa [set_other (by decide)] at e) u8), (fun _ => rfl),
        (fun _ => ⟨_, rfl, heap_alloc_new _ _, hI.n.size⟩), (fun e => absurd (by rwa [set_other (by decide)] at e) u8), hI.n.alloc _⟩
    · have u := un_listed hun
      have hd := ready_deps hi rfl
      simp [Region.binds] at hd
      have k7 := is_listed (l := listed) (i := 7) (by simpa using hd.1)
      have k6 := hI.m7 k7
      have hm := hI.m6 k6
      refine wpOp_step rfl (fun K' hK => ?_)
      unfold fr98
      clear hd
      go_simp
      refine hK _ _ ⟨_, _, _, _, _, _, _, _, _, rfl, (fun e => hI.f0 (by rwa [set_other (by decide)] at e)), (fun e => hI.f1 (by rwa [set_other (by decide)] at e)), (fun e => hI.f2 (by rwa [set_other (by decide)] at e)), (fun e => hI.f3 (by rwa [set_other (by decide)] at e)), (fun e => hI.f4 (by rwa [set_other (by decide)] at e)), (fun e => hI.f5 (by rwa [set_other (by decide)] at e)),
        (fun e e' => hI.d02 (by rwa [set_other (by decide)] at e) (by rwa [set_other (by decide)] at e')), (fun e e' => hI.d13 (by rwa [set_other (by decide)] at e) (by rwa [set_other (by decide)] at e')),
        (fun _ j hj => by rw [set_other (by omega)]; exact hm j hj), (fun _ => by rw [set_other (by decide)]; exact k6), (fun _ => by rw [set_other (by decide)]; exact k7), (fun _ => hI.f6 k6),
        (fun _ => hI.f7 k7), (fun _ => rfl), hI.n⟩
  · intro listed a w' hs hI hr
    obtain ⟨v3, v17, v18, v19, v20, v21, v22, v23, v24, hI⟩ := hI
    have hall := not_ready hr
    have k0 := hall 0 _ rfl (by simp) hs
    have k1 := hall 1 _ rfl (by simp) hs
    have k2 := hall 2 _ rfl (by simp) hs
    have k3 := hall 3 _ rfl (by simp) hs
    have k4 := hall 4 _ rfl (by simp) hs
    have k5 := hall 5 _ rfl (by simp) hs
    have k6 := hall 6 _ rfl (by simp [k0, k1, k2, k3, k4, k5]) hs
    have k7 := hall 7 _ rfl (by simp [k6]) hs
    have k8 := hall 8 _ rfl (by simp [k0, k1, k2, k3, k4, k5, k6, k7]) hs
    obtain ⟨m1, e17, p0, q0⟩ := hI.f0 k0
    obtain ⟨b1, e18, p1, q1⟩ := hI.f1 k1
    obtain ⟨m2, e19, p2, q2⟩ := hI.f2 k2
    obtain ⟨b3, e20, p3, q3⟩ := hI.f3 k3
    obtain ⟨m3, e21⟩ := hI.f4 k4
    obtain ⟨a5, n5, c5, e22⟩ := hI.f5 k5
    have d1 := hI.d02 k0 k2
    have d2 := hI.d13 k1 k3
    have e23 := hI.f6 k6
    obtain ⟨p, e24, p7, q7⟩ := hI.f7 k7
    have e3 := hI.f8 k8
    have hn := hI.n
    have hfr := hI.fr
    clear hI k0 k1 k2 k3 k4 k5 k6 k7 k8 hall hr hs
    subst e17 e18 e19 e20 e21 e22 e23 e24 e3 hfr
    have st : SymSt w' w.heap.size p m1 m2 m3 (.slice (some ⟨b3, 0, none⟩) 0 16) (.slice a5 n5 c5) (.slice (some ⟨b1, 0, none⟩) 0 16) [] [] [] 0 :=
      ⟨p7, ⟨fun _ => none, mapF_empty p0, fun s => by simp [has]⟩, ⟨fun _ => none, mapF_empty p2, fun s => by simp [has]⟩, row_empty p1 q1, row_empty p3 q3, .inr (fun e => d2 (by simp [Value.ownBlock] at e; rw [e])), fun e => d1 (by rw [e]), q7, q0, q2⟩
    unfold fr98
    obtain ⟨gx0, gy0, hP0⟩ := HG.out
    have hB := hn.size
    clear HG p0 p1 p2 p3 p7 q0 q1 q2 q3 q7 d1 d2
    go_wp2_with fail
    refine (Add_new st invalidS (by decide) (by simp) (by omega) hB rfl _).mono ?_
    rintro e w1 ⟨rfl, r5, st, hb1⟩
    have hn1 : New w w1 := Below.trans hn hb1
    have hB1 := hn1.size
    clear hn hb1 hB
    go_wp2_with fail
    refine (Add_new st eofS (by decide) (by decide) (by omega) hB1 rfl _).mono ?_
    rintro e w2 ⟨rfl, r5, st, hb1⟩
    have hn2 : New w w2 := Below.trans hn1 hb1
    have hB2 := hn2.size
    clear hn1 hb1 hB1
    have gx := hn2.cell gx0
    have gy := hn2.cell gy0
    obtain ⟨a, cap, rfl⟩ := hP0.slice
    go_wp2
    go_loopg [45] L.length (fun gk i wr => ∃ (k : Nat) (r2 r5 : Value) (n : Nat), k ≤ L.length ∧ gk = L.length - k ∧ i = .int .i64 k ∧ SymSt wr w.heap.size p m1 m2 m3 r2 (.slice a5 n5 c5) r5 (typesA (L.take k) [invalidS, eofS]) (headsA (L.take k)) (headsA (L.take k)) n ∧ n ≤ 2 + k * 100 ∧ New w wr)
    case atStart => exact ⟨0, _, _, _, Nat.zero_le _, rfl, rfl, st, by omega, hn2⟩
    case round =>
      clear gx gy gx0 gy0 st hn2 hB2
      obtain ⟨k, r2, r5, n, hk, rfl, rfl, st, hnk, hn⟩ := hrel
      have hB := hn.size
      by_cases hlt : k < L.length
      · obtain ⟨b, o, pb, q, sa, sc, e, h1, h2, h3, h4, h5⟩ := hP0.elem hlt
        cases e
        have lpb := World.block_lt_of_cell? w _ h2
        have H2 := Lib.hid h2
        have H3 := Lib.hid (And.intro h3 (And.intro h4 h5))
        have h1 := hn.cell h1
        have h2 := hn.cell h2
        have h3 := hn.cell h3
        have h4 := hn.cell h4
        have h5 := h5.new hn
        have g1 := cell_of_blk st.blk 1
        have g2 := cell_of_blk st.blk 2
        simp only [List.getElem?_toArray, List.getElem?_cons_zero, List.getElem?_cons_succ] at g1 g2
        have hh := HL.out _ (List.getElem_mem hlt)
        have hs := hh.1
        obtain ⟨f, hf, hfk⟩ := st.ntm
        have hf0 := hf
        have HB := Lib.hid h5
        clear h5
        obtain ⟨bb, hbb⟩ : ∃ bb, bb = has (headsA (L.take k)) L[k].1 := ⟨_, rfl⟩
        have hlk : ∀ n', (Instr.lookup 91 (.map (some m2)) (sv L[k].1) true).run Tryz.prog (wr.drewN n') = .ok (.tuple #[(f L[k].1).getD (.int .i64 0), .bool bb]) (wr.drewN n') := fun n' => by
          rw [MapF.look_ok (hf.new ((New.refl wr).drewN n')) Tryz.underlying9 Tryz.underlying91 (z3 _) (by omega), hfk, hbb]
        have HBB := Lib.hid hbb
        have HFK := Lib.hid hfk
        clear hbb hfk
        go_wp2_with fail
        go_quiet (fail)
        go_upto_if 62 with fail
        go_cut [] (fun wc => ∃ r2 n', n' ≤ n + 1 ∧ SymSt wc w.heap.size p m1 m2 m3 r2 (.slice a5 n5 c5) r5 (typesA (L.take k) [invalidS, eofS]) (headsA (L.take (k + 1))) (headsA (L.take (k + 1))) n' ∧ New w wc)
        case first =>
          have hnq : New wr (wr.drewN nq) := (New.refl wr).drewN nq
          have g1 := hnq.cell g1
          have g2 := hnq.cell g2
          have h2 := hnq.cell h2
          have st := st.new hnq
          have hf := hf.new hnq
          have hB : w.heap.size ≤ (wr.drewN nq).heap.size := hB
          have hn2 := hn.drewN nq
          generalize wr.drewN nq = wq at *
          clear hlk hnq h1 h3 h4
          have htk := headsA_take hlt
          cases bb with
          | true =>
            go_wp2_with fail
            go_meet
            repeat apply Exists.intro
            exact ⟨Nat.le_succ n, by rw [htk, addTo_yes HBB.out.symm]; exact st, hn2⟩
          | false =>
            go_wp2_with fail
            have l1 := lt_of_block st.blk
            have l2 : pb < wq.heap.size := Nat.lt_of_lt_of_le lpb hn2.size
            have gf := free_of_blk st.blk 2
            have hA1 := (World.cell?_of_block (Below.heap_alloc wq (.cells #[sv L[k].1] 9) p l1) (a := ⟨p, 2, none⟩)).trans g2
            have hA2 := (World.cell?_of_block (Below.heap_alloc wq (.cells #[sv L[k].1] 9) pb l2) (a := ⟨pb, 0, none⟩)).trans h2
            have hA3 := (World.frozen?_of_block (Below.heap_alloc wq (.cells #[sv L[k].1] 9) p l1) (a := ⟨p, 2, none⟩)).trans gf
            have hpne : some p ≠ r2.ownBlock := fun e => ownBlock_ne st.ntr st.blk (by decide) e.symm
            have hpbne : some pb ≠ r2.ownBlock := fun e => by have := (st.ntr.lt pb e.symm).1; omega
            have hln := headsA_len (L.take k)
            have hlt2 := List.length_take_le k L
            have HA := Lib.hid (And.intro hA1 hA3)
            clear hA2
            have hW : New wq ((wq.alloc (.cells #[sv L[k].1] 9)).drew) := ((New.refl wq).alloc (.cells #[sv L[k].1] 9)).drewN 1
            go_region_law ((refine step_push (by rfl) _ _ _ _ (by rfl) T24 w.heap.size r2 _ _ (by rfl) (by first | exact (st.ntr.alloc (.cells #[sv L[k].1] 9)).drew | exact (st.ntr.alloc (.cells #[sv L[k].1] 9))) [_] (by rfl) (by rfl) _ wq.heap.size (by rfl) (0, 0) (heap_alloc_new wq _) (by omega) (by omega) (by simp; omega) ?_; intro g0 cap1 w1 hown1 hgrow hat; have q1 := (hgrow.cell_far ⟨p, 2, none⟩ (Nat.lt_trans l1 (by simp)) hpne).trans HA.out.1; have q2 := (hgrow.frozen_far ⟨p, 2, none⟩ (Nat.lt_trans l1 (by simp)) hpne).trans HA.out.2; have hgr := Lib.hid hgrow; clear hgrow))
            all_goals (
              obtain ⟨st1, hb1⟩ := SymSt.pushNt (st.new hW) L[k].1 hown1 hgr.out hat (by simp; omega)
              have hn3 : New w _ := Below.trans (hn2.trans hW) hb1
              clear q1 q2 hown1 hgr hat hf g1 g2 gf h2 HA hA1 hA3 hb1 hpne hpbne
              generalize w1.setCell ⟨p, 2, none⟩ (.slice (some ⟨g0, 0, none⟩) ((headsA (L.take k)).length + 1) cap1) = w3 at *
              have hB3 := hn3.size
              have g1 := cell_of_blk st1.blk 1
              have g2 := cell_of_blk st1.blk 2
              simp only [List.getElem?_toArray, List.getElem?_cons_zero, List.getElem?_cons_succ] at g1 g2
              have h2 := hn3.cell H2.out
              obtain ⟨f2, hf2, hfk2⟩ := st1.ntm
              have HF2 := Lib.hid hfk2
              clear hfk2 htk
              go_wp2_with fail
              go_still_tail 14, (by kernel_rfl)
              change wpList _ _ _ _ _ (World.drew _)
              go_wp2_with (at_mapUpdate; go_must (refine wpList_mstore _ rfl _ _ _ _ _ rfl Tryz.underlying9 Tryz.underlying91 m2 n f2 rfl (hf2.new ((New.refl w3).drewN 1)) (by omega) L[k].1 rfl (by omega) _ rfl ?_))
              intro w4 hf4 hg4
              have hg5 : w3.grownBy w4 (some m2) := ⟨hg4.os, hg4.tape, hg4.output, hg4.size, hg4.block⟩
              obtain ⟨st4, hb4⟩ := st1.putNt L[k].1 HF2.out _ hf4 hg5 hB3 (has_snoc _ _)
              have hn4 : New w w4 := Below.trans hn3 hb4
              clear hf4 hg4 hg5 hb4
              go_wp2_with fail
              go_meet
              repeat apply Exists.intro
              exact ⟨Nat.le_refl (n + 1), by rw [headsA_take hlt, addTo_no HBB.out.symm]; exact st4, hn4⟩)
        case rest =>
          clear h1 h2 h3 h4 g1 g2 hf hf0 st hlk
          obtain ⟨r2, n1, hn1, st, hnc⟩ := hcut
          have hB := hnc.size
          have h2 := hnc.cell H2.out
          have h3 := hnc.cell H3.out.1
          have h4 := hnc.cell H3.out.2.1
          have htl := typesA_len (L.take k) [invalidS, eofS] 20 (fun q hq => (HL.out q (List.mem_of_mem_take hq)).2.1)
          have htk := List.length_take_le k L
          have htl2 : (typesA (L.take k) [invalidS, eofS]).length ≤ 500 := by
            simp only [List.length_cons, List.length_nil] at htl
            omega
          clear htl htk
          go_wp2_with fail
          refine (Add_new st L[k].1 hs (by omega) (by omega) hB rfl _).mono ?_
          rintro e w5 ⟨rfl, r5, st, hb5⟩
          have hn5 : New w w5 := Below.trans hnc hb5
          clear hb5 h2 h3 h4 hnc
          have hB5 := hn5.size
          have h3 := hn5.cell H3.out.1
          have h4 := hn5.cell H3.out.2.1
          go_wp2_with fail
          go_loopg [105] L[k].2.length (fun gj i wr => ∃ (j : Nat) (r5 : Value) (n' : Nat), j ≤ L[k].2.length ∧ gj = L[k].2.length - j ∧ i = .int .i64 j ∧ SymSt wr w.heap.size p m1 m2 m3 r2 (.slice a5 n5 c5) r5 ((L[k].2.take j).foldl (fun t s => addTo t s.str) (addTo (typesA (L.take k) [invalidS, eofS]) L[k].1)) (headsA (L.take (k + 1))) (headsA (L.take (k + 1))) n' ∧ n' ≤ n + 2 + j ∧ New w wr)
          case atStart => exact ⟨0, _, _, Nat.zero_le _, rfl, rfl, st, by omega, hn5⟩
          case round =>
            clear h3 h4 st hn5 hB5
            obtain ⟨j, r5, n2, hj, rfl, rfl, st, hn2, hnj⟩ := hrel
            have hB := hnj.size
            have hH5 := H3.out.2.2
            by_cases hlj : j < L[k].2.length
            · obtain ⟨b2, o2, e, c1⟩ := hH5.elem hlj
              cases e
              have c1 := hnj.cell c1
              have hsl := hh.2.2 _ (List.getElem_mem hlj)
              have hrt := bodyA_take hlj (addTo (typesA (L.take k) [invalidS, eofS]) L[k].1)
              have hbl := bodyA_len (L[k].2.take j) (addTo (typesA (L.take k) [invalidS, eofS]) L[k].1)
              have hal := addTo_len (typesA (L.take k) [invalidS, eofS]) L[k].1
              have htk := List.length_take_le j L[k].2
              have hll : ((L[k].2.take j).foldl (fun t s => addTo t s.str) (addTo (typesA (L.take k) [invalidS, eofS]) L[k].1)).length ≤ 1000 := by omega
              have hfin := hrt
              have HR := Lib.hid hrt
              clear hrt hbl hal htk hfin
              generalize L[k].2[j] = sy at *
              cases sy with
              | nt s =>
                simp only [Sy.val] at c1
                have hmm := met142
                have hta := ta142
                simp only [Sy.str] at hsl
                go_wp2_with (first | (go_at_call 302; refine (SymStr_nt _ _).mono ?_; rintro e w' ⟨rfl, rfl⟩) | (go_at_call 129; refine (Add_new st s hsl hll (by omega) hB rfl _).mono ?_; rintro e w6 ⟨rfl, r6, st6, hb6⟩))
                go_roundg (L[k].2.length - (j + 1))
                case measure => omega
                case rel => exact ⟨j + 1, r6, n2 + 1, by omega, rfl, by go_num, by rw [HR.out]; exact st6, by omega, Below.trans hnj hb6⟩
              | tk s =>
                simp only [Sy.val] at c1
                have hmm := met143
                have hta := ta143
                simp only [Sy.str] at hsl
                go_wp2_with (first | (go_at_call 305; refine (SymStr_tk _ _).mono ?_; rintro e w' ⟨rfl, rfl⟩) | (go_at_call 129; refine (Add_new st s hsl hll (by omega) hB rfl _).mono ?_; rintro e w6 ⟨rfl, r6, st6, hb6⟩))
                go_roundg (L[k].2.length - (j + 1))
                case measure => omega
                case rel => exact ⟨j + 1, r6, n2 + 1, by omega, rfl, by go_num, by rw [HR.out]; exact st6, by omega, Below.trans hnj hb6⟩
              | em =>
                simp only [Sy.val] at c1
                have hmm := met144
                have hta := ta144
                simp only [Sy.str] at hsl
                go_wp2_with (first | (go_at_call 308; refine (SymStr_em _ _).mono ?_; rintro e w' ⟨rfl, rfl⟩) | (go_at_call 129; refine (Add_new st emptyS hsl hll (by omega) hB rfl _).mono ?_; rintro e w6 ⟨rfl, r6, st6, hb6⟩))
                go_roundg (L[k].2.length - (j + 1))
                case measure => omega
                case rel => exact ⟨j + 1, r6, n2 + 1, by omega, rfl, by go_num, by rw [HR.out]; exact st6, by omega, Below.trans hnj hb6⟩
            · obtain rfl : j = L[k].2.length := by omega
              rw [List.take_length, ← typesA_take hlt] at st
              go_wp2
              go_roundg (L.length - (k + 1))
              case measure => omega
              case rel => exact ⟨k + 1, r2, r5, n2, by omega, rfl, by go_num, st, by omega, hnj⟩
      · obtain rfl : k = L.length := by omega
        simp only [List.take_length] at st
        go_wp2
        go_ret
        exact ⟨p, m1, m2, m3, r2, _, r5, n, rfl, st, hn⟩
  · exact ⟨undef, undef, undef, undef, undef, undef, undef, undef, undef, rfl, by simp, by simp, by simp, by simp, by simp, by simp, by simp, by simp, by simp, by simp, by simp, by simp, by simp, by simp, ⟨rfl, rfl, rfl, Nat.le_refl _, fun _ _ => rfl⟩⟩
end Go.Proofs.YtdejcdmgcckmoaaGreatDoor
