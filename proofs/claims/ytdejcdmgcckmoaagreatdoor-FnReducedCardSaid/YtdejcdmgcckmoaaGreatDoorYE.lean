/- The package: its symbols. -/
import Derived.Test.YtdejcdmgcckmoaaGreatDoorYD
import Derived.Deep.AppendLies
import Derived.Deep.DeepCutAuto
import Derived.Deep.LoopGhost
import Derived.Deep.RegionHeld3
import Derived.RegionTactic
namespace Go.Proofs.YtdejcdmgcckmoaaGreatDoor
open Go.RowKit Lr

/-- One element appended at a step of a region that draws. -/
theorem step_push {P : Program} {w : World} {ops : Array Oper} {o : Oper} {a : Act} {K : Act → World → Prop} {E : Prop} {Q : Exit → Act → World → Prop} (hgd : o.guard = none) (s x : Operand) (t e : TypeId)
    (ho : o.op = .call { callee := .builtin .append, args := #[s, x], argTypes := #[t, t] }) {size bytes : Nat} {z : Value} (T : SliceTy P t e size bytes z)
    (B : Nat) (v : Value) (n : Nat) (xs : List Value) (hs : a.eval s = v) (hown : w.ownsRow B e size v n xs) (news : List Value) (hl : news.length = size) (h1 : news.all Value.oneCell' = true)
    (c hp : Nat) (hx : a.eval x = .slice (some ⟨hp, 0, none⟩) 1 c) (fr : Nat × Nat) (hb : w.heap[hp]? = some (.cells news.toArray e fr)) (hbytes : (n + 1) * bytes ≤ 140737488355328) (hlen : n + 1 ≤ 140737488355328) (hbase : B ≤ w.heap.size)
    (h : ∀ g cap w', w'.ownsRow B e size (.slice (some ⟨g, 0, none⟩) (n + 1) cap) (n + 1) (xs ++ news) → w.grownBy w' v.ownBlock → (v.ownBlock = some g ∨ w.heap.size ≤ g) → K (a.put o.dst (.slice (some ⟨g, 0, none⟩) (n + 1) cap)) w') :
    if Region.wanted o (yielded ops a.tmps) = true then Oper.wp P o a w K Q else E := by
  obtain ⟨i, hi, hz0, hz1, hz2⟩ := info_parts T.row
  refine step_append_lies w hgd s x t ho B e i z size bytes T.und hi hz0 hz1 hz2 T.cells T.pos v n xs hs hown ⟨hp, 0, none⟩ 1 c news hx (by omega) ?_ ?_ (by omega) (by unfold maxLen; omega) hbytes hbase _ rfl ?_
  · have := World.news_of_block hb
    simpa using this
  · simpa [List.all_eq_true] using h1
  · intro g cap w' h1 h2 h3 h4
    exact h g cap w' h1 h2 (h3.imp id fun e => by omega)

/-- The nonterminals' row is longer by one. -/
theorem SymSt.pushNt {w w1 : World} {B p m1 m2 m3 g cap : Nat} {r2 r4 r5 : Value} {tm nt nk : List Str} {n : Nat} (st : SymSt w B p m1 m2 m3 r2 r4 r5 tm nt nk n) (s : Str)
    (hown1 : w1.ownsRow B 9 1 (.slice (some ⟨g, 0, none⟩) (nt.length + 1) cap) (nt.length + 1) (nt.map sv ++ [sv s])) (hgrow : w.grownBy w1 r2.ownBlock) (hat : r2.ownBlock = some g ∨ w.heap.size ≤ g) (hB : B ≤ w.heap.size) :
    SymSt (w1.setCell ⟨p, 2, none⟩ (.slice (some ⟨g, 0, none⟩) (nt.length + 1) cap)) B p m1 m2 m3 (.slice (some ⟨g, 0, none⟩) (nt.length + 1) cap) r4 r5 tm (nt ++ [s]) nk n ∧ Below B w (w1.setCell ⟨p, 2, none⟩ (.slice (some ⟨g, 0, none⟩) (nt.length + 1) cap)) := by
  have b1 := (hgrow.block p (lt_of_block st.blk) (fun e => ownBlock_ne st.ntr st.blk (by decide) e.symm)).trans st.blk
  have hown2 := Strs.push hown1
  have e1 := cell_of_blk b1 2
  simp only [List.getElem?_toArray, List.getElem?_cons_zero, List.getElem?_cons_succ] at e1
  have b2 := set_of_blk b1 2 (.slice (some ⟨g, 0, none⟩) (nt.length + 1) cap)
  simp only [List.setIfInBounds_toArray, List.set_cons_succ, List.set_cons_zero] at b2
  have hd : r5.ownBlock = none ∨ r5.ownBlock ≠ r2.ownBlock := by
    rcases st.dis with h | h
    · cases hr : r5.ownBlock with
      | none => exact .inl rfl
      | some k => right; rw [h]; exact fun e => by cases e
    · exact .inr h.symm
  have hr5 := st.tmr.kept hgrow hd
  refine ⟨⟨b2, ?_, ?_, ownsRow_setCell_other hr5 (a := ⟨p, 2, none⟩) (ownBlock_ne hr5 b1 (by decide)) _, ownsRow_setCell_other hown2 (a := ⟨p, 2, none⟩) (ownBlock_ne hown2 b1 (by decide)) _, ?_, st.mne, st.pB, st.m1B, st.m2B⟩,
    (Below.grown (Below.refl B w) hgrow hB (fun k hk => (st.ntr.lt k hk).1)).setCell (p := ⟨p, 2, none⟩) st.pB _⟩
  · obtain ⟨f, hf, hk⟩ := st.id
    exact ⟨f, (hf.kept hgrow (fun e => ownBlock_ne_map st.ntr hf e.symm)).setCell e1, hk⟩
  · obtain ⟨f, hf, hk⟩ := st.ntm
    exact ⟨f, (hf.kept hgrow (fun e => ownBlock_ne_map st.ntr hf e.symm)).setCell e1, hk⟩
  · cases hr : r5.ownBlock with
    | none => right; simp [Value.ownBlock]
    | some k =>
      right
      intro e
      simp only [Value.ownBlock] at e
      injection e with e
      rcases hat with h | h
      · rcases hd with h2 | h2
        · rw [hr] at h2; cases h2
        · exact h2 (by rw [hr, h, e])
      · have := (st.tmr.lt k hr).2
        omega

/-- The nonterminals' table has one key more. -/
theorem SymSt.putNt {w w3 : World} {B p m1 m2 m3 : Nat} {r2 r4 r5 : Value} {tm nt nk : List Str} {n : Nat} (st : SymSt w B p m1 m2 m3 r2 r4 r5 tm nt nk n) (s : Str) {f : Str → Option Value} (hfk : ∀ s, (f s).isSome = has nk s) (val : Value)
    (hf3 : MapF Tryz.prog 9 w3 m2 (n + 1) (putF f s val)) (hg : w.grownBy w3 (some m2)) (hB : B ≤ w.heap.size) {nk' : List Str} (hnk : ∀ t, has nk' t = (decide (t = s) || has nk t)) :
    SymSt w3 B p m1 m2 m3 r2 r4 r5 tm nt nk' (n + 1) ∧ Below B w w3 := by
  obtain ⟨f2, hf2, hk2⟩ := st.ntm
  have hpm : some p ≠ some m2 := by
    intro e
    obtain ⟨es, cl, hm⟩ := hf2.block
    injection e with e
    rw [← e, st.blk] at hm
    cases hm
  refine ⟨⟨(hg.block p (lt_of_block st.blk) hpm).trans st.blk, ?_, ⟨_, hf3, fun t => ?_⟩, st.tmr.kept hg (.inr (ownBlock_ne_map st.tmr hf2)), st.ntr.kept hg (.inr (ownBlock_ne_map st.ntr hf2)), st.dis, st.mne, st.pB, st.m1B, st.m2B⟩,
    Below.grown (Below.refl B w) hg hB (fun k hk => by injection hk with hk; rw [← hk]; exact st.m2B)⟩
  · obtain ⟨f1, hf1, hk1⟩ := st.id
    exact ⟨f1, (hf1.kept hg (fun e => st.mne (by injection e with e))).mono (by omega), hk1⟩
  · rw [hnk]
    unfold putF
    by_cases e : t = s
    · subst e; simp
    · simp only [e, if_false, hfk]; simp

/-- The types' names and the heads of a list of productions. -/
def typesA (L : List AP) (t0 : List Str) : List Str := L.foldl (fun t p => p.2.foldl (fun t s => addTo t s.str) (addTo t p.1)) t0
def headsA (L : List AP) : List Str := L.foldl (fun t p => addTo t p.1) []
def invalidS : Str := [73, 78, 86, 65, 76, 73, 68]
def eofS : Str := [226, 144, 154]
theorem bodyA_len (l : List Sy) (t : List Str) : (l.foldl (fun t s => addTo t s.str) t).length ≤ t.length + l.length := by
  induction l generalizing t with
  | nil => simp
  | cons s l ih => have := ih (addTo t s.str); have := addTo_len t s.str; simp at *; omega
theorem typesA_len (L : List AP) (t : List Str) (m : Nat) (h : ∀ p ∈ L, p.2.length ≤ m) : (typesA L t).length ≤ t.length + L.length * (m + 1) := by
  induction L generalizing t with
  | nil => simp [typesA]
  | cons p L ih =>
    have h1 := ih (p.2.foldl (fun t s => addTo t s.str) (addTo t p.1)) (fun q hq => h q (List.mem_cons_of_mem _ hq))
    have h2 := bodyA_len p.2 (addTo t p.1)
    have h3 := addTo_len t p.1
    have h4 := h p (List.mem_cons_self ..)
    simp only [typesA, List.foldl_cons, List.length_cons, Nat.succ_mul] at *
    omega
theorem headsA_len (L : List AP) : (headsA L).length ≤ L.length := by
  have : ∀ (L : List AP) (out : List Str), (L.foldl (fun out p => addTo out p.1) out).length ≤ out.length + L.length := by
    intro L
    induction L with
    | nil => simp
    | cons p L ih => intro out; have := ih (addTo out p.1); have := addTo_len out p.1; simp at *; omega
  have := this L []
  simpa [headsA] using this
theorem typesA_take {L : List AP} {k : Nat} (h : k < L.length) (t0 : List Str) : typesA (L.take (k + 1)) t0 = L[k].2.foldl (fun t s => addTo t s.str) (addTo (typesA (L.take k) t0) L[k].1) := by
  have := foldl_take (fun t (p : AP) => p.2.foldl (fun t s => addTo t s.str) (addTo t p.1)) t0 L default h
  simpa [typesA, List.getD, h] using this
theorem headsA_take {L : List AP} {k : Nat} (h : k < L.length) : headsA (L.take (k + 1)) = addTo (headsA (L.take k)) L[k].1 := by
  have := foldl_take (fun t (p : AP) => addTo t p.1) [] L default h
  simpa [headsA, List.getD, h] using this
theorem bodyA_take {l : List Sy} {k : Nat} (h : k < l.length) (t : List Str) : (l.take (k + 1)).foldl (fun t s => addTo t s.str) t = addTo ((l.take k).foldl (fun t s => addTo t s.str) t) l[k].str := by
  have := foldl_take (fun t (s : Sy) => addTo t s.str) t l .em h
  simpa [List.getD, h] using this
theorem has_snoc (l : List Str) (s t : Str) : has (l ++ [s]) t = (decide (t = s) || has l t) := by
  simp [has, Bool.or_comm]
theorem Add_new {w : World} {B p m1 m2 m3 : Nat} {r2 r4 r5 : Value} {tm nt nk : List Str} {n : Nat} (st : SymSt w B p m1 m2 m3 r2 r4 r5 tm nt nk n) (s : Str) (hs : s.length ≤ 1000)
    (htm : tm.length ≤ 1000) (hn : n ≤ 1000000) (hB : B ≤ w.heap.size) {q : Nat} (hq : w.heap.size = q) (c : Nat) :
    Calls Tryz.prog 129 #[.pointer (some ⟨p, 0, none⟩), .slice (some ⟨q, 0, none⟩) 1 c] (w.alloc (.cells #[sv s] 9)) fun e w' => e = .returned (.tuple #[]) ∧ ∃ r5', SymSt w' B p m1 m2 m3 r2 r4 r5' (addTo tm s) nt nk (n + 1) ∧ Below B w w' := by
  subst hq
  refine (Add_one (st.new ((New.refl w).alloc _)) s hs w.heap.size c (by simp) htm hn (by simp; omega)).mono ?_
  rintro e w' ⟨rfl, r5', st', hb⟩
  exact ⟨rfl, r5', st', (Below.mono ((New.refl w).alloc _) hB).trans hb⟩
end Go.Proofs.YtdejcdmgcckmoaaGreatDoor
namespace Go.Proofs.YtdejcdmgcckmoaaGreatDoor
open Go.RowKit Lr

def fr98 (x : Nat) (v3 v17 v18 v19 v20 v21 v22 v23 v24 : Value) : Act := ⟨#[(.pointer (some ⟨x, 0, none⟩)), undef, (.pointer none), v3, undef, undef, undef, undef, undef, undef, undef, undef, undef, undef, undef, undef, undef, v17, v18, v19, v20, v21, v22, v23, v24, undef, undef, undef, undef, undef, undef, undef, undef, undef, undef, undef, undef, undef, undef, undef, undef, undef, undef, undef, undef, undef, undef, undef, undef, undef, undef, undef, undef, undef, undef, undef, undef, undef, undef, undef, undef, undef, undef, undef, undef, undef, undef, undef, undef, undef, undef, undef, undef, undef, undef, undef, undef, undef, undef, undef, undef, undef, undef, undef, undef, undef, undef, undef, undef, undef, undef, undef, undef, undef, undef, undef, undef, undef, undef, undef, undef, undef, undef, undef, undef, undef, undef, undef, undef, undef, undef, undef, undef, undef, undef, undef, undef, undef, undef, undef, undef, undef, undef, undef, undef, undef, undef, undef, undef, undef, undef, undef, undef, undef, undef, undef, undef, undef, undef, undef, undef, undef, undef, undef, undef, undef, undef, undef, undef, undef, undef, undef, undef, undef, undef, undef, undef, undef, undef, undef, undef, undef, undef, undef, undef, undef, undef, undef, undef, undef], []⟩

structure Made98 (w w' : World) (x : Nat) (listed : Array Bool) (a : Act) (v3 v17 v18 v19 v20 v21 v22 v23 v24 : Value) : Prop where
  fr : a = fr98 x v3 v17 v18 v19 v20 v21 v22 v23 v24
  f0 : listed[0]? = some true → ∃ b, v17 = .map (some b) ∧ w'.heap[b]? = some (.map #[] 0) ∧ w.heap.size ≤ b
  f1 : listed[1]? = some true → ∃ b, v18 = .slice (some ⟨b, 0, none⟩) 0 16 ∧ w'.heap[b]? = some (.cells (Array.replicate 16 (.string ByteArray.empty)) 9 (0, 0)) ∧ w.heap.size ≤ b
  f2 : listed[2]? = some true → ∃ b, v19 = .map (some b) ∧ w'.heap[b]? = some (.map #[] 0) ∧ w.heap.size ≤ b
  f3 : listed[3]? = some true → ∃ b, v20 = .slice (some ⟨b, 0, none⟩) 0 16 ∧ w'.heap[b]? = some (.cells (Array.replicate 16 (.string ByteArray.empty)) 9 (0, 0)) ∧ w.heap.size ≤ b
  f4 : listed[4]? = some true → ∃ b, v21 = .map (some b)
  f5 : listed[5]? = some true → ∃ a n c, v22 = .slice a n c
  d02 : listed[0]? = some true → listed[2]? = some true → v17 ≠ v19
  d13 : listed[1]? = some true → listed[3]? = some true → v18 ≠ v20
  m6 : listed[6]? = some true → ∀ j, j < 6 → listed[j]? = some true
  m7 : listed[7]? = some true → listed[6]? = some true
  m8 : listed[8]? = some true → listed[7]? = some true
  f6 : listed[6]? = some true → v23 = .agg #[v17, v19, v20, v21, v22, v18]
  f7 : listed[7]? = some true → ∃ p, v24 = .pointer (some ⟨p, 0, none⟩) ∧ w'.heap[p]? = some (.cells #[v17, v19, v20, v21, v22, v18] 153 (0, 0)) ∧ w.heap.size ≤ p
  f8 : listed[8]? = some true → v3 = v24
  n : New w w'

theorem keep_alloc {w : World} {b : Nat} {o O : Obj} (h : w.heap[b]? = some o) : (w.alloc O).heap[b]? = some o := by
  rw [Below.heap_alloc w O b (lt_of_block h)]; exact h
theorem set_other {l : Array Bool} {i j : Nat} (h : i ≠ j) : (l.setIfInBounds i true)[j]? = l[j]? := by simp [h]
theorem is_listed {l : Array Bool} {i : Nat} (h : l.getD i false = true) : l[i]? = some true := by
  rw [Array.getD_eq_getD_getElem?] at h
  cases e : l[i]? with
  | none => rw [e] at h; cases h
  | some b => rw [e] at h; simp at h; rw [h]
theorem ready_deps {md : Region.Mode} {ops : Array Oper} {listed : Array Bool} {i : Nat} {o : Oper} (h : i ∈ Region.ready md ops listed) (ho : ops[i]? = some o) : (o.after.all fun e => !Region.binds md e || listed.getD e.on false) = true := by
  simp only [Region.ready, List.mem_filter, List.mem_range, Bool.and_eq_true, Bool.not_eq_true'] at h
  have := h.2.2
  rw [ho] at this
  simpa using this
theorem listed_get {l : Array Bool} {i : Nat} (h : l[i]? = some true) : l.getD i false = true := by
  rw [Array.getD_eq_getD_getElem?, h]; rfl
theorem not_ready {md : Region.Mode} {ops : Array Oper} {listed : Array Bool} (h : Region.ready md ops listed = []) (i : Nat) (o : Oper) (ho : ops[i]? = some o) (hd : (o.after.all fun e => listed.getD e.on false) = true) (hs : listed.size = ops.size) : listed[i]? = some true := by
  have hi := (Array.getElem?_eq_some_iff.1 ho).1
  have h1 : i ∉ Region.ready md ops listed := by rw [h]; simp
  cases e : listed[i]? with
  | none => rw [Array.getElem?_eq_none_iff] at e; omega
  | some b =>
    cases b with
    | true => rfl
    | false =>
      exfalso
      apply h1
      simp only [Region.ready, List.mem_filter, List.mem_range, Bool.and_eq_true, Bool.not_eq_true']
      refine ⟨hi, by rw [Array.getD_eq_getD_getElem?, e]; rfl, ?_⟩
      rw [ho]
      simp only [Option.map_some, Option.getD_some, Array.all_eq_true] at hd ⊢
      intro j hj
      rw [hd j hj]; simp
theorem mapF_empty {P : Program} {kt : TypeId} {w : World} {b : Nat} (h : w.heap[b]? = some (.map #[] 0)) : MapF P kt w b 0 (fun _ => none) := by
  refine ⟨.map [], ⟨#[], 0, h, ⟨by simp, MapKept.stamped_empty 0, by simp⟩, Nat.le_refl _, rfl⟩, fun _ => .inl ⟨rfl, rfl⟩⟩
theorem row_empty {w : World} {B b : Nat} (h : w.heap[b]? = some (.cells (Array.replicate 16 (.string ByteArray.empty)) 9 (0, 0))) (hB : B ≤ b) : Strs w B (.slice (some ⟨b, 0, none⟩) 0 16) [] :=
  ⟨rfl, .inr ⟨b, 16, _, rfl, hB, h, by simp, by unfold maxLen; omega, by simp, by simp⟩⟩
theorem un_listed {l : Array Bool} {i : Nat} (h : l.getD i true = false) : l[i]? ≠ some true := by
  intro e
  rw [Array.getD_eq_getD_getElem?, e] at h
  cases h
theorem Made98.g0 {w w' : World} {x : Nat} {listed : Array Bool} {a : Act} {v3 v17 v18 v19 v20 v21 v22 v23 v24 : Value} (h : Made98 w w' x listed a v3 v17 v18 v19 v20 v21 v22 v23 v24) (O : Obj) (e : listed[0]? = some true) : ∃ b, v17 = .map (some b) ∧ (w'.alloc O).heap[b]? = some (.map #[] 0) ∧ w.heap.size ≤ b := by
  obtain ⟨b, h1, h2, h3⟩ := h.f0 e; exact ⟨b, h1, keep_alloc h2, h3⟩
theorem Made98.g2 {w w' : World} {x : Nat} {listed : Array Bool} {a : Act} {v3 v17 v18 v19 v20 v21 v22 v23 v24 : Value} (h : Made98 w w' x listed a v3 v17 v18 v19 v20 v21 v22 v23 v24) (O : Obj) (e : listed[2]? = some true) : ∃ b, v19 = .map (some b) ∧ (w'.alloc O).heap[b]? = some (.map #[] 0) ∧ w.heap.size ≤ b := by
  obtain ⟨b, h1, h2, h3⟩ := h.f2 e; exact ⟨b, h1, keep_alloc h2, h3⟩
theorem Made98.g1 {w w' : World} {x : Nat} {listed : Array Bool} {a : Act} {v3 v17 v18 v19 v20 v21 v22 v23 v24 : Value} (h : Made98 w w' x listed a v3 v17 v18 v19 v20 v21 v22 v23 v24) (O : Obj) (e : listed[1]? = some true) : ∃ b, v18 = .slice (some ⟨b, 0, none⟩) 0 16 ∧ (w'.alloc O).heap[b]? = some (.cells (Array.replicate 16 (.string ByteArray.empty)) 9 (0, 0)) ∧ w.heap.size ≤ b := by
  obtain ⟨b, h1, h2, h3⟩ := h.f1 e; exact ⟨b, h1, keep_alloc h2, h3⟩
theorem Made98.g3 {w w' : World} {x : Nat} {listed : Array Bool} {a : Act} {v3 v17 v18 v19 v20 v21 v22 v23 v24 : Value} (h : Made98 w w' x listed a v3 v17 v18 v19 v20 v21 v22 v23 v24) (O : Obj) (e : listed[3]? = some true) : ∃ b, v20 = .slice (some ⟨b, 0, none⟩) 0 16 ∧ (w'.alloc O).heap[b]? = some (.cells (Array.replicate 16 (.string ByteArray.empty)) 9 (0, 0)) ∧ w.heap.size ≤ b := by
  obtain ⟨b, h1, h2, h3⟩ := h.f3 e; exact ⟨b, h1, keep_alloc h2, h3⟩
theorem Made98.no6 {w w' : World} {x : Nat} {listed : Array Bool} {a : Act} {v3 v17 v18 v19 v20 v21 v22 v23 v24 : Value} (h : Made98 w w' x listed a v3 v17 v18 v19 v20 v21 v22 v23 v24) {i : Nat} (hi : i < 6) (hu : listed[i]? ≠ some true) : listed[6]? ≠ some true := fun e => hu (h.m6 e i hi)
theorem Made98.no7 {w w' : World} {x : Nat} {listed : Array Bool} {a : Act} {v3 v17 v18 v19 v20 v21 v22 v23 v24 : Value} (h : Made98 w w' x listed a v3 v17 v18 v19 v20 v21 v22 v23 v24) (hu : listed[6]? ≠ some true) : listed[7]? ≠ some true := fun e => hu (h.m7 e)
theorem Made98.no8 {w w' : World} {x : Nat} {listed : Array Bool} {a : Act} {v3 v17 v18 v19 v20 v21 v22 v23 v24 : Value} (h : Made98 w w' x listed a v3 v17 v18 v19 v20 v21 v22 v23 v24) (hu : listed[7]? ≠ some true) : listed[8]? ≠ some true := fun e => hu (h.m8 e)

set_option maxRecDepth 100000 in
set_option maxHeartbeats 2000000 in
theorem NewSymbols_any (x : Nat) (w : World) (L : List AP) (hg : GrmAt w (.pointer (some ⟨x, 0, none⟩)) L) (hL : L.length ≤ 20) (hl : ∀ p ∈ L, p.1.length ≤ 1000 ∧ p.2.length ≤ 20 ∧ ∀ s ∈ p.2, s.str.length ≤ 1000) :
    Calls Tryz.prog 98 #[.pointer (some ⟨x, 0, none⟩)] w fun e w' => ∃ p m1 m2 m3 r2 r4 r5 n, e = .returned (.pointer (some ⟨p, 0, none⟩)) ∧
      SymSt w' w.heap.size p m1 m2 m3 r2 r4 r5 (typesA L [invalidS, eofS]) (headsA L) (headsA L) n ∧ New w w' := by
  obtain ⟨x', y, z, e, gx, gy, hP⟩ := hg
  cases e
  have HG := Lib.hid (And.intro gx (And.intro gy hP))
  have HL := Lib.hid hl
  clear gx gy hP hl
  go_enter Tryz.func98, Tryz.ntmps98
  go_wp2
  refine wp_region_any (by kernel_rfl) ?_
  refine wpAny_inv (I := fun listed a w' => ∃ v3 v17 v18 v19 v20 v21 v22 v23 v24, Made98 w w' x listed a v3 v17 v18 v19 v20 v21 v22 v23 v24) ?_ ?_ _ _ _ _ ?_ (by simp) (by simp)
  · intro listed a w' hs hI i hi
    obtain ⟨v3, v17, v18, v19, v20, v21, v22, v23, v24, hI⟩ := hI
    obtain ⟨hlt, hun⟩ := ready_mem hi
    have hfr := hI.fr
    subst hfr
    have hmm := @run_makeMap Tryz.prog
    have hmk : ∀ w, (Instr.makeSlice 24 (.int .i64 0) (.int .i64 16)).run Tryz.prog w = .ok (.slice (some ⟨w.heap.size, 0, none⟩) 0 16) (w.alloc (.cells (Array.replicate 16 (.string ByteArray.empty)) 9)) := fun _ => by kernel_rfl
    have hi9 : i = 0 ∨ i = 1 ∨ i = 2 ∨ i = 3 ∨ i = 4 ∨ i = 5 ∨ i = 6 ∨ i = 7 ∨ i = 8 := by simp at hlt; omega
    rcases hi9 with rfl | rfl | rfl | rfl | rfl | rfl | rfl | rfl | rfl
    · have u := un_listed hun
      have u6 := hI.no6 (i := 0) (by decide) u
      have u7 := hI.no7 u6
      have u8 := hI.no8 u7
      refine wpOp_step rfl (fun K' hK => ?_)
      unfold fr98
      go_simp
      refine hK _ _ ⟨v3, _, v18, v19, v20, v21, v22, v23, v24, rfl, (fun _ => ⟨_, rfl, heap_alloc_new _ _, hI.n.size⟩),
        (fun e => hI.g1 _ (by rwa [set_other (by decide)] at e)),
        (fun e => hI.g2 _ (by rwa [set_other (by decide)] at e)),
        (fun e => hI.g3 _ (by rwa [set_other (by decide)] at e)),
        (fun e => hI.f4 (by rwa [set_other (by decide)] at e)),
        (fun e => hI.f5 (by rwa [set_other (by decide)] at e)),
        (fun _ e2 => by
        obtain ⟨b, h1, h2, _⟩ := hI.f2 (by rwa [set_other (by decide)] at e2)
        have := lt_of_block h2
        rw [h1]; intro e; injection e with e; injection e with e; omega),
        (fun e0 e2 => hI.d13 (by rwa [set_other (by decide)] at e0) (by rwa [set_other (by decide)] at e2)),
        (fun e => absurd (by rwa [set_other (by decide)] at e) u6),
        (fun e => absurd (by rwa [set_other (by decide)] at e) u7),
        (fun e => absurd (by rwa [set_other (by decide)] at e) u8),
        (fun e => absurd (by rwa [set_other (by decide)] at e) u6),
        (fun e => absurd (by rwa [set_other (by decide)] at e) u7),
        (fun e => absurd (by rwa [set_other (by decide)] at e) u8),
        (hI.n.alloc _)⟩
    · have u := un_listed hun
      have u6 := hI.no6 (i := 1) (by decide) u
      have u7 := hI.no7 u6
      have u8 := hI.no8 u7
      refine wpOp_step rfl (fun K' hK => ?_)
      unfold fr98
      go_simp
      refine hK _ _ ⟨v3, v17, _, v19, v20, v21, v22, v23, v24, rfl, (fun e => hI.g0 _ (by rwa [set_other (by decide)] at e)),
        (fun _ => ⟨_, rfl, heap_alloc_new _ _, hI.n.size⟩),
        (fun e => hI.g2 _ (by rwa [set_other (by decide)] at e)),
        (fun e => hI.g3 _ (by rwa [set_other (by decide)] at e)),
        (fun e => hI.f4 (by rwa [set_other (by decide)] at e)),
        (fun e => hI.f5 (by rwa [set_other (by decide)] at e)),
        (fun e0 e2 => hI.d02 (by rwa [set_other (by decide)] at e0) (by rwa [set_other (by decide)] at e2)),
        (fun _ e2 => by
        obtain ⟨b, h1, h2, _⟩ := hI.f3 (by rwa [set_other (by decide)] at e2)
        have := lt_of_block h2
        rw [h1]; intro e; injection e with e _ _; injection e with e; injection e with e _ _; omega),
        (fun e => absurd (by rwa [set_other (by decide)] at e) u6),
        (fun e => absurd (by rwa [set_other (by decide)] at e) u7),
        (fun e => absurd (by rwa [set_other (by decide)] at e) u8),
        (fun e => absurd (by rwa [set_other (by decide)] at e) u6),
        (fun e => absurd (by rwa [set_other (by decide)] at e) u7),
        (fun e => absurd (by rwa [set_other (by decide)] at e) u8),
        (hI.n.alloc _)⟩
    · have u := un_listed hun
      have u6 := hI.no6 (i := 2) (by decide) u
      have u7 := hI.no7 u6
      have u8 := hI.no8 u7
      refine wpOp_step rfl (fun K' hK => ?_)
      unfold fr98
      go_simp
      refine hK _ _ ⟨v3, v17, v18, _, v20, v21, v22, v23, v24, rfl, (fun e => hI.g0 _ (by rwa [set_other (by decide)] at e)),
        (fun e => hI.g1 _ (by rwa [set_other (by decide)] at e)),
        (fun _ => ⟨_, rfl, heap_alloc_new _ _, hI.n.size⟩),
        (fun e => hI.g3 _ (by rwa [set_other (by decide)] at e)),
        (fun e => hI.f4 (by rwa [set_other (by decide)] at e)),
        (fun e => hI.f5 (by rwa [set_other (by decide)] at e)),
        (fun e0 _ => by
        obtain ⟨b, h1, h2, _⟩ := hI.f0 (by rwa [set_other (by decide)] at e0)
        have := lt_of_block h2
        rw [h1]; intro e; injection e with e; injection e with e; omega),
        (fun e0 e2 => hI.d13 (by rwa [set_other (by decide)] at e0) (by rwa [set_other (by decide)] at e2)),
        (fun e => absurd (by rwa [set_other (by decide)] at e) u6),
        (fun e => absurd (by rwa [set_other (by decide)] at e) u7),
        (fun e => absurd (by rwa [set_other (by decide)] at e) u8),
        (fun e => absurd (by rwa [set_other (by decide)] at e) u6),
        (fun e => absurd (by rwa [set_other (by decide)] at e) u7),
        (fun e => absurd (by rwa [set_other (by decide)] at e) u8),
        (hI.n.alloc _)⟩
    · have u := un_listed hun
      have u6 := hI.no6 (i := 3) (by decide) u
      have u7 := hI.no7 u6
      have u8 := hI.no8 u7
      refine wpOp_step rfl (fun K' hK => ?_)
      unfold fr98
      go_simp
      refine hK _ _ ⟨v3, v17, v18, v19, _, v21, v22, v23, v24, rfl, (fun e => hI.g0 _ (by rwa [set_other (by decide)] at e)),
        (fun e => hI.g1 _ (by rwa [set_other (by decide)] at e)),
        (fun e => hI.g2 _ (by rwa [set_other (by decide)] at e)),
        (fun _ => ⟨_, rfl, heap_alloc_new _ _, hI.n.size⟩),
        (fun e => hI.f4 (by rwa [set_other (by decide)] at e)),
        (fun e => hI.f5 (by rwa [set_other (by decide)] at e)),
        (fun e0 e2 => hI.d02 (by rwa [set_other (by decide)] at e0) (by rwa [set_other (by decide)] at e2)),
        (fun e0 _ => by
        obtain ⟨b, h1, h2, _⟩ := hI.f1 (by rwa [set_other (by decide)] at e0)
        have := lt_of_block h2
        rw [h1]; intro e; injection e with e _ _; injection e with e; injection e with e _ _; omega),
        (fun e => absurd (by rwa [set_other (by decide)] at e) u6),
        (fun e => absurd (by rwa [set_other (by decide)] at e) u7),
        (fun e => absurd (by rwa [set_other (by decide)] at e) u8),
        (fun e => absurd (by rwa [set_other (by decide)] at e) u6),
        (fun e => absurd (by rwa [set_other (by decide)] at e) u7),
        (fun e => absurd (by rwa [set_other (by decide)] at e) u8),
        (hI.n.alloc _)⟩
    · have u := un_listed hun
      have u6 := hI.no6 (i := 4) (by decide) u
      have u7 := hI.no7 u6
      have u8 := hI.no8 u7
      refine wpOp_step rfl (fun K' hK => ?_)
      unfold fr98
      go_simp
      refine hK _ _ ⟨v3, v17, v18, v19, v20, _, v22, v23, v24, rfl, (fun e => hI.g0 _ (by rwa [set_other (by decide)] at e)),
        (fun e => hI.g1 _ (by rwa [set_other (by decide)] at e)),
        (fun e => hI.g2 _ (by rwa [set_other (by decide)] at e)),
        (fun e => hI.g3 _ (by rwa [set_other (by decide)] at e)),
        (fun _ => ⟨_, rfl⟩),
        (fun e => hI.f5 (by rwa [set_other (by decide)] at e)),
        (fun e0 e2 => hI.d02 (by rwa [set_other (by decide)] at e0) (by rwa [set_other (by decide)] at e2)),
        (fun e0 e2 => hI.d13 (by rwa [set_other (by decide)] at e0) (by rwa [set_other (by decide)] at e2)),
        (fun e => absurd (by rwa [set_other (by decide)] at e) u6),
        (fun e => absurd (by rwa [set_other (by decide)] at e) u7),
        (fun e => absurd (by rwa [set_other (by decide)] at e) u8),
        (fun e => absurd (by rwa [set_other (by decide)] at e) u6),
        (fun e => absurd (by rwa [set_other (by decide)] at e) u7),
        (fun e => absurd (by rwa [set_other (by decide)] at e) u8),
        (hI.n.alloc _)⟩
    · have u := un_listed hun
      have u6 := hI.no6 (i := 5) (by decide) u
      have u7 := hI.no7 u6
      have u8 := hI.no8 u7
      refine wpOp_step rfl (fun K' hK => ?_)
      unfold fr98
      go_simp
      refine hK _ _ ⟨v3, v17, v18, v19, v20, v21, _, v23, v24, rfl, (fun e => hI.g0 _ (by rwa [set_other (by decide)] at e)),
        (fun e => hI.g1 _ (by rwa [set_other (by decide)] at e)),
        (fun e => hI.g2 _ (by rwa [set_other (by decide)] at e)),
        (fun e => hI.g3 _ (by rwa [set_other (by decide)] at e)),
        (fun e => hI.f4 (by rwa [set_other (by decide)] at e)),
        (fun _ => ⟨_, _, _, rfl⟩),
        (fun e0 e2 => hI.d02 (by rwa [set_other (by decide)] at e0) (by rwa [set_other (by decide)] at e2)),
        (fun e0 e2 => hI.d13 (by rwa [set_other (by decide)] at e0) (by rwa [set_other (by decide)] at e2)),
        (fun e => absurd (by rwa [set_other (by decide)] at e) u6),
        (fun e => absurd (by rwa [set_other (by decide)] at e) u7),
        (fun e => absurd (by rwa [set_other (by decide)] at e) u8),
        (fun e => absurd (by rwa [set_other (by decide)] at e) u6),
        (fun e => absurd (by rwa [set_other (by decide)] at e) u7),
        (fun e => absurd (by rwa [set_other (by decide)] at e) u8),
        (hI.n.alloc _)⟩
    · have u := un_listed hun
      have u7 := hI.no7 u
      have u8 := hI.no8 u7
      have hd := ready_deps hi rfl
      simp [Region.binds] at hd
      obtain ⟨l0, l1, l2, l3, l4, l5⟩ := hd
      have e0 := is_listed (l := listed) (i := 0) (by simpa using l0)
      have e1 := is_listed (l := listed) (i := 1) (by simpa using l1)
      have e2 := is_listed (l := listed) (i := 2) (by simpa using l2)
      have e3 := is_listed (l := listed) (i := 3) (by simpa using l3)
      have e4 := is_listed (l := listed) (i := 4) (by simpa using l4)
      have e5 := is_listed (l := listed) (i := 5) (by simpa using l5)
      have k0 := e0
      have k1 := e1
      have k2 := e2
      have k3 := e3
      have k4 := e4
      have k5 := e5
      obtain ⟨b0, rfl, p0, q0⟩ := hI.f0 e0
      obtain ⟨b1, rfl, p1, q1⟩ := hI.f1 e1
      obtain ⟨b2, rfl, p2, q2⟩ := hI.f2 e2
      obtain ⟨b3, rfl, p3, q3⟩ := hI.f3 e3
      obtain ⟨b4, rfl⟩ := hI.f4 e4
      obtain ⟨a5, n5, c5, rfl⟩ := hI.f5 e5
      refine wpOp_step rfl (fun K' hK => ?_)
      unfold fr98
      clear l0 l1 l2 l3 l4 l5 e0 e1 e2 e3 e4 e5 p0 p1 p2 p3 q0 q1 q2 q3
      go_simp
      refine hK _ _ ⟨v3, _, _, _, _, _, _, _, v24, rfl, (fun e => hI.f0 (by rwa [set_other (by decide)] at e)), (fun e => hI.f1 (by rwa [set_other (by decide)] at e)), (fun e => hI.f2 (by rwa [set_other (by decide)] at e)), (fun e => hI.f3 (by rwa [set_other (by decide)] at e)), (fun _ => ⟨_, rfl⟩), (fun _ => ⟨_, _, _, rfl⟩),
        (fun e e' => hI.d02 (by rwa [set_other (by decide)] at e) (by rwa [set_other (by decide)] at e')), (fun e e' => hI.d13 (by rwa [set_other (by decide)] at e) (by rwa [set_other (by decide)] at e')),
        (fun _ j hj => by
          rw [set_other (by omega)]
          have : j = 0 ∨ j = 1 ∨ j = 2 ∨ j = 3 ∨ j = 4 ∨ j = 5 := by omega
          rcases this with rfl | rfl | rfl | rfl | rfl | rfl
          · exact k0
          · exact k1
          · exact k2
          · exact k3
          · exact k4
          · exact k5),
        (fun e => absurd (by rwa [set_other (by decide)] at e) u7), (fun e => absurd (by rwa [set_other (by decide)] at e) u8), (fun _ => rfl), (fun e => absurd (by rwa [set_other (by decide)] at e) u7), (fun e => absurd (by rwa [set_other (by decide)] at e) u8), hI.n⟩
    · have u := un_listed hun
      have u8 := hI.no8 u
      have hd := ready_deps hi rfl
      simp [Region.binds] at hd
      have k6 := is_listed (l := listed) (i := 6) (by simpa using hd)
      have e23 := hI.f6 k6
      subst e23
      have hm := hI.m6 k6
      obtain ⟨b0, rfl, p0, q0⟩ := hI.f0 (hm 0 (by omega))
      obtain ⟨b1, rfl, p1, q1⟩ := hI.f1 (hm 1 (by omega))
      obtain ⟨b2, rfl, p2, q2⟩ := hI.f2 (hm 2 (by omega))
      obtain ⟨b3, rfl, p3, q3⟩ := hI.f3 (hm 3 (by omega))
      obtain ⟨b4, rfl⟩ := hI.f4 (hm 4 (by omega))
      obtain ⟨a5, n5, c5, rfl⟩ := hI.f5 (hm 5 (by omega))
      refine wpOp_step rfl (fun K' hK => ?_)
      unfold fr98
      clear p0 p1 p2 p3 q0 q1 q2 q3 hd
      go_simp
      refine hK _ _ ⟨v3, _, _, _, _, _, _, _, _, rfl, (fun e => hI.g0 _ (by rwa [set_other (by decide)] at e)), (fun e => hI.g1 _ (by rwa [set_other (by decide)] at e)), (fun e => hI.g2 _ (by rwa [set_other (by decide)] at e)), (fun e => hI.g3 _ (by rwa [set_other (by decide)] at e)), (fun _ => ⟨_, rfl⟩), (fun _ => ⟨_, _, _, rfl⟩),
        (fun e e' => hI.d02 (by rwa [set_other (by decide)] at e) (by rwa [set_other (by decide)] at e')), (fun e e' => hI.d13 (by rwa [set_other (by decide)] at e) (by rwa [set_other (by decide)] at e')),
        (fun _ j hj => by rw [set_other (by omega)]; exact hm j hj), (fun _ => by rw [set_other (by decide)]; exact k6), (fun e => absurd (by rwa [set_other (by decide)] at e) u8), (fun _ => rfl),
        (fun _ => ⟨_, rfl, heap_alloc_new _ _, hI.n.size⟩), (fun e => absurd (by rwa [set_other (by decide)] at e) u8), hI.n.alloc _⟩
    · have u := un_listed hun
      have hd := ready_deps hi rfl
      simp [Region.binds] at hd
      have k7 := is_listed (l := listed) (i := 7) (by simpa using hd.1)
      have k6 := hI.m7 k7
      have hm := hI.m6 k6
      refine wpOp_step rfl (fun K' hK => ?_)
      unfold fr98
      clear hd
      go_simp
      refine hK _ _ ⟨_, _, _, _, _, _, _, _, _, rfl, (fun e => hI.f0 (by rwa [set_other (by decide)] at e)), (fun e => hI.f1 (by rwa [set_other (by decide)] at e)), (fun e => hI.f2 (by rwa [set_other (by decide)] at e)), (fun e => hI.f3 (by rwa [set_other (by decide)] at e)), (fun e => hI.f4 (by rwa [set_other (by decide)] at e)), (fun e => hI.f5 (by rwa [set_other (by decide)] at e)),
        (fun e e' => hI.d02 (by rwa [set_other (by decide)] at e) (by rwa [set_other (by decide)] at e')), (fun e e' => hI.d13 (by rwa [set_other (by decide)] at e) (by rwa [set_other (by decide)] at e')),
        (fun _ j hj => by rw [set_other (by omega)]; exact hm j hj), (fun _ => by rw [set_other (by decide)]; exact k6), (fun _ => by rw [set_other (by decide)]; exact k7), (fun _ => hI.f6 k6),
        (fun _ => hI.f7 k7), (fun _ => rfl), hI.n⟩
  · intro listed a w' hs hI hr
    obtain ⟨v3, v17, v18, v19, v20, v21, v22, v23, v24, hI⟩ := hI
    have hall := not_ready hr
    have k0 := hall 0 _ rfl (by simp) hs
    have k1 := hall 1 _ rfl (by simp) hs
    have k2 := hall 2 _ rfl (by simp) hs
    have k3 := hall 3 _ rfl (by simp) hs
    have k4 := hall 4 _ rfl (by simp) hs
    have k5 := hall 5 _ rfl (by simp) hs
    have k6 := hall 6 _ rfl (by simp [k0, k1, k2, k3, k4, k5]) hs
    have k7 := hall 7 _ rfl (by simp [k6]) hs
    have k8 := hall 8 _ rfl (by simp [k0, k1, k2, k3, k4, k5, k6, k7]) hs
    obtain ⟨m1, e17, p0, q0⟩ := hI.f0 k0
    obtain ⟨b1, e18, p1, q1⟩ := hI.f1 k1
    obtain ⟨m2, e19, p2, q2⟩ := hI.f2 k2
    obtain ⟨b3, e20, p3, q3⟩ := hI.f3 k3
    obtain ⟨m3, e21⟩ := hI.f4 k4
    obtain ⟨a5, n5, c5, e22⟩ := hI.f5 k5
    have d1 := hI.d02 k0 k2
    have d2 := hI.d13 k1 k3
    have e23 := hI.f6 k6
    obtain ⟨p, e24, p7, q7⟩ := hI.f7 k7
    have e3 := hI.f8 k8
    have hn := hI.n
    have hfr := hI.fr
    clear hI k0 k1 k2 k3 k4 k5 k6 k7 k8 hall hr hs
    subst e17 e18 e19 e20 e21 e22 e23 e24 e3 hfr
    have st : SymSt w' w.heap.size p m1 m2 m3 (.slice (some ⟨b3, 0, none⟩) 0 16) (.slice a5 n5 c5) (.slice (some ⟨b1, 0, none⟩) 0 16) [] [] [] 0 :=
      ⟨p7, ⟨fun _ => none, mapF_empty p0, fun s => by simp [has]⟩, ⟨fun _ => none, mapF_empty p2, fun s => by simp [has]⟩, row_empty p1 q1, row_empty p3 q3, .inr (fun e => d2 (by simp [Value.ownBlock] at e; rw [e])), fun e => d1 (by rw [e]), q7, q0, q2⟩
    unfold fr98
    obtain ⟨gx0, gy0, hP0⟩ := HG.out
    have hB := hn.size
    clear HG p0 p1 p2 p3 p7 q0 q1 q2 q3 q7 d1 d2
    go_wp2_with fail
    refine (Add_new st invalidS (by decide) (by simp) (by omega) hB rfl _).mono ?_
    rintro e w1 ⟨rfl, r5, st, hb1⟩
    have hn1 : New w w1 := Below.trans hn hb1
    have hB1 := hn1.size
    clear hn hb1 hB
    go_wp2_with fail
    refine (Add_new st eofS (by decide) (by decide) (by omega) hB1 rfl _).mono ?_
    rintro e w2 ⟨rfl, r5, st, hb1⟩
    have hn2 : New w w2 := Below.trans hn1 hb1
    have hB2 := hn2.size
    clear hn1 hb1 hB1
    have gx := hn2.cell gx0
    have gy := hn2.cell gy0
    obtain ⟨a, cap, rfl⟩ := hP0.slice
    go_wp2
    go_loopg [45] L.length (fun gk i wr => ∃ (k : Nat) (r2 r5 : Value) (n : Nat), k ≤ L.length ∧ gk = L.length - k ∧ i = .int .i64 k ∧ SymSt wr w.heap.size p m1 m2 m3 r2 (.slice a5 n5 c5) r5 (typesA (L.take k) [invalidS, eofS]) (headsA (L.take k)) (headsA (L.take k)) n ∧ n ≤ 2 + k * 100 ∧ New w wr)
    case atStart => exact ⟨0, _, _, _, Nat.zero_le _, rfl, rfl, st, by omega, hn2⟩
    case round =>
      clear gx gy gx0 gy0 st hn2 hB2
      obtain ⟨k, r2, r5, n, hk, rfl, rfl, st, hnk, hn⟩ := hrel
      have hB := hn.size
      by_cases hlt : k < L.length
      · obtain ⟨b, o, pb, q, sa, sc, e, h1, h2, h3, h4, h5⟩ := hP0.elem hlt
        cases e
        have lpb := World.block_lt_of_cell? w _ h2
        have H2 := Lib.hid h2
        have H3 := Lib.hid (And.intro h3 (And.intro h4 h5))
        have h1 := hn.cell h1
        have h2 := hn.cell h2
        have h3 := hn.cell h3
        have h4 := hn.cell h4
        have h5 := h5.new hn
        have g1 := cell_of_blk st.blk 1
        have g2 := cell_of_blk st.blk 2
        simp only [List.getElem?_toArray, List.getElem?_cons_zero, List.getElem?_cons_succ] at g1 g2
        have hh := HL.out _ (List.getElem_mem hlt)
        have hs := hh.1
        obtain ⟨f, hf, hfk⟩ := st.ntm
        have hf0 := hf
        have HB := Lib.hid h5
        clear h5
        obtain ⟨bb, hbb⟩ : ∃ bb, bb = has (headsA (L.take k)) L[k].1 := ⟨_, rfl⟩
        have hlk : ∀ n', (Instr.lookup 91 (.map (some m2)) (sv L[k].1) true).run Tryz.prog (wr.drewN n') = .ok (.tuple #[(f L[k].1).getD (.int .i64 0), .bool bb]) (wr.drewN n') := fun n' => by
          rw [MapF.look_ok (hf.new ((New.refl wr).drewN n')) Tryz.underlying9 Tryz.underlying91 (z3 _) (by omega), hfk, hbb]
        have HBB := Lib.hid hbb
        have HFK := Lib.hid hfk
        clear hbb hfk
        go_wp2_with fail
        go_quiet (fail)
        go_upto_if 62 with fail
        go_cut [] (fun wc => ∃ r2 n', n' ≤ n + 1 ∧ SymSt wc w.heap.size p m1 m2 m3 r2 (.slice a5 n5 c5) r5 (typesA (L.take k) [invalidS, eofS]) (headsA (L.take (k + 1))) (headsA (L.take (k + 1))) n' ∧ New w wc)
        case first =>
          have hnq : New wr (wr.drewN nq) := (New.refl wr).drewN nq
          have g1 := hnq.cell g1
          have g2 := hnq.cell g2
          have h2 := hnq.cell h2
          have st := st.new hnq
          have hf := hf.new hnq
          have hB : w.heap.size ≤ (wr.drewN nq).heap.size := hB
          have hn2 := hn.drewN nq
          generalize wr.drewN nq = wq at *
          clear hlk hnq h1 h3 h4
          have htk := headsA_take hlt
          cases bb with
          | true =>
            go_wp2_with fail
            go_meet
            repeat apply Exists.intro
            exact ⟨Nat.le_succ n, by rw [htk, addTo_yes HBB.out.symm]; exact st, hn2⟩
          | false =>
            go_wp2_with fail
            have l1 := lt_of_block st.blk
            have l2 : pb < wq.heap.size := Nat.lt_of_lt_of_le lpb hn2.size
            have gf := free_of_blk st.blk 2
            have hA1 := (World.cell?_of_block (Below.heap_alloc wq (.cells #[sv L[k].1] 9) p l1) (a := ⟨p, 2, none⟩)).trans g2
            have hA2 := (World.cell?_of_block (Below.heap_alloc wq (.cells #[sv L[k].1] 9) pb l2) (a := ⟨pb, 0, none⟩)).trans h2
            have hA3 := (World.frozen?_of_block (Below.heap_alloc wq (.cells #[sv L[k].1] 9) p l1) (a := ⟨p, 2, none⟩)).trans gf
            have hpne : some p ≠ r2.ownBlock := fun e => ownBlock_ne st.ntr st.blk (by decide) e.symm
            have hpbne : some pb ≠ r2.ownBlock := fun e => by have := (st.ntr.lt pb e.symm).1; omega
            have hln := headsA_len (L.take k)
            have hlt2 := List.length_take_le k L
            have HA := Lib.hid (And.intro hA1 hA3)
            clear hA2
            have hW : New wq ((wq.alloc (.cells #[sv L[k].1] 9)).drew) := ((New.refl wq).alloc (.cells #[sv L[k].1] 9)).drewN 1
            go_region_law ((refine step_push (by rfl) _ _ _ _ (by rfl) T24 w.heap.size r2 _ _ (by rfl) (by first | exact (st.ntr.alloc (.cells #[sv L[k].1] 9)).drew | exact (st.ntr.alloc (.cells #[sv L[k].1] 9))) [_] (by rfl) (by rfl) _ wq.heap.size (by rfl) (0, 0) (heap_alloc_new wq _) (by omega) (by omega) (by simp; omega) ?_; intro g0 cap1 w1 hown1 hgrow hat; have q1 := (hgrow.cell_far ⟨p, 2, none⟩ (Nat.lt_trans l1 (by simp)) hpne).trans HA.out.1; have q2 := (hgrow.frozen_far ⟨p, 2, none⟩ (Nat.lt_trans l1 (by simp)) hpne).trans HA.out.2; have hgr := Lib.hid hgrow; clear hgrow))
            all_goals (
              obtain ⟨st1, hb1⟩ := SymSt.pushNt (st.new hW) L[k].1 hown1 hgr.out hat (by simp; omega)
              have hn3 : New w _ := Below.trans (hn2.trans hW) hb1
              clear q1 q2 hown1 hgr hat hf g1 g2 gf h2 HA hA1 hA3 hb1 hpne hpbne
              generalize w1.setCell ⟨p, 2, none⟩ (.slice (some ⟨g0, 0, none⟩) ((headsA (L.take k)).length + 1) cap1) = w3 at *
              have hB3 := hn3.size
              have g1 := cell_of_blk st1.blk 1
              have g2 := cell_of_blk st1.blk 2
              simp only [List.getElem?_toArray, List.getElem?_cons_zero, List.getElem?_cons_succ] at g1 g2
              have h2 := hn3.cell H2.out
              obtain ⟨f2, hf2, hfk2⟩ := st1.ntm
              have HF2 := Lib.hid hfk2
              clear hfk2 htk
              go_wp2_with fail
              go_still_tail 14, (by kernel_rfl)
              change wpList _ _ _ _ _ (World.drew _)
              go_wp2_with (at_mapUpdate; go_must (refine wpList_mstore _ rfl _ _ _ _ _ rfl Tryz.underlying9 Tryz.underlying91 m2 n f2 rfl (hf2.new ((New.refl w3).drewN 1)) (by omega) L[k].1 rfl (by omega) _ rfl ?_))
              intro w4 hf4 hg4
              have hg5 : w3.grownBy w4 (some m2) := ⟨hg4.os, hg4.tape, hg4.output, hg4.size, hg4.block⟩
              obtain ⟨st4, hb4⟩ := st1.putNt L[k].1 HF2.out _ hf4 hg5 hB3 (has_snoc _ _)
              have hn4 : New w w4 := Below.trans hn3 hb4
              clear hf4 hg4 hg5 hb4
              go_wp2_with fail
              go_meet
              repeat apply Exists.intro
              exact ⟨Nat.le_refl (n + 1), by rw [headsA_take hlt, addTo_no HBB.out.symm]; exact st4, hn4⟩)
        case rest =>
          clear h1 h2 h3 h4 g1 g2 hf hf0 st hlk
          obtain ⟨r2, n1, hn1, st, hnc⟩ := hcut
          have hB := hnc.size
          have h2 := hnc.cell H2.out
          have h3 := hnc.cell H3.out.1
          have h4 := hnc.cell H3.out.2.1
          have htl := typesA_len (L.take k) [invalidS, eofS] 20 (fun q hq => (HL.out q (List.mem_of_mem_take hq)).2.1)
          have htk := List.length_take_le k L
          have htl2 : (typesA (L.take k) [invalidS, eofS]).length ≤ 500 := by
            simp only [List.length_cons, List.length_nil] at htl
            omega
          clear htl htk
          go_wp2_with fail
          refine (Add_new st L[k].1 hs (by omega) (by omega) hB rfl _).mono ?_
          rintro e w5 ⟨rfl, r5, st, hb5⟩
          have hn5 : New w w5 := Below.trans hnc hb5
          clear hb5 h2 h3 h4 hnc
          have hB5 := hn5.size
          have h3 := hn5.cell H3.out.1
          have h4 := hn5.cell H3.out.2.1
          go_wp2_with fail
          go_loopg [105] L[k].2.length (fun gj i wr => ∃ (j : Nat) (r5 : Value) (n' : Nat), j ≤ L[k].2.length ∧ gj = L[k].2.length - j ∧ i = .int .i64 j ∧ SymSt wr w.heap.size p m1 m2 m3 r2 (.slice a5 n5 c5) r5 ((L[k].2.take j).foldl (fun t s => addTo t s.str) (addTo (typesA (L.take k) [invalidS, eofS]) L[k].1)) (headsA (L.take (k + 1))) (headsA (L.take (k + 1))) n' ∧ n' ≤ n + 2 + j ∧ New w wr)
          case atStart => exact ⟨0, _, _, Nat.zero_le _, rfl, rfl, st, by omega, hn5⟩
          case round =>
            clear h3 h4 st hn5 hB5
            obtain ⟨j, r5, n2, hj, rfl, rfl, st, hn2, hnj⟩ := hrel
            have hB := hnj.size
            have hH5 := H3.out.2.2
            by_cases hlj : j < L[k].2.length
            · obtain ⟨b2, o2, e, c1⟩ := hH5.elem hlj
              cases e
              have c1 := hnj.cell c1
              have hsl := hh.2.2 _ (List.getElem_mem hlj)
              have hrt := bodyA_take hlj (addTo (typesA (L.take k) [invalidS, eofS]) L[k].1)
              have hbl := bodyA_len (L[k].2.take j) (addTo (typesA (L.take k) [invalidS, eofS]) L[k].1)
              have hal := addTo_len (typesA (L.take k) [invalidS, eofS]) L[k].1
              have htk := List.length_take_le j L[k].2
              have hll : ((L[k].2.take j).foldl (fun t s => addTo t s.str) (addTo (typesA (L.take k) [invalidS, eofS]) L[k].1)).length ≤ 1000 := by omega
              have hfin := hrt
              have HR := Lib.hid hrt
              clear hrt hbl hal htk hfin
              generalize L[k].2[j] = sy at *
              cases sy with
              | nt s =>
                simp only [Sy.val] at c1
                have hmm := met142
                have hta := ta142
                simp only [Sy.str] at hsl
                go_wp2_with (first | (go_at_call 302; refine (SymStr_nt _ _).mono ?_; rintro e w' ⟨rfl, rfl⟩) | (go_at_call 129; refine (Add_new st s hsl hll (by omega) hB rfl _).mono ?_; rintro e w6 ⟨rfl, r6, st6, hb6⟩))
                go_roundg (L[k].2.length - (j + 1))
                case measure => omega
                case rel => exact ⟨j + 1, r6, n2 + 1, by omega, rfl, by go_num, by rw [HR.out]; exact st6, by omega, Below.trans hnj hb6⟩
              | tk s =>
                simp only [Sy.val] at c1
                have hmm := met143
                have hta := ta143
                simp only [Sy.str] at hsl
                go_wp2_with (first | (go_at_call 305; refine (SymStr_tk _ _).mono ?_; rintro e w' ⟨rfl, rfl⟩) | (go_at_call 129; refine (Add_new st s hsl hll (by omega) hB rfl _).mono ?_; rintro e w6 ⟨rfl, r6, st6, hb6⟩))
                go_roundg (L[k].2.length - (j + 1))
                case measure => omega
                case rel => exact ⟨j + 1, r6, n2 + 1, by omega, rfl, by go_num, by rw [HR.out]; exact st6, by omega, Below.trans hnj hb6⟩
              | em =>
                simp only [Sy.val] at c1
                have hmm := met144
                have hta := ta144
                simp only [Sy.str] at hsl
                go_wp2_with (first | (go_at_call 308; refine (SymStr_em _ _).mono ?_; rintro e w' ⟨rfl, rfl⟩) | (go_at_call 129; refine (Add_new st emptyS hsl hll (by omega) hB rfl _).mono ?_; rintro e w6 ⟨rfl, r6, st6, hb6⟩))
                go_roundg (L[k].2.length - (j + 1))
                case measure => omega
                case rel => exact ⟨j + 1, r6, n2 + 1, by omega, rfl, by go_num, by rw [HR.out]; exact st6, by omega, Below.trans hnj hb6⟩
            · obtain rfl : j = L[k].2.length := by omega
              rw [List.take_length, ← typesA_take hlt] at st
              go_wp2
              go_roundg (L.length - (k + 1))
              case measure => omega
              case rel => exact ⟨k + 1, r2, r5, n2, by omega, rfl, by go_num, st, by omega, hnj⟩
      · obtain rfl : k = L.length := by omega
        simp only [List.take_length] at st
        go_wp2
        go_ret
        exact ⟨p, m1, m2, m3, r2, _, r5, n, rfl, st, hn⟩
  · exact ⟨undef, undef, undef, undef, undef, undef, undef, undef, undef, rfl, by simp, by simp, by simp, by simp, by simp, by simp, by simp, by simp, by simp, by simp, by simp, by simp, by simp, by simp, ⟨rfl, rfl, rfl, Nat.le_refl _, fun _ _ => rfl⟩⟩
end Go.Proofs.YtdejcdmgcckmoaaGreatDoor
namespace Go.Proofs.YtdejcdmgcckmoaaGreatDoor
open Go.RowKit Lr

theorem T93 : SliceTy Tryz.prog 93 97 1 8 (.pointer none) := ⟨Tryz.underlying93, by kernel_rfl, rfl, by omega⟩
theorem T141 : SliceTy Tryz.prog 141 207 1 16 .nilIface := ⟨Tryz.underlying141, by kernel_rfl, rfl, by omega⟩

set_option maxRecDepth 20000 in
set_option maxHeartbeats 1000000 in
theorem NewSyntaxPart_any (a : Option Addr) (n c : Nat) (w : World) :
    Calls Tryz.prog 127 #[.nilIface, .iface 93 (.slice a n c)] w fun e w' => ∃ q, e = .returned (.tuple #[.pointer (some ⟨q, 0, none⟩), .nilIface]) ∧ w'.cell? ⟨q, 1, none⟩ = some (.slice a n c) ∧ (∃ k, w'.cell? ⟨q, 0, none⟩ = some (.pointer (some ⟨k, 0, none⟩))) ∧ New w w' := by
  have hta : ∀ w : World, (Instr.typeAssert (.iface 93 (.slice a n c)) 20 93 false).run Tryz.prog w = .ok (.slice a n c) w := fun _ => by kernel_rfl
  have he1 : ∀ w : World, (binOp .neq 20 .nilIface .nilIface).run Tryz.prog w = .ok (.bool false) w := fun _ => by kernel_rfl
  have he2 : ∀ w : World, (binOp .neq 20 (.iface 93 (.slice a n c)) .nilIface).run Tryz.prog w = .ok (.bool true) w := fun _ => by kernel_rfl
  go_enter Tryz.func127, Tryz.ntmps127
  go_wp2
  go_ret2
  exact ⟨w.heap.size, rfl, by simp, ⟨w.heap.size + 1, by simp⟩, ((New.refl _).alloc _).alloc _⟩

theorem row_cells {w : World} {B : Nat} {e : TypeId} {v : Value} {n : Nat} {xs : List Value} (h : w.ownsRow B e 1 v n xs) :
    xs.length = n ∧ ∃ a cap, v = .slice a n cap ∧ n ≤ cap ∧ (0 < n → ∃ b, a = some ⟨b, 0, none⟩ ∧ ∀ j u, xs[j]? = some u → w.cell? ⟨b, 0 + j, none⟩ = some u) := by
  have hq := h
  obtain ⟨hlen, hh⟩ := h
  refine ⟨by omega, ?_⟩
  rcases hh with ⟨rfl, h0⟩ | ⟨g, cap, cur, rfl, hb, hg, h1, h2, h3, h4⟩
  · exact ⟨none, 0, by rw [h0], by omega, fun h => by omega⟩
  · refine ⟨some ⟨g, 0, none⟩, cap, rfl, h1, fun _ => ⟨g, rfl, fun j u hj => ?_⟩⟩
    have hcell := World.ownsRow.cells hq (g := g) rfl j u hj
    have ea : (⟨g, 0, none⟩ : Addr).add j = ⟨g, 0 + j, none⟩ := by unfold Addr.add; split <;> simp_all
    rw [← ea]
    exact hcell

/-- `append(s, x...)` onto a row of the call's own. -/
theorem wpList_extend {P : Program} {ops : Array Oper} {rest : List Oper} {o : Oper} {a : Act} {Q : Exit → Act → World → Prop} (W : World) (hgd : o.guard = none) (s x : Operand) (t e : TypeId)
    (ho : o.op = .call { callee := .builtin .append, args := #[s, x], argTypes := #[t, t] }) {bytes : Nat} {z : Value} (T : SliceTy P t e 1 bytes z)
    (B : Nat) (v : Value) (n : Nat) (xs : List Value) (hs : a.eval s = v) (hown : W.ownsRow B e 1 v n xs) (ad : Addr) (m c : Nat) (news : List Value) (hx : a.eval x = .slice (some ad) m c) (hl : news.length = m)
    (hnews : ∀ j u, news[j]? = some u → W.cell? (ad.add j) = some u) (h1 : ∀ u ∈ news, u.oneCell' = true) (hbytes : (n + m) * bytes ≤ 140737488355328) (hlen : n + m ≤ 140737488355328) (hbase : B ≤ W.heap.size)
    (h : ∀ v' w', w'.ownsRow B e 1 v' (n + m) (xs ++ news) → W.grownBy w' v.ownBlock → wpList P ops Q rest (a.put o.dst v') w') :
    wpList P ops Q (o :: rest) a W := by
  obtain ⟨i, hi, hz0, hz1, hz2⟩ := info_parts T.row
  exact wpList_append_own_at W hgd s x t ho B e i z 1 bytes T.und hi hz0 hz1 hz2 T.cells T.pos v n xs hs hown ad m c news hx (by omega) hnews h1 (by unfold maxLen; omega) hbytes hbase fun v' w' h1 h2 _ _ => h v' w' h1 h2

/-- The pointers of a list of productions. -/
theorem ProdsAt.ptrs {w : World} {v : Value} {L : List AP} (h : ProdsAt w v L) (hL : 0 < L.length) : ∃ b o cap, ∃ ps : List Value, v = .slice (some ⟨b, o, none⟩) L.length cap ∧ ps.length = L.length ∧
    (∀ j u, ps[j]? = some u → w.cell? ⟨b, o + j, none⟩ = some u) ∧ (∀ u ∈ ps, u.oneCell' = true) ∧ ∀ j, (hj : j < L.length) → ∃ u, ps[j]? = some u ∧ ProdPtr w u L[j] := by
  obtain ⟨a, cap, rfl, _, hc⟩ := h
  obtain ⟨b, o, rfl, hcc⟩ := hc hL
  refine ⟨b, o, cap, (List.range L.length).map fun j => (w.cell? ⟨b, o + j, none⟩).getD .nilIface, rfl, by simp, ?_, ?_, ?_⟩
  · intro j u hj
    by_cases hlt : j < L.length
    · obtain ⟨pv, hp, _⟩ := hcc j hlt
      simpa [hlt, hp] using hj
    · simp [hlt] at hj
  · intro u hu
    simp only [List.mem_map, List.mem_range] at hu
    obtain ⟨j, hj, rfl⟩ := hu
    obtain ⟨pv, hp, _, _, _, _, rfl, _⟩ := hcc j hj
    rw [hp]; rfl
  · intro j hj
    obtain ⟨pv, hp, hq⟩ := hcc j hj
    exact ⟨pv, by simp [hj, hp], hq⟩

/-- A row of pointers to productions is a list of productions. -/
theorem ProdsAt.of_row {w : World} {B : Nat} {v : Value} {L : List AP} {ps : List Value} (h : w.ownsRow B 97 1 v L.length ps) (hp : ∀ j, (hj : j < L.length) → ∃ u, ps[j]? = some u ∧ ProdPtr w u L[j]) : ProdsAt w v L := by
  obtain ⟨_, a, cap, rfl, hcap, hc⟩ := row_cells h
  refine ⟨a, cap, rfl, hcap, fun hL => ?_⟩
  obtain ⟨b, rfl, hcc⟩ := hc hL
  refine ⟨b, 0, rfl, fun j hj => ?_⟩
  obtain ⟨u, hu, hpu⟩ := hp j hj
  exact ⟨u, hcc j u hu, hpu⟩

theorem step_extend {P : Program} {w : World} {ops : Array Oper} {o : Oper} {a : Act} {K : Act → World → Prop} {E : Prop} {Q : Exit → Act → World → Prop} (hgd : o.guard = none) (s x : Operand) (t e : TypeId)
    (ho : o.op = .call { callee := .builtin .append, args := #[s, x], argTypes := #[t, t] }) {bytes : Nat} {z : Value} (T : SliceTy P t e 1 bytes z)
    (B : Nat) (v : Value) (n : Nat) (xs : List Value) (hs : a.eval s = v) (hown : w.ownsRow B e 1 v n xs) (ad : Addr) (m c : Nat) (news : List Value) (hx : a.eval x = .slice (some ad) m c) (hl : news.length = m) (hm : 0 < m)
    (hnews : ∀ j u, news[j]? = some u → w.cell? (ad.add j) = some u) (h1 : ∀ u ∈ news, u.oneCell' = true) (hbytes : (n + m) * bytes ≤ 140737488355328) (hlen : n + m ≤ 140737488355328) (hbase : B ≤ w.heap.size)
    (h : ∀ g cap w', w'.ownsRow B e 1 (.slice (some ⟨g, 0, none⟩) (n + m) cap) (n + m) (xs ++ news) → w.grownBy w' v.ownBlock → K (a.put o.dst (.slice (some ⟨g, 0, none⟩) (n + m) cap)) w') :
    if Region.wanted o (yielded ops a.tmps) = true then Oper.wp P o a w K Q else E := by
  obtain ⟨i, hi, hz0, hz1, hz2⟩ := info_parts T.row
  exact step_append_lies w hgd s x t ho B e i z 1 bytes T.und hi hz0 hz1 hz2 T.cells T.pos v n xs hs hown ad m c news hx (by omega) hnews h1 hm (by unfold maxLen; omega) hbytes hbase _ rfl fun g cap w' h1 h2 _ _ => h g cap w' h1 h2

abbrev augW (w : World) (s : Str) : World := (((w.alloc (.cells #[.iface 142 (sv s)] 207)).alloc (.cells #[.bool false, .slice (some ⟨w.heap.size, 0, none⟩) 1 1, .string { data := #[] }] 192)).alloc
  (.cells #[.string { data := #[83, 39] }, .pointer (some ⟨w.heap.size + 1, 0, none⟩)] 148)).alloc (.cells #[.pointer (some ⟨w.heap.size + 1 + 1, 0, none⟩)] 97)
theorem aug_world (w : World) (s : Str) : New w (augW w s) ∧ (∃ W3 : World, W3.heap.size = w.heap.size + 1 + 1 + 1 ∧ New W3 (augW w s) ∧ ProdPtr W3 (.pointer (some ⟨w.heap.size + 1 + 1, 0, none⟩)) (startS, [.nt s])) ∧
    (augW w s).ownsRow (w.heap.size + 1 + 1 + 1) 97 1 (.slice (some ⟨w.heap.size + 1 + 1 + 1, 0, none⟩) 1 1) 1 [.pointer (some ⟨w.heap.size + 1 + 1, 0, none⟩)] ∧ (augW w s).heap.size = w.heap.size + 4 := by
  have q1 : (((w.alloc (.cells #[.iface 142 (sv s)] 207)).alloc (.cells #[.bool false, .slice (some ⟨w.heap.size, 0, none⟩) 1 1, .string { data := #[] }] 192)).alloc (.cells #[.string { data := #[83, 39] }, .pointer (some ⟨w.heap.size + 1, 0, none⟩)] 148)).heap[w.heap.size]? = _ := New.heap (((New.refl (w.alloc (.cells #[.iface 142 (sv s)] 207))).alloc _).alloc _) (heap_alloc_new w _)
  have q2 : (((w.alloc (.cells #[.iface 142 (sv s)] 207)).alloc (.cells #[.bool false, .slice (some ⟨w.heap.size, 0, none⟩) 1 1, .string { data := #[] }] 192)).alloc (.cells #[.string { data := #[83, 39] }, .pointer (some ⟨w.heap.size + 1, 0, none⟩)] 148)).heap[w.heap.size + 1]? = some (.cells #[.bool false, .slice (some ⟨w.heap.size, 0, none⟩) 1 1, .string { data := #[] }] 192 (0, 0)) := by
    have := New.heap ((New.refl ((w.alloc (.cells #[.iface 142 (sv s)] 207)).alloc (.cells #[.bool false, .slice (some ⟨w.heap.size, 0, none⟩) 1 1, .string { data := #[] }] 192))).alloc (.cells #[.string { data := #[83, 39] }, .pointer (some ⟨w.heap.size + 1, 0, none⟩)] 148)) (heap_alloc_new (w.alloc (.cells #[.iface 142 (sv s)] 207)) _)
    simpa using this
  have q3 : (((w.alloc (.cells #[.iface 142 (sv s)] 207)).alloc (.cells #[.bool false, .slice (some ⟨w.heap.size, 0, none⟩) 1 1, .string { data := #[] }] 192)).alloc (.cells #[.string { data := #[83, 39] }, .pointer (some ⟨w.heap.size + 1, 0, none⟩)] 148)).heap[w.heap.size + 1 + 1]? = some (.cells #[.string { data := #[83, 39] }, .pointer (some ⟨w.heap.size + 1, 0, none⟩)] 148 (0, 0)) := by
    have := heap_alloc_new ((w.alloc (.cells #[.iface 142 (sv s)] 207)).alloc (.cells #[.bool false, .slice (some ⟨w.heap.size, 0, none⟩) 1 1, .string { data := #[] }] 192)) (.cells #[.string { data := #[83, 39] }, .pointer (some ⟨w.heap.size + 1, 0, none⟩)] 148)
    simpa using this
  refine ⟨((((New.refl _).alloc _).alloc _).alloc _).alloc _, ⟨_, by simp, (New.refl _).alloc _, _, w.heap.size + 1, some ⟨w.heap.size, 0, none⟩, 1, rfl, ?_, ?_, ?_, ⟨_, _, rfl, Nat.le_refl _, fun _ => ⟨w.heap.size, 0, rfl, fun j hj => ?_⟩⟩⟩, ?_, by simp⟩
  · rw [cell_of_blk q3]; rfl
  · rw [cell_of_blk q3]; rfl
  · rw [cell_of_blk q2]; rfl
  · obtain rfl : j = 0 := by simp at hj; omega
    rw [cell_of_blk q1]; rfl
  · have := ownsRow_one (((w.alloc (.cells #[.iface 142 (sv s)] 207)).alloc (.cells #[.bool false, .slice (some ⟨w.heap.size, 0, none⟩) 1 1, .string { data := #[] }] 192)).alloc (.cells #[.string { data := #[83, 39] }, .pointer (some ⟨w.heap.size + 1, 0, none⟩)] 148)) 97 (.pointer (some ⟨w.heap.size + 1 + 1, 0, none⟩))
    simpa using this

set_option maxRecDepth 20000 in
set_option maxHeartbeats 1000000 in
theorem augment_any (y k0 : Nat) (z : Value) (L : List AP) (w : World) (h0 : w.cell? ⟨y, 0, none⟩ = some (.pointer (some ⟨k0, 0, none⟩))) (h1 : w.cell? ⟨y, 1, none⟩ = some z) (hP : ProdsAt w z L) (hL : 0 < L.length) (hL2 : L.length ≤ 1000) :
    Calls Tryz.prog 128 #[.pointer (some ⟨y, 0, none⟩)] w fun e w' => ∃ q z', e = .returned (.pointer (some ⟨q, 0, none⟩)) ∧ w'.cell? ⟨q, 1, none⟩ = some z' ∧ ProdsAt w' z' ((startS, [.nt L[0].1]) :: L) ∧ New w w' := by
  obtain ⟨a, cap, rfl⟩ := hP.slice
  obtain ⟨b, o, pb, q, sa, sc, e, g1, g2, g3, g4, g5⟩ := hP.elem hL
  cases e
  have HP := Lib.hid hP
  clear g3 g4 g5 hP
  have lg := World.block_lt_of_cell? w _ h0
  rw [Nat.add_zero] at g1
  go_enter Tryz.func128, Tryz.ntmps128
  go_wp2_with fail
  obtain ⟨hn4, hPP, hown, hsz⟩ := aug_world w L[0].1
  have HPP := Lib.hid hPP
  have HSZ := Lib.hid hsz
  clear hPP
  rw [show World.alloc _ _ = augW w L[0].1 from rfl]
  generalize augW w L[0].1 = W at *
  have h0 := hn4.cell h0
  have h1 := hn4.cell h1
  obtain ⟨b', o', cap', ps, e, hpl, hpc, hp1, hpp⟩ := HP.out.ptrs hL
  cases e
  have hB : w.heap.size + 1 + 1 + 1 ≤ W.heap.size := by omega
  have ly := World.block_lt_of_cell? W _ h0
  have hnews : ∀ j u, ps[j]? = some u → W.cell? ((⟨b, o, none⟩ : Addr).add j) = some u := fun j u hu => by
    have ea : (⟨b, o, none⟩ : Addr).add j = ⟨b, o + j, none⟩ := by unfold Addr.add; split <;> simp_all
    rw [ea]; exact hn4.cell (hpc j u hu)
  have HNW := Lib.hid hnews
  clear hnews
  have HPN := Lib.hid (And.intro hpc (And.intro hp1 hpp))
  have HPL := Lib.hid hpl
  have hpl2 : ps.length ≤ 1000 := by omega
  have hyne : some y ≠ some (w.heap.size + 1 + 1 + 1) := by intro e; injection e with e; omega
  clear hpc hp1 hpp hpl hsz g1 g2
  go_region_held3 (fun w' => w'.cell? ⟨y, 0, none⟩ = some (.pointer (some ⟨k0, 0, none⟩)) ∧ w'.cell? ⟨y, 1, none⟩ = some (.slice (some ⟨b, o, none⟩) L.length cap))
    (first
      | exact ⟨h0, h1⟩
      | exact ⟨(hgrow.cell_far ⟨y, 0, none⟩ ly hyne).trans h0, (hgrow.cell_far ⟨y, 1, none⟩ ly hyne).trans h1⟩
      | exact ⟨(hn5.cell h0), (hn5.cell h1)⟩
      | go_keep)
    ((refine step_extend (by rfl) _ _ _ _ (by rfl) T93 (w.heap.size + 1 + 1 + 1) (.slice (some ⟨w.heap.size + 1 + 1 + 1, 0, none⟩) 1 1) 1 _ (by rfl) (by first | exact hown.drew | exact hown) ⟨b, o, none⟩ L.length cap ps (by rfl) HPL.out hL
        HNW.out HPN.out.2.1 (by omega) (by omega) (by first | exact hB | (simp; omega)) ?_; intro gg cap1 w1 hown1 hgrow))
  go_wp2
  go_ret
  obtain ⟨W3, h3a, h3b, h3c⟩ := HPP.out
  have hg : W.grownBy w1 (some (w.heap.size + 1 + 1 + 1)) := ⟨hgrow.os, hgrow.tape, hgrow.output, hgrow.size, hgrow.block⟩
  have hn1 : New w w1 := Below.grown hn4 hg (by omega) (fun k hk => by injection hk with hk; omega)
  have hWn : Below (w.heap.size + 1 + 1 + 1) W w1 := Below.grown (Below.refl _ W) hg hB (fun k hk => by injection hk with hk; omega)
  have hrow : w1.ownsRow (w.heap.size + 1 + 1 + 1) 97 1 (.slice (some ⟨gg, 0, none⟩) (((startS, [Sy.nt L[0].1]) :: L).length) cap1) (((startS, [Sy.nt L[0].1]) :: L).length) ([.pointer (some ⟨w.heap.size + 1 + 1, 0, none⟩)] ++ ps) := by
    have := hown1
    rw [Nat.add_comm 1 L.length] at this
    exact this
  refine ⟨w1.heap.size, rfl, .slice (some ⟨gg, 0, none⟩) (1 + L.length) cap1, by simp, ?_, hn1.alloc _⟩
  rw [Nat.add_comm 1 L.length]
  have hprod : ∀ j, (hj : j < ((startS, [Sy.nt L[0].1]) :: L).length) → ∃ u, ([Value.pointer (some ⟨w.heap.size + 1 + 1, 0, none⟩)] ++ ps)[j]? = some u ∧ ProdPtr w1 u ((startS, [Sy.nt L[0].1]) :: L)[j] := by
    intro j hj
    cases j with
    | zero => exact ⟨_, rfl, h3c.new (Below.trans h3b (h3a ▸ hWn))⟩
    | succ j =>
      obtain ⟨u, h1, h2⟩ := HPN.out.2.2 j (by simpa using hj)
      exact ⟨u, by simpa using h1, by simpa using h2.new hn1⟩
  exact (ProdsAt.of_row hrow hprod).new ((New.refl w1).alloc _)
end Go.Proofs.YtdejcdmgcckmoaaGreatDoor
namespace Go.Proofs.YtdejcdmgcckmoaaGreatDoor
open Go.RowKit Lr

set_option maxRecDepth 20000 in
set_option maxHeartbeats 1000000 in
theorem ZZGrammar_any (v : Value) (L : List AP) (w : World) (hP : ProdsAt w v L) (hL : 0 < L.length) (hL2 : L.length ≤ 1000) :
    Calls Tryz.prog 97 #[v] w fun e w' => ∃ v', e = .returned v' ∧ GrmAt w' v' ((startS, [.nt L[0].1]) :: L) ∧ New w w' := by
  obtain ⟨a, cap, rfl⟩ := hP.slice
  have HP := Lib.hid hP
  clear hP
  go_enter Tryz.func97, Tryz.ntmps97
  go_wp2_with fail
  refine (NewSyntaxPart_any a L.length cap w).mono ?_
  rintro e w1 ⟨y, rfl, h1, ⟨k, h0⟩, hn1⟩
  go_wp2_with fail
  refine (augment_any y k _ L w1 h0 h1 (HP.out.new hn1) hL hL2).mono ?_
  rintro e w2 ⟨q, z, rfl, h2, hz, hn2⟩
  go_wp2_with fail
  go_ret
  refine ⟨_, rfl, ⟨w2.heap.size, q, z, rfl, by simp, ((New.refl w2).alloc _).cell h2, hz.new ((New.refl w2).alloc _)⟩, (New.trans hn1 hn2).alloc _⟩
end Go.Proofs.YtdejcdmgcckmoaaGreatDoor
