/- A part of the proofs about gocc: S4. -/
import Derived.Test.YtdejcdmgcckmoaaGreatDoorXS1
import Derived.Test.YtdejcdmgcckmoaaGreatDoorXS0
import Derived.Deep.AppendLies
namespace Go.Proofs.YtdejcdmgcckmoaaGreatDoor
open Go.RowKit Lr

/-- One element appended at a step of a region that draws. -/
theorem step_push {P : Program} {w : World} {ops : Array Oper} {o : Oper} {a : Act} {K : Act → World → Prop} {E : Prop} {Q : Exit → Act → World → Prop} (hgd : o.guard = none) (s x : Operand) (t e : TypeId)
    (ho : o.op = .call { callee := .builtin .append, args := #[s, x], argTypes := #[t, t] }) {size bytes : Nat} {z : Value} (T : SliceTy P t e size bytes z)
    (B : Nat) (v : Value) (n : Nat) (xs : List Value) (hs : a.eval s = v) (hown : w.ownsRow B e size v n xs) (news : List Value) (hl : news.length = size) (h1 : news.all Value.oneCell' = true)
    (c hp : Nat) (hx : a.eval x = .slice (some ⟨hp, 0, none⟩) 1 c) (fr : Nat × Nat) (hb : w.heap[hp]? = some (.cells news.toArray e fr)) (hbytes : (n + 1) * bytes ≤ 140737488355328) (hlen : n + 1 ≤ 140737488355328) (hbase : B ≤ w.heap.size)
    (h : ∀ g cap w', w'.ownsRow B e size (.slice (some ⟨g, 0, none⟩) (n + 1) cap) (n + 1) (xs ++ news) → w.grownBy w' v.ownBlock → (v.ownBlock = some g ∨ w.heap.size ≤ g) → K (a.put o.dst (.slice (some ⟨g, 0, none⟩) (n + 1) cap)) w') :
    if Region.wanted o (yielded ops a.tmps) = true then Oper.wp P o a w K Q else E := by
  obtain ⟨i, hi, hz0, hz1, hz2⟩ := info_parts T.row
  refine step_append_lies w hgd s x t ho B e i z size bytes T.und hi hz0 hz1 hz2 T.cells T.pos v n xs hs hown ⟨hp, 0, none⟩ 1 c news hx (by omega) ?_ ?_ (by omega) (by unfold maxLen; omega) hbytes hbase _ rfl ?_
  · have := World.news_of_block hb
    simpa using this
  · simpa [List.all_eq_true] using h1
  · intro g cap w' h1 h2 h3 h4
    exact h g cap w' h1 h2 (h3.imp id fun e => by omega)

/-- The nonterminals' row is longer by one. -/
theorem SymSt.pushNt {w w1 : World} {B p m1 m2 m3 g cap : Nat} {r2 r4 r5 : Value} {tm nt nk : List Str} {n : Nat} (st : SymSt w B p m1 m2 m3 r2 r4 r5 tm nt nk n) (s : Str)
    (hown1 : w1.ownsRow B 9 1 (.slice (some ⟨g, 0, none⟩) (nt.length + 1) cap) (nt.length + 1) (nt.map sv ++ [sv s])) (hgrow : w.grownBy w1 r2.ownBlock) (hat : r2.ownBlock = some g ∨ w.heap.size ≤ g) (hB : B ≤ w.heap.size) :
    SymSt (w1.setCell ⟨p, 2, none⟩ (.slice (some ⟨g, 0, none⟩) (nt.length + 1) cap)) B p m1 m2 m3 (.slice (some ⟨g, 0, none⟩) (nt.length + 1) cap) r4 r5 tm (nt ++ [s]) nk n ∧ Below B w (w1.setCell ⟨p, 2, none⟩ (.slice (some ⟨g, 0, none⟩) (nt.length + 1) cap)) := by
  have b1 := (hgrow.block p (lt_of_block st.blk) (fun e => ownBlock_ne st.ntr st.blk (by decide) e.symm)).trans st.blk
  have hown2 := Strs.push hown1
  have e1 := cell_of_blk b1 2
  simp only [List.getElem?_toArray, List.getElem?_cons_zero, List.getElem?_cons_succ] at e1
  have b2 := set_of_blk b1 2 (.slice (some ⟨g, 0, none⟩) (nt.length + 1) cap)
  simp only [List.setIfInBounds_toArray, List.set_cons_succ, List.set_cons_zero] at b2
  have hd : r5.ownBlock = none ∨ r5.ownBlock ≠ r2.ownBlock := by
    rcases st.dis with h | h
    · cases hr : r5.ownBlock with
      | none => exact .inl rfl
      | some k => right; rw [h]; exact fun e => by cases e
    · exact .inr h.symm
  have hr5 := st.tmr.kept hgrow hd
  refine ⟨⟨b2, ?_, ?_, ownsRow_setCell_other hr5 (a := ⟨p, 2, none⟩) (ownBlock_ne hr5 b1 (by decide)) _, ownsRow_setCell_other hown2 (a := ⟨p, 2, none⟩) (ownBlock_ne hown2 b1 (by decide)) _, ?_, st.mne, st.pB, st.m1B, st.m2B⟩,
    (Below.grown (Below.refl B w) hgrow hB (fun k hk => (st.ntr.lt k hk).1)).setCell (p := ⟨p, 2, none⟩) st.pB _⟩
  · obtain ⟨f, hf, hk⟩ := st.id
    exact ⟨f, (hf.kept hgrow (fun e => ownBlock_ne_map st.ntr hf e.symm)).setCell e1, hk⟩
  · obtain ⟨f, hf, hk⟩ := st.ntm
    exact ⟨f, (hf.kept hgrow (fun e => ownBlock_ne_map st.ntr hf e.symm)).setCell e1, hk⟩
  · cases hr : r5.ownBlock with
    | none => right; simp [Value.ownBlock]
    | some k =>
      right
      intro e
      simp only [Value.ownBlock] at e
      injection e with e
      rcases hat with h | h
      · rcases hd with h2 | h2
        · rw [hr] at h2; cases h2
        · exact h2 (by rw [hr, h, e])
      · have := (st.tmr.lt k hr).2
        omega

/-- The nonterminals' table has one key more. -/
theorem SymSt.putNt {w w3 : World} {B p m1 m2 m3 : Nat} {r2 r4 r5 : Value} {tm nt nk : List Str} {n : Nat} (st : SymSt w B p m1 m2 m3 r2 r4 r5 tm nt nk n) (s : Str) {f : Str → Option Value} (hfk : ∀ s, (f s).isSome = has nk s) (val : Value)
    (hf3 : MapF Tryz.prog 9 w3 m2 (n + 1) (putF f s val)) (hg : w.grownBy w3 (some m2)) (hB : B ≤ w.heap.size) {nk' : List Str} (hnk : ∀ t, has nk' t = (decide (t = s) || has nk t)) :
    SymSt w3 B p m1 m2 m3 r2 r4 r5 tm nt nk' (n + 1) ∧ Below B w w3 := by
  obtain ⟨f2, hf2, hk2⟩ := st.ntm
  have hpm : some p ≠ some m2 := by
    intro e
    obtain ⟨es, cl, hm⟩ := hf2.block
    injection e with e
    rw [← e, st.blk] at hm
    cases hm
  refine ⟨⟨(hg.block p (lt_of_block st.blk) hpm).trans st.blk, ?_, ⟨_, hf3, fun t => ?_⟩, st.tmr.kept hg (.inr (ownBlock_ne_map st.tmr hf2)), st.ntr.kept hg (.inr (ownBlock_ne_map st.ntr hf2)), st.dis, st.mne, st.pB, st.m1B, st.m2B⟩,
    Below.grown (Below.refl B w) hg hB (fun k hk => by injection hk with hk; rw [← hk]; exact st.m2B)⟩
  · obtain ⟨f1, hf1, hk1⟩ := st.id
    exact ⟨f1, (hf1.kept hg (fun e => st.mne (by injection e with e))).mono (by omega), hk1⟩
  · rw [hnk]
    unfold putF
    by_cases e : t = s
    · subst e; simp
    · simp only [e, if_false, hfk]; simp

/-- The types' names and the heads of a list of productions. -/
def typesA (L : List AP) (t0 : List Str) : List Str := L.foldl (fun t p => p.2.foldl (fun t s => addTo t s.str) (addTo t p.1)) t0
def headsA (L : List AP) : List Str := L.foldl (fun t p => addTo t p.1) []
def invalidS : Str := [73, 78, 86, 65, 76, 73, 68]
def eofS : Str := [226, 144, 154]
theorem bodyA_len (l : List Sy) (t : List Str) : (l.foldl (fun t s => addTo t s.str) t).length ≤ t.length + l.length := by
  induction l generalizing t with
  | nil => simp
  | cons s l ih => have := ih (addTo t s.str); have := addTo_len t s.str; simp at *; omega
theorem typesA_len (L : List AP) (t : List Str) (m : Nat) (h : ∀ p ∈ L, p.2.length ≤ m) : (typesA L t).length ≤ t.length + L.length * (m + 1) := by
  induction L generalizing t with
  | nil => simp [typesA]
  | cons p L ih =>
    have h1 := ih (p.2.foldl (fun t s => addTo t s.str) (addTo t p.1)) (fun q hq => h q (List.mem_cons_of_mem _ hq))
    have h2 := bodyA_len p.2 (addTo t p.1)
    have h3 := addTo_len t p.1
    have h4 := h p (List.mem_cons_self ..)
    simp only [typesA, List.foldl_cons, List.length_cons, Nat.succ_mul] at *
    omega
theorem headsA_len (L : List AP) : (headsA L).length ≤ L.length := by
  have : ∀ (L : List AP) (out : List Str), (L.foldl (fun out p => addTo out p.1) out).length ≤ out.length + L.length := by
    intro L
    induction L with
    | nil => simp
    | cons p L ih => intro out; have := ih (addTo out p.1); have := addTo_len out p.1; simp at *; omega
  have := this L []
  simpa [headsA] using this
theorem typesA_take {L : List AP} {k : Nat} (h : k < L.length) (t0 : List Str) : typesA (L.take (k + 1)) t0 = L[k].2.foldl (fun t s => addTo t s.str) (addTo (typesA (L.take k) t0) L[k].1) := by
  have := foldl_take (fun t (p : AP) => p.2.foldl (fun t s => addTo t s.str) (addTo t p.1)) t0 L default h
  simpa [typesA, List.getD, h] using this
theorem headsA_take {L : List AP} {k : Nat} (h : k < L.length) : headsA (L.take (k + 1)) = addTo (headsA (L.take k)) L[k].1 := by
  have := foldl_take (fun t (p : AP) => addTo t p.1) [] L default h
  simpa [headsA, List.getD, h] using this
theorem bodyA_take {l : List Sy} {k : Nat} (h : k < l.length) (t : List Str) : (l.take (k + 1)).foldl (fun t s => addTo t s.str) t = addTo ((l.take k).foldl (fun t s => addTo t s.str) t) l[k].str := by
  have := foldl_take (fun t (s : Sy) => addTo t s.str) t l .em h
  simpa [List.getD, h] using this
theorem has_snoc (l : List Str) (s t : Str) : has (l ++ [s]) t = (decide (t = s) || has l t) := by
  simp [has, Bool.or_comm]
theorem Add_new {w : World} {B p m1 m2 m3 : Nat} {r2 r4 r5 : Value} {tm nt nk : List Str} {n : Nat} (st : SymSt w B p m1 m2 m3 r2 r4 r5 tm nt nk n) (s : Str) (hs : s.length ≤ 1000)
    (htm : tm.length ≤ 1000) (hn : n ≤ 1000000) (hB : B ≤ w.heap.size) {q : Nat} (hq : w.heap.size = q) (c : Nat) :
    Calls Tryz.prog 129 #[.pointer (some ⟨p, 0, none⟩), .slice (some ⟨q, 0, none⟩) 1 c] (w.alloc (.cells #[sv s] 9)) fun e w' => e = .returned (.tuple #[]) ∧ ∃ r5', SymSt w' B p m1 m2 m3 r2 r4 r5' (addTo tm s) nt nk (n + 1) ∧ Below B w w' := by
  subst hq
  refine (Add_one (st.new ((New.refl w).alloc _)) s hs w.heap.size c (by simp) htm hn (by simp; omega)).mono ?_
  rintro e w' ⟨rfl, r5', st', hb⟩
  exact ⟨rfl, r5', st', (Below.mono ((New.refl w).alloc _) hB).trans hb⟩
end Go.Proofs.YtdejcdmgcckmoaaGreatDoor
