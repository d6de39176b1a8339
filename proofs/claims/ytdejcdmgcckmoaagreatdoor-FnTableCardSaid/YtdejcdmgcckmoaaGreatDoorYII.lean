/- Regions; rows of k cells; the table's terminals. -/
import Derived.Deep.RegionHeld
import Derived.Test.YtdejcdmgcckmoaaGreatDoorYU
import Derived.Test.YtdejcdmgcckmoaaGreatDoorYDD
import Derived.Test.YtdejcdmgcckmoaaGreatDoorYGG
import Derived.Test.YtdejcdmgcckmoaaGreatDoorYHH
namespace Go
section
variable {P : Program} {ops : Array Oper} {Q : Exit → Act → World → Prop} {md : Region.Mode} {S : Array Bool → World → Prop}

/-- A region in whatever order; what is held may hang on what has come up. -/
def wpAnyG (P : Program) (md : Region.Mode) (ops : Array Oper) (Q : Exit → Act → World → Prop) (S : Array Bool → World → Prop) : Nat → Array Bool → Act → World → Prop
  | 0, listed, a, w => Region.ready md ops listed = [] ∧ Q .normal a w
  | n + 1, listed, a, w => (Region.ready md ops listed = [] → Q .normal a w) ∧ ∀ i ∈ Region.ready md ops listed, wpOp P ops Q i (fun a' w' => S (listed.setIfInBounds i true) w' ∧ wpAnyG P md ops Q S n (listed.setIfInBounds i true) a' w') a w
theorem wpAny_of_G : ∀ (n : Nat) (listed : Array Bool) (a : Act) (w : World), wpAnyG P md ops Q S n listed a w → wpAny P md ops Q n listed a w
  | 0, _, _, _, h => h
  | n + 1, _, _, _, h => ⟨h.1, fun i hi => wpOp_mono (fun a' w' h' => wpAny_of_G n _ a' w' h'.2) (h.2 i hi)⟩
/-- What operation i reads stands until d comes up, and d waits for i: then i may be taken first. -/
theorem wpAnyG_first {i d : Nat} {oi : Oper} {v : Value} (hi : ops[i]? = some oi) (hsel : ∀ (j : Nat) (o : Oper) cs b, ops[j]? = some o → o.op ≠ .select cs b)
    (hQ : ∀ c a w, Q (.panic c) (a.put oi.dst v) w → Q (.panic c) a w)
    (hdep : ∃ od, ops[d]? = some od ∧ ∃ e ∈ od.after, Region.binds md e = true ∧ e.on = i) (hSi : ∀ l w, S (l.setIfInBounds i true) w → S l w) (hSj : ∀ l w, S l w → S (l.setIfInBounds i true) w) :
    ∀ (n : Nat) (listed : Array Bool) (a : Act) (w : World),
      (∀ j oj, ops[j]? = some oj → j ≠ i → listed.getD j true = false → (∀ e ∈ oj.after, Region.binds md e = true → e.on ≠ i) → oi.apart ops oj = true) →
      i ∈ Region.ready md ops listed → listed.getD d true = false → YieldsIf P ops (fun w => ∃ l, l.getD d true = false ∧ S l w) oi v a → S listed w →
      wpAnyG P md ops Q S n (listed.setIfInBounds i true) (a.put oi.dst v) w → wpAnyG P md ops Q S (n + 1) listed a w := by
  intro n
  induction n with
  | zero =>
    intro listed a w _ hr hd hy hS H
    refine ⟨fun h => (by rw [h] at hr; cases hr), fun j hj => ?_⟩
    by_cases hji : j = i
    · subst hji; exact hy.wpOp hi ⟨listed, hd, hS⟩ ⟨hSj _ _ hS, H⟩
    · have := ready_mono hj hji
      rw [H.1] at this
      cases this
  | succ n ih =>
    intro listed a w hfree hr hd hy hS H
    refine ⟨fun h => (by rw [h] at hr; cases hr), fun j hj => ?_⟩
    by_cases hji : j = i
    · subst hji; exact hy.wpOp hi ⟨listed, hd, hS⟩ ⟨hSj _ _ hS, H⟩
    · have h1 := H.2 j (ready_mono hj hji)
      obtain ⟨hjun, oj, hoj, hall⟩ := mem_ready.1 hj
      have hun : ∀ e : Nat, e = i → listed.getD e false = true → False := fun e he hl => by
        subst he
        have h0 := (mem_ready.1 hr).1
        rw [Array.getD_eq_getD_getElem?] at h0 hl
        cases hc : listed[e]? with
        | none => rw [hc] at hl; cases hl
        | some b => rw [hc] at h0 hl; simp at h0 hl; rw [h0] at hl; cases hl
      have hnot : ∀ e ∈ oj.after, Region.binds md e = true → e.on ≠ i := fun e he hb heq => hun _ heq (hall e he hb)
      have hjd : j ≠ d := by
        rintro rfl
        obtain ⟨od, hod, e, he, hb, heq⟩ := hdep
        rw [hoj] at hod
        cases hod
        exact hnot e he hb heq
      have h2 := wpOp_putIf hoj (hfree j oj hoj hji hjun hnot) (fun cs b => hsel i oi cs b hi) (fun cs b => hsel j oj cs b hoj) hQ hy h1
      have hd' : (listed.setIfInBounds j true).getD d true = false := by rw [getD_set_ne true hjd]; exact hd
      refine wpOp_mono (fun a' w' h3 => ?_) h2
      obtain ⟨h4, h5, h6⟩ := h3
      rw [Array.setIfInBounds_comm _ _ (Ne.symm hji)] at h5 h6
      have h7 := hSi _ _ h5
      refine ⟨h7, ih (listed.setIfInBounds j true) a' w' (fun k ok hk hki hun2 hno => ?_) (ready_mono hr (Ne.symm hji)) hd' h4 h7 h6⟩
      refine hfree k ok hk hki ?_ hno
      by_cases hjk : j = k
      · subst hjk; exact hjun
      · rw [getD_set_ne true hjk] at hun2; exact hun2
theorem wpAnyG_take (d : Nat) {i : Nat} {oi : Oper} {v : Value} {n : Nat} {listed : Array Bool} {a : Act} {w : World} (hi : ops[i]? = some oi)
    (hs : Region.noSelect ops = true) (hf : Region.free md ops listed i = true) (hr : (Region.ready md ops listed).contains i = true) (hQ : ∀ c a w, Q (.panic c) (a.put oi.dst v) w → Q (.panic c) a w)
    (hdep : ∃ od, ops[d]? = some od ∧ ∃ e ∈ od.after, Region.binds md e = true ∧ e.on = i) (hSi : ∀ l w, S (l.setIfInBounds i true) w → S l w) (hSj : ∀ l w, S l w → S (l.setIfInBounds i true) w)
    (hd : listed.getD d true = false) (hy : YieldsIf P ops (fun w => ∃ l, l.getD d true = false ∧ S l w) oi v a) (hS : S listed w)
    (h : wpAnyG P md ops Q S n (listed.setIfInBounds i true) (a.put oi.dst v) w) : wpAnyG P md ops Q S (n + 1) listed a w :=
  wpAnyG_first hi (Region.noSelect_spec hs) hQ hdep hSi hSj n listed a w (Region.free_spec hi hf) (by simpa using hr) hd hy hS h
theorem wpAnyG_done {listed : Array Bool} {a : Act} {w : World} (hr : Region.ready md ops listed = []) (h : Q .normal a w) : ∀ n, wpAnyG P md ops Q S n listed a w
  | 0 => ⟨hr, h⟩
  | _ + 1 => ⟨fun _ => h, by rw [hr]; simp⟩
def AllG (P : Program) (md : Region.Mode) (ops : Array Oper) (Q : Exit → Act → World → Prop) (S : Array Bool → World → Prop) (n : Nat) (listed : Array Bool) (a : Act) (w : World) (rs : List Nat) : Prop :=
  ∀ i ∈ rs, wpOp P ops Q i (fun a' w' => S (listed.setIfInBounds i true) w' ∧ wpAnyG P md ops Q S n (listed.setIfInBounds i true) a' w') a w
theorem AllG.nil {n : Nat} {listed : Array Bool} {a : Act} {w : World} : AllG P md ops Q S n listed a w [] := fun _ h => by cases h
theorem AllG.cons {n : Nat} {listed : Array Bool} {a : Act} {w : World} {i : Nat} {o : Oper} {rs : List Nat} (ho : ops[i]? = some o)
    (h : ∀ K' : Act → World → Prop, Shut (∀ a w, S (listed.setIfInBounds i true) w → wpAnyG P md ops Q S n (listed.setIfInBounds i true) a w → K' a w) → if Region.wanted o (yielded ops a.tmps) = true then Oper.wp P o a w K' Q else K' (a.put o.dst undef) w)
    (hs : AllG P md ops Q S n listed a w rs) : AllG P md ops Q S n listed a w (i :: rs) := fun j hj => by
  rcases List.mem_cons.1 hj with rfl | hj
  · exact wpOp_step ho (fun K' hK => h K' (fun a w hS hW => hK a w ⟨hS, hW⟩))
  · exact hs j hj
theorem wpAnyG_ready {rs : List Nat} {n : Nat} {listed : Array Bool} {a : Act} {w : World} (hr : Region.ready md ops listed = rs) (hne : rs ≠ []) (h : AllG P md ops Q S n listed a w rs) : wpAnyG P md ops Q S (n + 1) listed a w :=
  ⟨fun h0 => absurd (hr ▸ h0) hne, hr ▸ h⟩
theorem wp_region_G {id : Nat} {a : Act} {w : World} (hm : P.follows .mixedOrders = true) (h : wpAnyG P .any ops Q S ops.size (Array.replicate ops.size false) a w.drew) : (Code.region id ops true).wp P Q a w :=
  wp_region_any hm (wpAny_of_G _ _ _ _ h)
end
end Go
namespace Go
section
variable {P : Program} {ops : Array Oper} {Q : Exit → Act → World → Prop} {md : Region.Mode} {S : Array Bool → World → Prop}
/-- Does d wait for i? -/
def waitsB (md : Region.Mode) (ops : Array Oper) (d i : Nat) : Bool := match ops[d]? with | some o => o.after.any fun e => Region.binds md e && e.on == i | none => false
theorem waits_of {d i : Nat} (h : waitsB md ops d i = true) : ∃ od, ops[d]? = some od ∧ ∃ e ∈ od.after, Region.binds md e = true ∧ e.on = i := by
  unfold waitsB at h
  split at h
  · rename_i o ho
    obtain ⟨e, he, hb⟩ := Array.any_eq_true'.1 h
    simp only [Bool.and_eq_true, beq_iff_eq] at hb
    exact ⟨o, ho, e, he, hb.1, hb.2⟩
  · cases h
end
end Go
namespace Go.Proofs.YtdejcdmgcckmoaaGreatDoor
open Go.RowKit Go.Sort Lr

/-! Rows of elements of k cells. -/
def RowK {α : Type} (enc : α → List Value) (k : Nat) (w : World) (v : Value) (L : List α) : Prop :=
  ∃ a cap, v = .slice a L.length cap ∧ L.length ≤ cap ∧ (0 < L.length → ∃ b o, a = some ⟨b, o, none⟩ ∧ ∀ j, (hj : j < L.length) → ∀ c, c < k → w.cell? ⟨b, o + j * k + c, none⟩ = (enc L[j])[c]?)
abbrev OwnK {α : Type} (enc : α → List Value) (k : Nat) (t : TypeId) (w : World) (B : Nat) (v : Value) (L : List α) : Prop := w.ownsRow B t k v L.length (L.flatMap enc)
section
variable {α : Type} {enc : α → List Value} {k : Nat} {w w' : World} {v : Value} {L : List α}
theorem RowK.new (hk : ∀ x, (enc x).length = k) (h : RowK enc k w v L) (hn : New w w') : RowK enc k w' v L := by
  obtain ⟨a, cap, rfl, hcap, hc⟩ := h
  refine ⟨a, cap, rfl, hcap, fun hne => ?_⟩
  obtain ⟨b, o, rfl, hcc⟩ := hc hne
  refine ⟨b, o, rfl, fun j hj c hc => ?_⟩
  have h1 := hcc j hj c hc
  rw [List.getElem?_eq_getElem (by rw [hk]; exact hc)] at h1 ⊢
  exact hn.cell h1
theorem RowK.slice (h : RowK enc k w v L) : ∃ a cap, v = .slice a L.length cap := by
  obtain ⟨a, cap, rfl, _, _⟩ := h
  exact ⟨a, cap, rfl⟩
theorem RowK.elem {a : Option Addr} {n cap : Nat} (h : RowK enc k w (.slice a n cap) L) {j : Nat} (hj : j < L.length) :
    ∃ b o, a = some ⟨b, o, none⟩ ∧ ∀ c, c < k → w.cell? ⟨b, o + j * k + c, none⟩ = (enc L[j])[c]? := by
  obtain ⟨a1, cap1, e1, _, hc⟩ := h
  cases e1
  obtain ⟨b, o, rfl, hcc⟩ := hc (by omega)
  exact ⟨b, o, rfl, hcc j hj⟩
theorem RowK.of_owns (hk : ∀ x, (enc x).length = k) {B : Nat} {t : TypeId} (h : w.ownsRow B t k v L.length (L.flatMap enc)) : RowK enc k w v L := by
  obtain ⟨a, cap, rfl⟩ := owns_slice h
  rcases h.2 with ⟨e1, h0⟩ | ⟨g, cap', cur, e1, hb, hg, h1, h2, h3, h4⟩
  · exact ⟨a, cap, rfl, by omega, fun hne => by omega⟩
  · cases e1
    refine ⟨_, cap, rfl, h1, fun hne => ⟨g, 0, rfl, fun j hj c hc => ?_⟩⟩
    have hcell := h.cells (g := g) rfl (j * k + c) ((enc L[j])[c]'(by rw [hk]; exact hc)) (by rw [flatMap_get hk L j c hj hc, List.getElem?_eq_getElem])
    have ea : (⟨g, 0, none⟩ : Addr).add (j * k + c) = ⟨g, 0 + j * k + c, none⟩ := by unfold Addr.add; split <;> simp_all
    rw [ea] at hcell
    rw [hcell, List.getElem?_eq_getElem]
theorem OwnK.push {t : TypeId} {B : Nat} {x : α} (h : w.ownsRow B t k v (L.length + 1) (L.flatMap enc ++ enc x)) : OwnK enc k t w B v (L ++ [x]) := by
  unfold OwnK; simpa using h
theorem OwnK.nil {t : TypeId} {B : Nat} : OwnK enc k t w B (.slice none 0 0) ([] : List α) := ⟨by simp, .inl ⟨rfl, rfl⟩⟩
end
/-- Rows of numbers. -/
def int1 (n : Int) : List Value := [.int .i64 n]
theorem int1_len (n : Int) : (int1 n).length = 1 := rfl
/-- Actions as data. -/
def ac4 (x : Ac) : List Value := [.int .i64 (x.1 : Int), sv x.2.1, .int .i64 x.2.2.1, .int .i64 x.2.2.2]
theorem ac4_len (x : Ac) : (ac4 x).length = 4 := rfl
/-- Conflicts as data: state, terminal, and two rows. -/
abbrev Cl := Nat × Str × (Option Addr × Nat × Nat) × (Option Addr × Nat × Nat)
def cl4 (x : Cl) : List Value := [.int .i64 (x.1 : Int), sv x.2.1, .slice x.2.2.1.1 x.2.2.1.2.1 x.2.2.1.2.2, .slice x.2.2.2.1 x.2.2.2.2.1 x.2.2.2.2.2]
theorem cl4_len (x : Cl) : (cl4 x).length = 4 := rfl
/-- Pairs of numbers. -/
def kn2 (x : KN) : List Value := [.int .i64 x.1, .int .i64 x.2]
theorem kn2_len (x : KN) : (kn2 x).length = 2 := rfl
theorem elem4 {w : World} {b o j : Nat} {l : List Value} (h : ∀ c, c < 4 → w.cell? ⟨b, o + j * 4 + c, none⟩ = l[c]?) : w.cell? ⟨b, o + j * 4, none⟩ = l[0]? ∧ w.cell? ⟨b, o + j * 4 + 1, none⟩ = l[1]? ∧ w.cell? ⟨b, o + j * 4 + 2, none⟩ = l[2]? ∧ w.cell? ⟨b, o + j * 4 + 3, none⟩ = l[3]? :=
  ⟨h 0 (by omega), h 1 (by omega), h 2 (by omega), h 3 (by omega)⟩
theorem elem2 {w : World} {b o j : Nat} {l : List Value} (h : ∀ c, c < 2 → w.cell? ⟨b, o + j * 2 + c, none⟩ = l[c]?) : w.cell? ⟨b, o + j * 2, none⟩ = l[0]? ∧ w.cell? ⟨b, o + j * 2 + 1, none⟩ = l[1]? :=
  ⟨h 0 (by omega), h 1 (by omega)⟩
theorem elem1 {w : World} {b o j : Nat} {l : List Value} (h : ∀ c, c < 1 → w.cell? ⟨b, o + j * 1 + c, none⟩ = l[c]?) : w.cell? ⟨b, o + j, none⟩ = l[0]? := by
  have := h 0 (by omega)
  simpa using this
end Go.Proofs.YtdejcdmgcckmoaaGreatDoor
namespace Go.Proofs.YtdejcdmgcckmoaaGreatDoor
open Go.RowKit Go.Sort Go.Lib Lr

/-! The terminals of the table, in order. -/
def rawB (g : Gram) (b : List Str) : List Str := b.filter fun s => !isHead g s
def rawT (g h : Gram) : List Str := eofS :: h.flatMap fun p => rawB g p.2
theorem rawT_take {g h : Gram} {k : Nat} (hk : k < h.length) : rawT g (h.take (k + 1)) = rawT g (h.take k) ++ rawB g h[k].2 := by
  unfold rawT; rw [List.take_succ_eq_append_getElem hk, List.flatMap_append]; simp
theorem rawB_take {g : Gram} {b : List Str} {j : Nat} (hj : j < b.length) : rawB g (b.take (j + 1)) = rawB g (b.take j) ++ (if isHead g b[j] then [] else [b[j]]) := by
  unfold rawB; rw [List.take_succ_eq_append_getElem hj, List.filter_append]
  congr 1
  cases h : isHead g b[j] <;> simp [h]
theorem rawB_len (g : Gram) (b : List Str) : (rawB g b).length ≤ b.length := List.length_filter_le _ _
theorem rawT_len {g h : Gram} (hb : ∀ p ∈ h, p.2.length ≤ 4) : (rawT g h).length ≤ 1 + 4 * h.length := by
  have : ∀ h : Gram, (∀ p ∈ h, p.2.length ≤ 4) → (h.flatMap fun p => rawB g p.2).length ≤ 4 * h.length := by
    intro h
    induction h with
    | nil => intro _; simp
    | cons p h ih =>
      intro hb
      have := ih fun q hq => hb q (List.mem_cons_of_mem _ hq)
      have := hb p (List.mem_cons_self ..)
      have := rawB_len g p.2
      rw [List.flatMap_cons, List.length_append, List.length_cons]; omega
  have := this h hb
  unfold rawT; rw [List.length_cons]; omega
theorem rawT_mem {g : Gram} (hm : Sm g) {t : Str} : t ∈ rawT g g ↔ t = eofS ∨ t ∈ terminalsF g := by
  unfold rawT rawB
  rw [List.mem_cons, List.mem_flatMap, termsF_mem]
  constructor
  · rintro (h | ⟨p, hp, h⟩)
    · exact .inl h
    · rw [List.mem_filter] at h
      exact .inr ⟨p, hp, h.1, by rw [hm.great_iff hp h.1]; simpa using h.2⟩
  · rintro (h | ⟨p, hp, h1, h2⟩)
    · exact .inl h
    · exact .inr ⟨p, hp, List.mem_filter.2 ⟨h1, by rw [← hm.great_iff hp h1, h2]; rfl⟩⟩
/-- The terminals, rising. -/
structure TrmOrd (g : Gram) (T : List Str) : Prop extends TrmOk g T where
  ord : T.Pairwise fun x y => ltOf cmpS x y = true
theorem TrmOrd.uniq {g : Gram} {T U : List Str} (h : TrmOrd g T) (k : TrmOrd g U) : T = U :=
  sorted_uniq (r := fun x y => ltOf cmpS x y = true) (fun x => by rw [swoS.irrefl x]; simp) (fun x y h1 h2 => by
    have := swoS.trans _ _ _ h1 h2
    rw [swoS.irrefl x] at this; cases this) h.ord k.ord fun x => by rw [h.mem, k.mem]
open Classical in
noncomputable def trmF (g : Gram) : List Str := if h : ∃ T, TrmOrd g T then Classical.choose h else []
theorem trmF_eq {g : Gram} {T : List Str} (h : TrmOrd g T) : T = trmF g := by
  unfold trmF
  rw [dif_pos ⟨T, h⟩]
  exact h.uniq (Classical.choose_spec (⟨T, h⟩ : ∃ T, TrmOrd g T))
theorem trmOrd_of {g : Gram} (hm : Sm g) {L : List Str} (hp : L.Perm (rawT g g)) (hs : L.Pairwise fun x y => ltOf cmpS y x = false) : TrmOrd g (Lib.compact L) := by
  have hmem : ∀ t, t ∈ L ↔ t = eofS ∨ t ∈ terminalsF g := fun t => hp.mem_iff.trans (rawT_mem hm)
  have htrm : ∀ t ∈ L, TrmS g t := fun t ht => by
    rcases (hmem t).1 ht with e | e
    · exact .inl e
    · exact .inr ((termsOk hm).sym t e)
  obtain ⟨c1, c2⟩ := compact_sorted swoS hs fun x hx y hy h1 h2 => (htrm x hx).inj (htrm y hy) (ord_totF ord_T _ _ h1 h2)
  refine ⟨⟨fun t => (c1 t).trans (hmem t), ?_⟩, c2⟩
  exact c2.imp fun {x y} h e => by subst e; rw [swoS.irrefl x] at h; cases h
end Go.Proofs.YtdejcdmgcckmoaaGreatDoor
namespace Go.Proofs.YtdejcdmgcckmoaaGreatDoor
open Go.RowKit Go.Sort Lr

set_option maxRecDepth 20000 in
set_option maxHeartbeats 1000000 in
theorem terms_any (v : Value) (g : Gram) (w : World) (h : GramAt w v g) (hm : Sm g) :
    Calls Tryz.prog 76 #[v] w fun e w' => ∃ v', e = .returned v' ∧ Strs w' w.heap.size v' (trmF g) ∧ TrmOk g (trmF g) ∧ New w w' := by
  have HH := Lib.hid h
  have hlen := hm.len
  obtain ⟨a, cap, rfl⟩ := h.slice
  have hraw : ∀ k j, (hk : k < g.length) → (rawT g (g.take k) ++ rawB g (g[k].2.take j)).length ≤ 60 := fun k j hk => by
    have h1 := rawT_len (g := g) (h := g.take k) (fun p hp => hm.body p (mem_take hp))
    have h2 := rawB_len g (g[k].2.take j)
    have h3 := hm.body _ (List.getElem_mem hk)
    simp at h1 h2 ⊢
    omega
  have HR := Lib.hid hraw
  clear h hraw
  go_enter Tryz.func76, Tryz.ntmps76
  go_wp2
  go_loopg [3, 11] g.length (fun gk u3 u11 wr => ∃ k : Nat, k ≤ g.length ∧ gk = g.length - k ∧ u11 = .int .i64 k ∧ Strs wr w.heap.size u3 (rawT g (g.take k)) ∧ New w wr)
  case atStart => exact ⟨0, Nat.zero_le _, rfl, rfl, ⟨rfl, .inr ⟨w.heap.size, 1, _, rfl, Nat.le_refl _, heap_alloc_new w _, by simp [rawT], by unfold maxLen; omega, by simp, by simp [rawT, eofS]⟩⟩, (New.refl w).alloc _⟩
  case round =>
    obtain ⟨k, hk, rfl, rfl, hown, hn⟩ := hrel
    by_cases hlt : k < g.length
    · obtain ⟨b, o, a', cap', e, h1, h2, h3⟩ := HH.out.elem hlt
      cases e
      have c1 := hn.cell h1
      have c2 := hn.cell h2
      have hT := Lib.hid (rawT_take (g := g) hlt)
      have hmem := List.getElem_mem hlt
      have hbl := hm.body _ hmem
      have hrk := Lib.hid (fun j => HR.out k j hlt)
      have H3 := Lib.hid h3
      clear h1 h2 h3 hmem
      go_wp2
      go_loopg [3, 18] g[k].2.length (fun gj u3 u18 wq => ∃ j : Nat, j ≤ g[k].2.length ∧ gj = g[k].2.length - j ∧ u18 = .int .i64 j ∧ Strs wq w.heap.size u3 (rawT g (g.take k) ++ rawB g (g[k].2.take j)) ∧ New w wq)
      case atStart => exact ⟨0, Nat.zero_le _, rfl, rfl, by simpa [rawB] using (hown.alloc _ : Strs _ _ _ _), hn.alloc _⟩
      case round =>
        obtain ⟨j, hj, rfl, rfl, hown, hn⟩ := hrel
        by_cases hjl : j < g[k].2.length
        · obtain ⟨b2, o2, e, h4⟩ := H3.out.elem hjl
          cases e
          have c3 := hn.cell h4
          have hS := Lib.hid (rawB_take (g := g) hjl)
          have hlen2 := hrk.out j
          have hsz : w.heap.size ≤ wr.heap.size := hn.size
          have hq := Lib.hid (implHead_any _ g g[k].2[j] wr (HH.out.new hn) (by omega))
          clear h4 c1 c2
          generalize hout : rawT g (g.take k) ++ rawB g (g[k].2.take j) = outl at *
          have Hout := Lib.hid hout
          have HO := Lib.hid (And.intro hown hn)
          clear hout hown hn
          cases hg : isHead g g[k].2[j] with
          | true =>
            rw [hg] at hq hS
            go_wp2_with (first | (go_at_call 56; refine hq.out.mono ?_; rintro e w' ⟨rfl, hn'⟩))
            go_roundg (g[k].2.length - (j + 1))
            case measure => omega
            case rel => exact ⟨j + 1, by omega, rfl, by go_num, by rw [hS.out, ← List.append_assoc, Hout.out]; simpa using ownsRow_new HO.out.1 hn', HO.out.2.trans hn'⟩
          | false =>
            rw [hg] at hq hS
            go_wp2_with (first | (go_at_call 56; refine hq.out.mono ?_; rintro e w' ⟨rfl, hn'⟩; have hsz' := hn'.size; have hown' := ownsRow_new HO.out.1 hn'; have hnW := HO.out.2.trans hn'; have HO2 := Lib.hid (And.intro hown' (And.intro hnW hn')); clear hown' hnW hn') | (at_builtin; go_must (refine wpList_push _ rfl _ _ _ _ rfl T24 w.heap.size _ _ _ rfl HO2.out.1 [_] rfl rfl _ _ rfl (by simp) (by omega) (by omega) (by omega) ?_)))
            intro v' w1 hown1 hgrow hne hat
            have hb1 : New w w1 := Below.push HO2.out.2.1 HO2.out.1 hgrow HO2.out.2.1.size
            have hown2 := Strs.push hown1
            clear hgrow hne hat
            go_wp2
            go_roundg (g[k].2.length - (j + 1))
            case measure => omega
            case rel => exact ⟨j + 1, by omega, rfl, by go_num, by rw [hS.out, ← List.append_assoc, Hout.out]; exact hown2, hb1⟩
        · have e := Lib.hid (List.take_of_length_le (l := g[k].2) (i := j) (by omega))
          rw [e.out, ← hT.out] at hown
          go_wp2
          go_roundg (g.length - (k + 1))
          case measure => omega
          case rel => exact ⟨k + 1, by omega, rfl, by go_num, hown, hn⟩
    · rw [List.take_of_length_le (by omega)] at hown
      have hl60 : (rawT g g).length ≤ 49 := by
        have := rawT_len (g := g) (h := g) (fun p hp => hm.body p hp)
        omega
      have h0 : 0 < (rawT g g).length := by simp [rawT]
      have hq := Lib.hid (SortTrm hown h0 (by omega))
      have HO := Lib.hid (And.intro hown hn)
      obtain ⟨a3, c3, eo⟩ := owns_slice hown
      subst eo
      clear hown hn
      go_wp2_with (go_at_call 116; refine hq.out.mono ?_; rintro e w2 ⟨rfl, l', hp, hs, hown2, hg2⟩)
      have hl2 : l'.length = (rawT g g).length := hp.length_eq
      have hq2 := Lib.hid (CompactTrm hown2 (by omega) (by omega))
      have hn2 : New w w2 := Below.push HO.out.2 HO.out.1 hg2 HO.out.2.size
      have HS := Lib.hid (And.intro (trmOrd_of hm hp hs) (And.intro hown2 hn2))
      clear hq hp hs hown2 hg2 hn2
      go_wp2_with (go_at_call 118; refine hq2.out.mono ?_; rintro e w3 ⟨v3, rfl, hown3, hg3⟩)
      have hn3 : New w w3 := Below.push HS.out.2.2 HS.out.2.1 hg3 HS.out.2.2.size
      have e := trmF_eq HS.out.1
      have HF := Lib.hid (And.intro hown3 hn3)
      obtain ⟨a4, c4, e4⟩ := owns_slice hown3
      subst e4
      clear hown3 hn3 hg3
      go_wp2
      go_ret
      have ht := HS.out.1.toTrmOk
      rw [e] at ht
      exact ⟨_, rfl, by rw [← e]; exact HF.out.1, ht, HF.out.2⟩
end Go.Proofs.YtdejcdmgcckmoaaGreatDoor
