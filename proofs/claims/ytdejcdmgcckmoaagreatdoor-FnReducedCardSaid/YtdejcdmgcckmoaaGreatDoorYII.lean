/- Rows of k cells; the table's terminals. -/
import Derived.Test.YtdejcdmgcckmoaaGreatDoorYU
import Derived.Test.YtdejcdmgcckmoaaGreatDoorYDD
import Derived.Test.YtdejcdmgcckmoaaGreatDoorYGG
import Derived.Test.YtdejcdmgcckmoaaGreatDoorYHH
namespace Go.Proofs.YtdejcdmgcckmoaaGreatDoor
open Go.RowKit Go.Sort Lr

/-! Rows of elements of k cells. -/
def RowK {α : Type} (enc : α → List Value) (k : Nat) (w : World) (v : Value) (L : List α) : Prop :=
  ∃ a cap, v = .slice a L.length cap ∧ L.length ≤ cap ∧ (0 < L.length → ∃ b o, a = some ⟨b, o, none⟩ ∧ ∀ j, (hj : j < L.length) → ∀ c, c < k → w.cell? ⟨b, o + j * k + c, none⟩ = (enc L[j])[c]?)
abbrev OwnK {α : Type} (enc : α → List Value) (k : Nat) (t : TypeId) (w : World) (B : Nat) (v : Value) (L : List α) : Prop := w.ownsRow B t k v L.length (L.flatMap enc)
section
variable {α : Type} {enc : α → List Value} {k : Nat} {w w' : World} {v : Value} {L : List α}
theorem RowK.new (hk : ∀ x, (enc x).length = k) (h : RowK enc k w v L) (hn : New w w') : RowK enc k w' v L := by
  obtain ⟨a, cap, rfl, hcap, hc⟩ := h
  refine ⟨a, cap, rfl, hcap, fun hne => ?_⟩
  obtain ⟨b, o, rfl, hcc⟩ := hc hne
  refine ⟨b, o, rfl, fun j hj c hc => ?_⟩
  have h1 := hcc j hj c hc
  rw [List.getElem?_eq_getElem (by rw [hk]; exact hc)] at h1 ⊢
  exact hn.cell h1
theorem RowK.slice (h : RowK enc k w v L) : ∃ a cap, v = .slice a L.length cap := by
  obtain ⟨a, cap, rfl, _, _⟩ := h
  exact ⟨a, cap, rfl⟩
theorem RowK.elem {a : Option Addr} {n cap : Nat} (h : RowK enc k w (.slice a n cap) L) {j : Nat} (hj : j < L.length) :
    ∃ b o, a = some ⟨b, o, none⟩ ∧ ∀ c, c < k → w.cell? ⟨b, o + j * k + c, none⟩ = (enc L[j])[c]? := by
  obtain ⟨a1, cap1, e1, _, hc⟩ := h
  cases e1
  obtain ⟨b, o, rfl, hcc⟩ := hc (by omega)
  exact ⟨b, o, rfl, hcc j hj⟩
theorem RowK.of_owns (hk : ∀ x, (enc x).length = k) {B : Nat} {t : TypeId} (h : w.ownsRow B t k v L.length (L.flatMap enc)) : RowK enc k w v L := by
  obtain ⟨a, cap, rfl⟩ := owns_slice h
  rcases h.2 with ⟨e1, h0⟩ | ⟨g, cap', cur, e1, hb, hg, h1, h2, h3, h4⟩
  · exact ⟨a, cap, rfl, by omega, fun hne => by omega⟩
  · cases e1
    refine ⟨_, cap, rfl, h1, fun hne => ⟨g, 0, rfl, fun j hj c hc => ?_⟩⟩
    have hcell := h.cells (g := g) rfl (j * k + c) ((enc L[j])[c]'(by rw [hk]; exact hc)) (by rw [flatMap_get hk L j c hj hc, List.getElem?_eq_getElem])
    have ea : (⟨g, 0, none⟩ : Addr).add (j * k + c) = ⟨g, 0 + j * k + c, none⟩ := by unfold Addr.add; split <;> simp_all
    rw [ea] at hcell
    rw [hcell, List.getElem?_eq_getElem]
theorem OwnK.push {t : TypeId} {B : Nat} {x : α} (h : w.ownsRow B t k v (L.length + 1) (L.flatMap enc ++ enc x)) : OwnK enc k t w B v (L ++ [x]) := by
  unfold OwnK; simpa using h
theorem OwnK.nil {t : TypeId} {B : Nat} : OwnK enc k t w B (.slice none 0 0) ([] : List α) := ⟨by simp, .inl ⟨rfl, rfl⟩⟩
end
/-- Rows of numbers. -/
def int1 (n : Int) : List Value := [.int .i64 n]
theorem int1_len (n : Int) : (int1 n).length = 1 := rfl
/-- Actions as data. -/
def ac4 (x : Ac) : List Value := [.int .i64 (x.1 : Int), sv x.2.1, .int .i64 x.2.2.1, .int .i64 x.2.2.2]
theorem ac4_len (x : Ac) : (ac4 x).length = 4 := rfl
/-- Conflicts as data: state, terminal, and two rows. -/
abbrev Cl := Nat × Str × (Option Addr × Nat × Nat) × (Option Addr × Nat × Nat)
def cl4 (x : Cl) : List Value := [.int .i64 (x.1 : Int), sv x.2.1, .slice x.2.2.1.1 x.2.2.1.2.1 x.2.2.1.2.2, .slice x.2.2.2.1 x.2.2.2.2.1 x.2.2.2.2.2]
theorem cl4_len (x : Cl) : (cl4 x).length = 4 := rfl
/-- Pairs of numbers. -/
def kn2 (x : KN) : List Value := [.int .i64 x.1, .int .i64 x.2]
theorem kn2_len (x : KN) : (kn2 x).length = 2 := rfl
theorem elem4 {w : World} {b o j : Nat} {l : List Value} (h : ∀ c, c < 4 → w.cell? ⟨b, o + j * 4 + c, none⟩ = l[c]?) : w.cell? ⟨b, o + j * 4, none⟩ = l[0]? ∧ w.cell? ⟨b, o + j * 4 + 1, none⟩ = l[1]? ∧ w.cell? ⟨b, o + j * 4 + 2, none⟩ = l[2]? ∧ w.cell? ⟨b, o + j * 4 + 3, none⟩ = l[3]? :=
  ⟨h 0 (by omega), h 1 (by omega), h 2 (by omega), h 3 (by omega)⟩
theorem elem2 {w : World} {b o j : Nat} {l : List Value} (h : ∀ c, c < 2 → w.cell? ⟨b, o + j * 2 + c, none⟩ = l[c]?) : w.cell? ⟨b, o + j * 2, none⟩ = l[0]? ∧ w.cell? ⟨b, o + j * 2 + 1, none⟩ = l[1]? :=
  ⟨h 0 (by omega), h 1 (by omega)⟩
theorem elem1 {w : World} {b o j : Nat} {l : List Value} (h : ∀ c, c < 1 → w.cell? ⟨b, o + j * 1 + c, none⟩ = l[c]?) : w.cell? ⟨b, o + j, none⟩ = l[0]? := by
  have := h 0 (by omega)
  simpa using this
end Go.Proofs.YtdejcdmgcckmoaaGreatDoor
namespace Go.Proofs.YtdejcdmgcckmoaaGreatDoor
open Go.RowKit Go.Sort Go.Lib Lr

/-! The terminals of the table, in order. -/
def rawB (g : Gram) (b : List Str) : List Str := b.filter fun s => !isHead g s
def rawT (g h : Gram) : List Str := eofS :: h.flatMap fun p => rawB g p.2
theorem rawT_take {g h : Gram} {k : Nat} (hk : k < h.length) : rawT g (h.take (k + 1)) = rawT g (h.take k) ++ rawB g h[k].2 := by
  unfold rawT; rw [List.take_succ_eq_append_getElem hk, List.flatMap_append]; simp
theorem rawB_take {g : Gram} {b : List Str} {j : Nat} (hj : j < b.length) : rawB g (b.take (j + 1)) = rawB g (b.take j) ++ (if isHead g b[j] then [] else [b[j]]) := by
  unfold rawB; rw [List.take_succ_eq_append_getElem hj, List.filter_append]
  congr 1
  cases h : isHead g b[j] <;> simp [h]
theorem rawB_len (g : Gram) (b : List Str) : (rawB g b).length ≤ b.length := List.length_filter_le _ _
theorem rawT_len {g h : Gram} (hb : ∀ p ∈ h, p.2.length ≤ 4) : (rawT g h).length ≤ 1 + 4 * h.length := by
  have : ∀ h : Gram, (∀ p ∈ h, p.2.length ≤ 4) → (h.flatMap fun p => rawB g p.2).length ≤ 4 * h.length := by
    intro h
    induction h with
    | nil => intro _; simp
    | cons p h ih =>
      intro hb
      have := ih fun q hq => hb q (List.mem_cons_of_mem _ hq)
      have := hb p (List.mem_cons_self ..)
      have := rawB_len g p.2
      rw [List.flatMap_cons, List.length_append, List.length_cons]; omega
  have := this h hb
  unfold rawT; rw [List.length_cons]; omega
theorem rawT_mem {g : Gram} (hm : Sm g) {t : Str} : t ∈ rawT g g ↔ t = eofS ∨ t ∈ terminalsF g := by
  unfold rawT rawB
  rw [List.mem_cons, List.mem_flatMap, termsF_mem]
  constructor
  · rintro (h | ⟨p, hp, h⟩)
    · exact .inl h
    · rw [List.mem_filter] at h
      exact .inr ⟨p, hp, h.1, by rw [hm.great_iff hp h.1]; simpa using h.2⟩
  · rintro (h | ⟨p, hp, h1, h2⟩)
    · exact .inl h
    · exact .inr ⟨p, hp, List.mem_filter.2 ⟨h1, by rw [← hm.great_iff hp h1, h2]; rfl⟩⟩
/-- The terminals, rising. -/
structure TrmOrd (g : Gram) (T : List Str) : Prop extends TrmOk g T where
  ord : T.Pairwise fun x y => ltOf cmpS x y = true
theorem TrmOrd.uniq {g : Gram} {T U : List Str} (h : TrmOrd g T) (k : TrmOrd g U) : T = U :=
  sorted_uniq (r := fun x y => ltOf cmpS x y = true) (fun x => by rw [swoS.irrefl x]; simp) (fun x y h1 h2 => by
    have := swoS.trans _ _ _ h1 h2
    rw [swoS.irrefl x] at this; cases this) h.ord k.ord fun x => by rw [h.mem, k.mem]
open Classical in
noncomputable def trmF (g : Gram) : List Str := if h : ∃ T, TrmOrd g T then Classical.choose h else []
theorem trmF_eq {g : Gram} {T : List Str} (h : TrmOrd g T) : T = trmF g := by
  unfold trmF
  rw [dif_pos ⟨T, h⟩]
  exact h.uniq (Classical.choose_spec (⟨T, h⟩ : ∃ T, TrmOrd g T))
theorem trmOrd_of {g : Gram} (hm : Sm g) {L : List Str} (hp : L.Perm (rawT g g)) (hs : L.Pairwise fun x y => ltOf cmpS y x = false) : TrmOrd g (Lib.compact L) := by
  have hmem : ∀ t, t ∈ L ↔ t = eofS ∨ t ∈ terminalsF g := fun t => hp.mem_iff.trans (rawT_mem hm)
  have htrm : ∀ t ∈ L, TrmS g t := fun t ht => by
    rcases (hmem t).1 ht with e | e
    · exact .inl e
    · exact .inr ((termsOk hm).sym t e)
  obtain ⟨c1, c2⟩ := compact_sorted swoS hs fun x hx y hy h1 h2 => (htrm x hx).inj (htrm y hy) (ord_totF ord_T _ _ h1 h2)
  refine ⟨⟨fun t => (c1 t).trans (hmem t), ?_⟩, c2⟩
  exact c2.imp fun {x y} h e => by subst e; rw [swoS.irrefl x] at h; cases h
end Go.Proofs.YtdejcdmgcckmoaaGreatDoor
namespace Go.Proofs.YtdejcdmgcckmoaaGreatDoor
open Go.RowKit Go.Sort Lr

set_option maxRecDepth 20000 in
set_option maxHeartbeats 1000000 in
theorem terms_any (v : Value) (g : Gram) (w : World) (h : GramAt w v g) (hm : Sm g) :
    Calls Tryz.prog 76 #[v] w fun e w' => ∃ v', e = .returned v' ∧ Strs w' w.heap.size v' (trmF g) ∧ TrmOk g (trmF g) ∧ New w w' := by
  have HH := Lib.hid h
  have hlen := hm.len
  obtain ⟨a, cap, rfl⟩ := h.slice
  have hraw : ∀ k j, (hk : k < g.length) → (rawT g (g.take k) ++ rawB g (g[k].2.take j)).length ≤ 60 := fun k j hk => by
    have h1 := rawT_len (g := g) (h := g.take k) (fun p hp => hm.body p (mem_take hp))
    have h2 := rawB_len g (g[k].2.take j)
    have h3 := hm.body _ (List.getElem_mem hk)
    simp at h1 h2 ⊢
    omega
  have HR := Lib.hid hraw
  clear h hraw
  go_enter Tryz.func76, Tryz.ntmps76
  go_wp2
  go_loopg [3, 11] g.length (fun gk u3 u11 wr => ∃ k : Nat, k ≤ g.length ∧ gk = g.length - k ∧ u11 = .int .i64 k ∧ Strs wr w.heap.size u3 (rawT g (g.take k)) ∧ New w wr)
  case atStart => exact ⟨0, Nat.zero_le _, rfl, rfl, ⟨rfl, .inr ⟨w.heap.size, 1, _, rfl, Nat.le_refl _, heap_alloc_new w _, by simp [rawT], by unfold maxLen; omega, by simp, by simp [rawT, eofS]⟩⟩, (New.refl w).alloc _⟩
  case round =>
    obtain ⟨k, hk, rfl, rfl, hown, hn⟩ := hrel
    by_cases hlt : k < g.length
    · obtain ⟨b, o, a', cap', e, h1, h2, h3⟩ := HH.out.elem hlt
      cases e
      have c1 := hn.cell h1
      have c2 := hn.cell h2
      have hT := Lib.hid (rawT_take (g := g) hlt)
      have hmem := List.getElem_mem hlt
      have hbl := hm.body _ hmem
      have hrk := Lib.hid (fun j => HR.out k j hlt)
      have H3 := Lib.hid h3
      clear h1 h2 h3 hmem
      go_wp2
      go_loopg [3, 18] g[k].2.length (fun gj u3 u18 wq => ∃ j : Nat, j ≤ g[k].2.length ∧ gj = g[k].2.length - j ∧ u18 = .int .i64 j ∧ Strs wq w.heap.size u3 (rawT g (g.take k) ++ rawB g (g[k].2.take j)) ∧ New w wq)
      case atStart => exact ⟨0, Nat.zero_le _, rfl, rfl, by simpa [rawB] using (hown.alloc _ : Strs _ _ _ _), hn.alloc _⟩
      case round =>
        obtain ⟨j, hj, rfl, rfl, hown, hn⟩ := hrel
        by_cases hjl : j < g[k].2.length
        · obtain ⟨b2, o2, e, h4⟩ := H3.out.elem hjl
          cases e
          have c3 := hn.cell h4
          have hS := Lib.hid (rawB_take (g := g) hjl)
          have hlen2 := hrk.out j
          have hsz : w.heap.size ≤ wr.heap.size := hn.size
          have hq := Lib.hid (implHead_any _ g g[k].2[j] wr (HH.out.new hn) (by omega))
          clear h4 c1 c2
          generalize hout : rawT g (g.take k) ++ rawB g (g[k].2.take j) = outl at *
          have Hout := Lib.hid hout
          have HO := Lib.hid (And.intro hown hn)
          clear hout hown hn
          cases hg : isHead g g[k].2[j] with
          | true =>
            rw [hg] at hq hS
            go_wp2_with (first | (go_at_call 56; refine hq.out.mono ?_; rintro e w' ⟨rfl, hn'⟩))
            go_roundg (g[k].2.length - (j + 1))
            case measure => omega
            case rel => exact ⟨j + 1, by omega, rfl, by go_num, by rw [hS.out, ← List.append_assoc, Hout.out]; simpa using ownsRow_new HO.out.1 hn', HO.out.2.trans hn'⟩
          | false =>
            rw [hg] at hq hS
            go_wp2_with (first | (go_at_call 56; refine hq.out.mono ?_; rintro e w' ⟨rfl, hn'⟩; have hsz' := hn'.size; have hown' := ownsRow_new HO.out.1 hn'; have hnW := HO.out.2.trans hn'; have HO2 := Lib.hid (And.intro hown' (And.intro hnW hn')); clear hown' hnW hn') | (at_builtin; go_must (refine wpList_push _ rfl _ _ _ _ rfl T24 w.heap.size _ _ _ rfl HO2.out.1 [_] rfl rfl _ _ rfl (by simp) (by omega) (by omega) (by omega) ?_)))
            intro v' w1 hown1 hgrow hne hat
            have hb1 : New w w1 := Below.push HO2.out.2.1 HO2.out.1 hgrow HO2.out.2.1.size
            have hown2 := Strs.push hown1
            clear hgrow hne hat
            go_wp2
            go_roundg (g[k].2.length - (j + 1))
            case measure => omega
            case rel => exact ⟨j + 1, by omega, rfl, by go_num, by rw [hS.out, ← List.append_assoc, Hout.out]; exact hown2, hb1⟩
        · have e := Lib.hid (List.take_of_length_le (l := g[k].2) (i := j) (by omega))
          rw [e.out, ← hT.out] at hown
          go_wp2
          go_roundg (g.length - (k + 1))
          case measure => omega
          case rel => exact ⟨k + 1, by omega, rfl, by go_num, hown, hn⟩
    · rw [List.take_of_length_le (by omega)] at hown
      have hl60 : (rawT g g).length ≤ 49 := by
        have := rawT_len (g := g) (h := g) (fun p hp => hm.body p hp)
        omega
      have h0 : 0 < (rawT g g).length := by simp [rawT]
      have hq := Lib.hid (SortTrm hown h0 (by omega))
      have HO := Lib.hid (And.intro hown hn)
      obtain ⟨a3, c3, eo⟩ := owns_slice hown
      subst eo
      clear hown hn
      go_wp2_with (go_at_call 116; refine hq.out.mono ?_; rintro e w2 ⟨rfl, l', hp, hs, hown2, hg2⟩)
      have hl2 : l'.length = (rawT g g).length := hp.length_eq
      have hq2 := Lib.hid (CompactTrm hown2 (by omega) (by omega))
      have hn2 : New w w2 := Below.push HO.out.2 HO.out.1 hg2 HO.out.2.size
      have HS := Lib.hid (And.intro (trmOrd_of hm hp hs) (And.intro hown2 hn2))
      clear hq hp hs hown2 hg2 hn2
      go_wp2_with (go_at_call 118; refine hq2.out.mono ?_; rintro e w3 ⟨v3, rfl, hown3, hg3⟩)
      have hn3 : New w w3 := Below.push HS.out.2.2 HS.out.2.1 hg3 HS.out.2.2.size
      have e := trmF_eq HS.out.1
      have HF := Lib.hid (And.intro hown3 hn3)
      obtain ⟨a4, c4, e4⟩ := owns_slice hown3
      subst e4
      clear hown3 hn3 hg3
      go_wp2
      go_ret
      have ht := HS.out.1.toTrmOk
      rw [e] at ht
      exact ⟨_, rfl, by rw [← e]; exact HF.out.1, ht, HF.out.2⟩
end Go.Proofs.YtdejcdmgcckmoaaGreatDoor
