/- Orders of items and edges; the reference's collection and closing, over plain lists. -/
import Derived.Shelf.GgSortFunc.InsertionK
import Derived.Sort.OwnSorted
import Derived.Sort.Statements
import Derived.Test.YtdejcdmgcckmoaaGreatDoorYA
namespace Go
open Go.Sort Go.Proofs

/-! Rows of structs that the call owns, sorted by the library (what the sort's contract asks, and what it leaves). -/
section
variable {α : Type}
theorem holds_id_of {w : World} {g : Nat} {cur : Array Value} {e : TypeId} {xs : Array Value} (hb : w.heap[g]? = some (.cells cur e (0, 0))) (ht : cur.toList.take xs.size = xs.toList) : Holds id w g 0 xs := by
  intro j hj
  refine ⟨?_, by simp [World.frozen?, hb]⟩
  have h1 : (cur.toList.take xs.size)[j]? = xs.toList[j]? := by rw [ht]
  rw [List.getElem?_take_of_lt hj] at h1
  simp only [World.cell?, hb, Nat.zero_add]
  simp only [Option.isSome_none, Bool.false_eq_true, if_false]
  rw [← Array.getElem?_toList, h1]
  simp [hj]
theorem heap_sorted_id {w : World} {g n : Nat} {os : Array Obj} {cur : Array Value} {e : TypeId} {fr : Nat × Nat} (d : Array Value) (hb : w.heap[g]? = some (.cells cur e fr)) :
    (grow (putRow id (Sort.ahead w n) g 0 d) os).heap[g]? = some (.cells (putCells id 0 d cur) e fr) := by
  have hg : g < w.heap.size := (Array.getElem?_eq_some_iff.1 hb).1
  rw [heap_grow_old _ _ (by simpa using hg)]
  simp [putRow, mapBlock, Sort.ahead, Array.getElem?_modify, hb, onCells]
theorem grownBy_sorted_id {w : World} {g n : Nat} {os : Array Obj} (d : Array Value) : w.grownBy (grow (putRow id (Sort.ahead w n) g 0 d) os) (some g) := by
  refine ⟨rfl, rfl, rfl, by simp, fun k hk hne => ?_⟩
  rw [heap_grow_old _ _ (by simpa using hk)]
  have : g ≠ k := fun e => hne (by rw [e])
  simp [putRow, mapBlock, Sort.ahead, Array.getElem?_modify, this]
theorem take_putCells_id (cur : Array Value) (d : Array Value) (h : d.size ≤ cur.size) : (putCells id 0 d cur).toList.take d.size = d.toList := by
  apply List.ext_getElem?
  intro j
  by_cases hj : j < d.size
  · rw [List.getElem?_take_of_lt hj, Array.getElem?_toList]
    simp [putCells, hj, show j < cur.size by omega]
  · rw [List.getElem?_take_eq_none (by omega), List.getElem?_eq_none (by simp; omega)]
theorem flatMap_const {enc : α → List Value} {k : Nat} (hk : ∀ x, (enc x).length = k) : ∀ L : List α, (L.flatMap enc).length = L.length * k
  | [] => by simp
  | x :: L => by rw [List.flatMap_cons, List.length_append, hk, flatMap_const hk L, List.length_cons, Nat.add_mul, Nat.one_mul, Nat.add_comm]
theorem flatMap_get {enc : α → List Value} {k : Nat} (hk : ∀ x, (enc x).length = k) : ∀ (L : List α) (j c : Nat), (hj : j < L.length) → c < k → (L.flatMap enc)[j * k + c]? = (enc L[j])[c]?
  | [], j, c, hj, _ => by simp at hj
  | x :: L, 0, c, _, hc => by
    rw [List.flatMap_cons, Nat.zero_mul, Nat.zero_add, List.getElem?_append_left (by rw [hk]; exact hc)]; rfl
  | x :: L, j + 1, c, hj, hc => by
    have hj' : j < L.length := by simpa using hj
    have e : (j + 1) * k + c - (enc x).length = j * k + c := by rw [hk, Nat.add_mul, Nat.one_mul]; omega
    rw [List.flatMap_cons, List.getElem?_append_right (by rw [hk, Nat.add_mul, Nat.one_mul]; omega), e, flatMap_get hk L j c hj' hc]
    rfl
variable [Inhabited α]
theorem flatK_list {enc : α → List Value} {k : Nat} (hk : ∀ x, (enc x).length = k) (L : List α) : flatK enc k L.toArray = (L.flatMap enc).toArray := by
  have hs : (flatK enc k L.toArray).size = ((L.flatMap enc).toArray).size := by rw [size_flatK]; simp [flatMap_const hk]
  refine ext_get! hs fun t ht => ?_
  have ht' : t < L.length * k := by simpa [size_flatK] using ht
  have k0 : 0 < k := by
    rcases Nat.eq_zero_or_pos k with h | h
    · subst h; simp at ht'
    · exact h
  have hj : t / k < L.length := by rw [Nat.div_lt_iff_lt_mul k0]; exact ht'
  have hc : t % k < k := Nat.mod_lt _ k0
  have hg := flatMap_get hk L (t / k) (t % k) hj hc
  rw [Nat.div_add_mod' t k] at hg
  rw [get_flatK _ _ _ _ (by simpa using ht')]
  have e2 : (L.flatMap enc).toArray[t]! = ((L.flatMap enc)[t]?).getD default := by
    rw [getElem!_def]
    simp only [List.getElem?_toArray]
    cases (L.flatMap enc)[t]? <;> rfl
  rw [e2, hg]
  simp [hj]

/-- What the sort's contract asks of a row of the call's own. -/
theorem holdsK_of_own {w : World} {base g cap n : Nat} {e : TypeId} {enc : α → List Value} {k : Nat} (hk : ∀ x, (enc x).length = k) {L : List α} (h : w.ownsRow base e k (.slice (some ⟨g, 0, none⟩) n cap) L.length (L.flatMap enc)) : HoldsK enc k w g 0 L.toArray := by
  rcases h.2 with ⟨h1, _⟩ | ⟨g', cap', cur, e1, hb, hg, h1, h2, h3, h4⟩
  · cases h1
  · cases e1
    unfold HoldsK
    rw [flatK_list hk]
    exact holds_id_of hg (by simp [flatMap_const hk, h4])
/-- What it leaves: the same slice owns the sorted row; nothing else has turned. -/
theorem ownsRow_sortedK {w : World} {base g cap m : Nat} {e : TypeId} {os : Array Obj} {enc : α → List Value} {k : Nat} (hk : ∀ x, (enc x).length = k) {L L' : List α} (hl : L'.length = L.length)
    (h : w.ownsRow base e k (.slice (some ⟨g, 0, none⟩) L.length cap) L.length (L.flatMap enc)) :
    (sortWorldK enc k w g 0 m L'.toArray os).ownsRow base e k (.slice (some ⟨g, 0, none⟩) L.length cap) L.length (L'.flatMap enc) ∧ w.grownBy (sortWorldK enc k w g 0 m L'.toArray os) (some g) := by
  unfold sortWorldK putRowK
  refine ⟨?_, grownBy_sorted_id _⟩
  rcases h.2 with ⟨h1, _⟩ | ⟨g', cap', cur, e1, hb, hg, h1, h2, h3, h4⟩
  · cases h1
  · cases e1
    have hsz : (L'.flatMap enc).length = L.length * k := by rw [flatMap_const hk, hl]
    refine ⟨hsz, .inr ⟨g, cap, _, rfl, hb, heap_sorted_id _ hg, h1, h2, by simp [putCells, h3], ?_⟩⟩
    rw [flatK_list hk]
    have := take_putCells_id cur (L'.flatMap enc).toArray (by simp only [List.size_toArray, hsz, h3]; exact Nat.mul_le_mul_right _ h1)
    simpa [hsz] using this
end

/-- A strict total order is what the sort asks. -/
theorem swo_of_total {α : Type} {lt : α → α → Bool} (irr : ∀ x, lt x x = false) (tr : ∀ x y z, lt x y = true → lt y z = true → lt x z = true) (tot : ∀ x y, lt x y = false → lt y x = false → x = y) : SWO lt where
  irrefl := irr
  trans := tr
  ntrans x y z h1 h2 := by
    cases h : lt x z with
    | false => rfl
    | true =>
      cases h3 : lt y x with
      | true => exact absurd (tr _ _ _ h3 h) (by rw [h2]; simp)
      | false => rw [tot x y h1 h3] at h; rw [h2] at h; cases h
/-- What the sort gives, as lists. -/
theorem sorted_list {α : Type} [Inhabited α] {lt : α → α → Bool} (tot : ∀ x y, lt x y = false → lt y x = false → x = y) {L : List α} {d' : Array α} (hp : PermIn 0 L.toArray.size L.toArray d') (hs : SortedIn lt 0 L.toArray.size d') (hn : L.Nodup) :
    ∃ L' : List α, d' = L'.toArray ∧ L'.Perm L ∧ L'.Pairwise fun x y => lt x y = true := by
  obtain ⟨h1, _, h3⟩ := hp
  have e1 : (d'.extract 0 L.toArray.size).toList = d'.toList := by rw [← h1]; simp
  have e2 : (L.toArray.extract 0 L.toArray.size).toList = L := by simp
  rw [e1, e2] at h3
  refine ⟨d'.toList, by simp, h3, ?_⟩
  have hn' : d'.toList.Nodup := h3.nodup_iff.2 hn
  rw [List.pairwise_iff_getElem]
  intro i j hi hj hij
  simp only [Array.length_toList] at hi hj
  have := hs i j (Nat.zero_le _) hij (by rw [← h1]; exact hj)
  rw [getElem!_pos d' j hj, getElem!_pos d' i hi] at this
  cases h : lt d'.toList[i] d'.toList[j] with
  | true => rfl
  | false =>
    have e := tot _ _ h (by simpa using this)
    exact absurd ((List.getElem_inj hn').1 e) (by omega)
end Go
namespace Lr

def prodI : Option Nat → Int
  | none => -1
  | some n => n
theorem prodI_inj {a b : Option Nat} (h : prodI a = prodI b) : a = b := by
  cases a <;> cases b <;> simp [prodI] at h ⊢ <;> omega
def cmpZ (x y : Int) : Int := if x < y then -1 else if y < x then 1 else 0
def cmpT (x y : Str) : Int := if x < y then -1 else if y < x then 1 else 0
def orI (a b c : Int) : Int := if a ≠ 0 then a else if b ≠ 0 then b else c

/-- A comparison that is a strict total order. -/
structure Ord3 {α : Type} (c : α → α → Int) : Prop where
  anti : ∀ x y, c y x = - c x y
  trans : ∀ x y z, c x y < 0 → c y z < 0 → c x z < 0
  zero : ∀ x y, c x y = 0 ↔ x = y
theorem ord_Z : Ord3 cmpZ where
  anti x y := by unfold cmpZ; split <;> split <;> (try split) <;> omega
  trans x y z := by unfold cmpZ; repeat' split
                    all_goals omega
  zero x y := by unfold cmpZ; split <;> (try split) <;> omega
theorem lt_of_not {x y : Str} (h1 : ¬ x < y) (h2 : ¬ y < x) : x = y := by
  have a : y ≤ x := List.not_lt.1 h1
  have b : x ≤ y := List.not_lt.1 h2
  exact List.le_antisymm b a
theorem ord_T : Ord3 cmpT where
  anti x y := by
    unfold cmpT
    by_cases h1 : x < y
    · rw [if_pos h1, if_neg (List.lt_asymm h1), if_pos h1]; rfl
    · by_cases h2 : y < x
      · rw [if_pos h2, if_neg h1, if_pos h2]
      · rw [if_neg h1, if_neg h2, if_neg h2, if_neg h1]; rfl
  trans x y z h1 h2 := by
    have key : ∀ a b : Str, cmpT a b < 0 → a < b := fun a b h => by
      unfold cmpT at h
      by_cases h3 : a < b
      · exact h3
      · rw [if_neg h3] at h; split at h <;> omega
    have h := List.lt_trans (key _ _ h1) (key _ _ h2)
    unfold cmpT
    rw [if_pos h]; omega
  zero x y := by
    constructor
    · intro h
      unfold cmpT at h
      by_cases h1 : x < y
      · rw [if_pos h1] at h; omega
      · by_cases h2 : y < x
        · rw [if_neg h1, if_pos h2] at h; omega
        · exact lt_of_not h1 h2
    · intro h; subst h; unfold cmpT
      rw [if_neg (List.lt_irrefl x), if_neg (List.lt_irrefl x)]
theorem Ord3.or {α β γ δ : Type} {c1 : β → β → Int} {c2 : γ → γ → Int} {c3 : δ → δ → Int} (h1 : Ord3 c1) (h2 : Ord3 c2) (h3 : Ord3 c3) (f1 : α → β) (f2 : α → γ) (f3 : α → δ)
    (inj : ∀ x y, f1 x = f1 y → f2 x = f2 y → f3 x = f3 y → x = y) : Ord3 fun x y => orI (c1 (f1 x) (f1 y)) (c2 (f2 x) (f2 y)) (c3 (f3 x) (f3 y)) where
  anti x y := by
    simp only [orI, h1.anti (f1 x), h2.anti (f2 x), h3.anti (f3 x)]
    repeat' split
    all_goals omega
  trans x y z := by
    have t1 := h1.trans (f1 x) (f1 y) (f1 z)
    have t2 := h2.trans (f2 x) (f2 y) (f2 z)
    have t3 := h3.trans (f3 x) (f3 y) (f3 z)
    have a1 : c1 (f1 x) (f1 y) = 0 → c1 (f1 x) (f1 z) = c1 (f1 y) (f1 z) := fun h => by rw [(h1.zero _ _).1 h]
    have a2 : c2 (f2 x) (f2 y) = 0 → c2 (f2 x) (f2 z) = c2 (f2 y) (f2 z) := fun h => by rw [(h2.zero _ _).1 h]
    have b1 : c1 (f1 y) (f1 z) = 0 → c1 (f1 x) (f1 z) = c1 (f1 x) (f1 y) := fun h => by rw [(h1.zero _ _).1 h]
    have b2 : c2 (f2 y) (f2 z) = 0 → c2 (f2 x) (f2 z) = c2 (f2 x) (f2 y) := fun h => by rw [(h2.zero _ _).1 h]
    simp only [orI]
    generalize c1 (f1 x) (f1 y) = p1 at *
    generalize c1 (f1 y) (f1 z) = p2 at *
    generalize c1 (f1 x) (f1 z) = p3 at *
    generalize c2 (f2 x) (f2 y) = q1 at *
    generalize c2 (f2 y) (f2 z) = q2 at *
    generalize c2 (f2 x) (f2 z) = q3 at *
    generalize c3 (f3 x) (f3 y) = r1 at *
    generalize c3 (f3 y) (f3 z) = r2 at *
    generalize c3 (f3 x) (f3 z) = r3 at *
    intro g1 g2
    by_cases e1 : p1 = 0 <;> by_cases e2 : p2 = 0 <;> by_cases e3 : q1 = 0 <;> by_cases e4 : q2 = 0 <;> simp_all <;> omega
  zero x y := by
    constructor
    · intro h
      simp only [orI] at h
      by_cases e1 : c1 (f1 x) (f1 y) = 0
      · by_cases e2 : c2 (f2 x) (f2 y) = 0
        · simp only [e1, e2, ne_eq, not_true_eq_false, if_false] at h
          exact inj x y ((h1.zero _ _).1 e1) ((h2.zero _ _).1 e2) ((h3.zero _ _).1 h)
        · simp [e1, e2] at h
      · simp [e1] at h
    · intro h; subst h
      simp [orI, (h1.zero _ _).2 rfl, (h2.zero _ _).2 rfl, (h3.zero _ _).2 rfl]
section
variable {α : Type} {c : α → α → Int}
theorem Ord3.irr (h : Ord3 c) (x : α) : ¬ c x x < 0 := by rw [(h.zero x x).2 rfl]; omega
theorem Ord3.asy (h : Ord3 c) (x y : α) (k : c x y < 0) : ¬ c y x < 0 := by rw [h.anti]; omega
theorem Ord3.tot (h : Ord3 c) (x y : α) (h1 : ¬ c x y < 0) (h2 : ¬ c y x < 0) : x = y := by
  rw [h.anti] at h2
  exact (h.zero x y).1 (by omega)
end

def cmpItm (x y : Itm) : Int := orI (cmpZ (prodI x.prod) (prodI y.prod)) (cmpZ (x.dot : Int) (y.dot : Int)) (cmpT x.look y.look)
theorem ord_itm : Ord3 cmpItm :=
  ord_Z.or ord_Z ord_T (fun x : Itm => prodI x.prod) (fun x => (x.dot : Int)) (fun x => x.look) fun x y h1 h2 h3 => by
    obtain ⟨a, b, c⟩ := x
    obtain ⟨a', b', c'⟩ := y
    have := prodI_inj h1
    simp only [Int.natCast_inj] at h2
    simp_all
def cmpEdg (x y : Edg) : Int := orI (cmpZ (x.1 : Int) (y.1 : Int)) (cmpT x.2.1 y.2.1) (cmpZ (x.2.2 : Int) (y.2.2 : Int))
theorem ord_edg : Ord3 cmpEdg :=
  ord_Z.or ord_T ord_Z (fun x : Edg => (x.1 : Int)) (fun x => x.2.1) (fun x => (x.2.2 : Int)) fun x y h1 h2 h3 => by
    obtain ⟨a, b, c⟩ := x
    obtain ⟨a', b', c'⟩ := y
    simp only [Int.natCast_inj] at h1 h3
    simp_all
/-- The reference's own comparison of items. -/
def lessI (x y : Itm) : Int := if prodI x.prod ≠ prodI y.prod then prodI x.prod - prodI y.prod else if (x.dot : Int) ≠ y.dot then (x.dot : Int) - y.dot else if x.look < y.look then -1 else if y.look < x.look then 1 else 0
theorem less_iff (x y : Itm) : lessI x y < 0 ↔ cmpItm x y < 0 := by
  unfold lessI cmpItm orI
  have hz : ∀ a b : Int, (cmpZ a b < 0 ↔ a < b) ∧ (cmpZ a b = 0 ↔ a = b) := fun a b => by unfold cmpZ; constructor <;> (split <;> (try split) <;> omega)
  by_cases h1 : prodI x.prod = prodI y.prod
  · have e1 := (hz (prodI x.prod) (prodI y.prod)).2.2 h1
    simp only [h1, ne_eq, not_true_eq_false, if_false]
    rw [h1] at e1
    simp only [e1, not_true_eq_false, if_false]
    by_cases h2 : (x.dot : Int) = y.dot
    · have e2 := (hz (x.dot : Int) y.dot).2.2 h2
      simp only [h2, not_true_eq_false, if_false]
      rw [h2] at e2
      simp only [e2, not_true_eq_false, if_false]
      rfl
    · have e2 : ¬ cmpZ (x.dot : Int) y.dot = 0 := fun e => h2 ((hz _ _).2.1 e)
      rw [if_pos h2, if_pos e2, (hz _ _).1]
      omega
  · have e1 : ¬ cmpZ (prodI x.prod) (prodI y.prod) = 0 := fun e => h1 ((hz _ _).2.1 e)
    rw [if_pos h1, if_pos e1, (hz _ _).1]
    omega
end Lr
namespace Lr

/-- The edges of the first k states (all, or those by nonterminals). -/
structure EdIn (g : Gram) (Γ : List (List Str)) (hd : Bool) (k : Nat) (E : List Edg) : Prop where
  nodup : E.Nodup
  mem : ∀ x : Edg, x ∈ E ↔ x.1 < k ∧ EdgeC g Γ x.1 x.2.1 x.2.2 ∧ (hd = true → isHead g x.2.1 = true)
/-- The same, in the midst of a state; L: what is still to come. -/
structure EdMid (g : Gram) (Γ : List (List Str)) (hd : Bool) (k : Nat) (L : Str → Bool) (E : List Edg) : Prop where
  nodup : E.Nodup
  mem : ∀ x : Edg, x ∈ E ↔ (x.1 < k ∨ (x.1 = k ∧ L x.2.1 = false)) ∧ EdgeC g Γ x.1 x.2.1 x.2.2 ∧ (hd = true → isHead g x.2.1 = true)
section
variable {g : Gram} {Γ : List (List Str)} {hd : Bool} {k : Nat} {L : Str → Bool} {E : List Edg}
theorem EdIn.init : EdIn g Γ hd 0 [] := ⟨by simp, fun x => by simp⟩
theorem EdIn.mid (h : EdIn g Γ hd k E) (hL : ∀ X j, EdgeC g Γ k X j → L X = true) : EdMid g Γ hd k L E := by
  refine ⟨h.nodup, fun x => ?_⟩
  rw [h.mem]
  constructor
  · rintro ⟨h1, h2⟩; exact ⟨.inl h1, h2⟩
  · rintro ⟨h1 | ⟨h1, h3⟩, h2⟩
    · exact ⟨h1, h2⟩
    · exfalso
      have := hL x.2.1 x.2.2 (h1 ▸ h2.1)
      rw [h3] at this; cases this
theorem EdMid.end (h : EdMid g Γ hd k L E) (hL : ∀ X, L X = false) : EdIn g Γ hd (k + 1) E := by
  refine ⟨h.nodup, fun x => ?_⟩
  rw [h.mem]
  constructor
  · rintro ⟨h1 | ⟨h1, _⟩, h2⟩
    · exact ⟨by omega, h2⟩
    · exact ⟨by omega, h2⟩
  · rintro ⟨h1, h2⟩
    refine ⟨?_, h2⟩
    by_cases e : x.1 = k
    · exact .inr ⟨e, hL _⟩
    · exact .inl (by omega)
theorem EdMid.add (hΓ : GamOk g Γ) (h : EdMid g Γ hd k L E) {X : Str} {j : Nat} (hX : L X = true) (he : EdgeC g Γ k X j) (hh : hd = true → isHead g X = true) : EdMid g Γ hd k (fun t => L t && !decide (t = X)) (E ++ [(k, X, j)]) := by
  refine ⟨?_, fun x => ?_⟩
  · rw [List.nodup_append]
    refine ⟨h.nodup, by simp, ?_⟩
    intro a ha b hb e
    simp at hb
    subst hb; subst e
    obtain ⟨h1 | ⟨_, h1⟩, _⟩ := (h.mem _).1 ha
    · simp at h1
    · simp [hX] at h1
  · rw [List.mem_append, h.mem, List.mem_singleton]
    constructor
    · rintro (⟨h1 | ⟨h1, h3⟩, h2⟩ | rfl)
      · exact ⟨.inl h1, h2⟩
      · exact ⟨.inr ⟨h1, by simp [h3]⟩, h2⟩
      · exact ⟨.inr ⟨rfl, by simp⟩, he, hh⟩
    · rintro ⟨h1 | ⟨h1, h3⟩, h2⟩
      · exact .inl ⟨.inl h1, h2⟩
      · by_cases e : x.2.1 = X
        · right
          obtain ⟨a, b, c⟩ := x
          simp only at h1 e h2
          subst h1; subst e
          rw [EdgeC.uniq hΓ h2.1 he]
        · exact .inl ⟨.inr ⟨h1, by simpa [e] using h3⟩, h2⟩
/-- A way on that is not asked for. -/
theorem EdMid.skip (h : EdMid g Γ hd k L E) {X : Str} (hh : ¬ ((∃ j, EdgeC g Γ k X j) ∧ (hd = true → isHead g X = true))) : EdMid g Γ hd k (fun t => L t && !decide (t = X)) E := by
  refine ⟨h.nodup, fun x => ?_⟩
  rw [h.mem]
  constructor
  · rintro ⟨h1 | ⟨h1, h3⟩, h2⟩
    · exact ⟨.inl h1, h2⟩
    · exact ⟨.inr ⟨h1, by simp [h3]⟩, h2⟩
  · rintro ⟨h1 | ⟨h1, h3⟩, h2⟩
    · exact ⟨.inl h1, h2⟩
    · by_cases e : x.2.1 = X
      · exact absurd ⟨⟨x.2.2, by rw [← h1, ← e]; exact h2.1⟩, by rw [← e]; exact h2.2⟩ hh
      · exact ⟨.inr ⟨h1, by simpa [e] using h3⟩, h2⟩
end
end Lr
namespace Lr

/-! The reference's states: collections by sorted symbols, told with their items and edges. -/
section
variable {g : Gram}
/-- The states that have come up: the items of each, and the edges of the first i ones, of the i-th by the symbols of D. -/
structure RefS (g : Gram) (Γ : List (List Str)) (i : Nat) (D : List Str) (St : List (List Itm)) (E : List Edg) : Prop where
  gam : GamOk g Γ
  len : St.length = Γ.length
  items : ∀ (k : Nat) (γ : List Str) (l : List Itm), Γ[k]? = some γ → St[k]? = some l → l.Nodup ∧ (∀ x, x ∈ l ↔ Vld g γ x) ∧ l.Pairwise fun x y => cmpItm x y < 0
  nodup : E.Nodup
  mem : ∀ x : Edg, x ∈ E ↔ (x.1 < i ∨ (x.1 = i ∧ x.2.1 ∈ D)) ∧ EdgeC g Γ x.1 x.2.1 x.2.2
  done : ∀ k X γ, (k < i ∨ (k = i ∧ X ∈ D)) → Γ[k]? = some γ → Live g (γ ++ [X]) → ∃ j, EdgeC g Γ k X j
variable {Γ : List (List Str)} {i : Nat} {D : List Str} {St : List (List Itm)} {E : List Edg}
/-- Two states have the same row of items just where they are the same. -/
theorem RefS.same {γ γ' : List Str} {l m : List Itm} (h1 : ∀ x, x ∈ l ↔ Vld g γ x) (h2 : ∀ x, x ∈ m ↔ Vld g γ' x) (p1 : l.Pairwise fun x y => cmpItm x y < 0) (p2 : m.Pairwise fun x y => cmpItm x y < 0) : l = m ↔ Same g γ γ' := by
  constructor
  · rintro rfl x
    rw [← h1, ← h2]
  · intro h
    exact sorted_uniq (r := fun x y => cmpItm x y < 0) ord_itm.irr ord_itm.asy p1 p2 fun x => by rw [h1, h2]; exact h x
theorem RefS.dead (h : RefS g Γ i D St E) {γ : List Str} (hγ : Γ[i]? = some γ) {X : Str} (hX : ¬ Live g (γ ++ [X])) : RefS g Γ i (D ++ [X]) St E := by
  refine ⟨h.gam, h.len, h.items, h.nodup, fun x => ?_, fun k Y δ hk hδ hl => ?_⟩
  · rw [h.mem]
    constructor
    · rintro ⟨h1 | ⟨h1, h3⟩, h2⟩
      · exact ⟨.inl h1, h2⟩
      · exact ⟨.inr ⟨h1, List.mem_append.2 (.inl h3)⟩, h2⟩
    · rintro ⟨h1 | ⟨h1, h3⟩, h2⟩
      · exact ⟨.inl h1, h2⟩
      · rcases List.mem_append.1 h3 with h3 | h3
        · exact ⟨.inr ⟨h1, h3⟩, h2⟩
        · exfalso
          simp at h3
          obtain ⟨a, b, ha, _, hl, _⟩ := h2
          rw [h1, hγ] at ha
          cases ha
          rw [h3] at hl
          exact hX hl
  · rcases hk with hk | ⟨rfl, hk⟩
    · exact h.done k Y δ (.inl hk) hδ hl
    · rcases List.mem_append.1 hk with hk | hk
      · exact h.done k Y δ (.inr ⟨rfl, hk⟩) hδ hl
      · simp at hk; subst hk
        rw [hγ] at hδ; cases hδ
        exact absurd hl hX
/-- An edge to a state that is there. -/
theorem RefS.old (h : RefS g Γ i D St E) {X : Str} (hn : X ∉ D) {j : Nat} (he : EdgeC g Γ i X j) : RefS g Γ i (D ++ [X]) St (E ++ [(i, X, j)]) := by
  refine ⟨h.gam, h.len, h.items, ?_, fun x => ?_, fun k Y δ hk hδ hl => ?_⟩
  · rw [List.nodup_append]
    refine ⟨h.nodup, by simp, ?_⟩
    intro a ha b hb e
    simp at hb
    subst hb; subst e
    obtain ⟨h1 | ⟨_, h1⟩, _⟩ := (h.mem _).1 ha
    · simp at h1
    · exact hn h1
  · rw [List.mem_append, h.mem, List.mem_singleton]
    constructor
    · rintro (⟨h1 | ⟨h1, h3⟩, h2⟩ | rfl)
      · exact ⟨.inl h1, h2⟩
      · exact ⟨.inr ⟨h1, List.mem_append.2 (.inl h3)⟩, h2⟩
      · exact ⟨.inr ⟨rfl, by simp⟩, he⟩
    · rintro ⟨h1 | ⟨h1, h3⟩, h2⟩
      · exact .inl ⟨.inl h1, h2⟩
      · by_cases e : x.2.1 = X
        · right
          obtain ⟨a, b, c⟩ := x
          simp only at h1 e h2
          subst h1; subst e
          rw [EdgeC.uniq h.gam h2 he]
        · left
          rcases List.mem_append.1 h3 with h3 | h3
          · exact ⟨.inr ⟨h1, h3⟩, h2⟩
          · simp at h3; exact absurd h3 e
  · rcases hk with hk | ⟨rfl, hk⟩
    · exact h.done k Y δ (.inl hk) hδ hl
    · rcases List.mem_append.1 hk with hk | hk
      · exact h.done k Y δ (.inr ⟨rfl, hk⟩) hδ hl
      · simp at hk; subst hk
        exact ⟨j, he⟩
theorem edge_ext {L : List (List Str)} (hΓ : GamOk g (Γ ++ L)) {k j : Nat} {X : Str} (hex : ∃ j', EdgeC g Γ k X j') : EdgeC g (Γ ++ L) k X j ↔ EdgeC g Γ k X j := by
  have up : ∀ {j}, EdgeC g Γ k X j → EdgeC g (Γ ++ L) k X j := fun {j} h => by
    obtain ⟨a, b, h1, h2, h3⟩ := h
    exact ⟨a, b, by rw [List.getElem?_append_left (List.getElem?_eq_some_iff.1 h1).1]; exact h1, by rw [List.getElem?_append_left (List.getElem?_eq_some_iff.1 h2).1]; exact h2, h3⟩
  constructor
  · intro h
    obtain ⟨j', hj'⟩ := hex
    rw [EdgeC.uniq hΓ h (up hj')]
    exact hj'
  · exact up
/-- A state that is new. -/
theorem RefS.grow (h : RefS g Γ i D St E) {γ : List Str} (hΓ : GamOk g (Γ ++ [γ])) {l : List Itm} (hl : l.Nodup ∧ (∀ x, x ∈ l ↔ Vld g γ x) ∧ l.Pairwise fun x y => cmpItm x y < 0) (hi : i < Γ.length) :
    RefS g (Γ ++ [γ]) i D (St ++ [l]) E := by
  refine ⟨hΓ, by simp [h.len], fun k δ m hδ hm => ?_, h.nodup, fun x => ?_, fun k Y δ hk hδ hlv => ?_⟩
  · rcases getElem?_snoc hδ with hδ | ⟨rfl, rfl⟩
    · rw [List.getElem?_append_left (by rw [h.len]; exact (List.getElem?_eq_some_iff.1 hδ).1)] at hm
      exact h.items k δ m hδ hm
    · rw [← h.len, List.getElem?_append_right (Nat.le_refl _), Nat.sub_self] at hm
      cases hm
      exact hl
  · rw [h.mem]
    constructor
    · rintro ⟨h1, h2⟩; exact ⟨h1, (edge_ext hΓ ⟨_, h2⟩).2 h2⟩
    · rintro ⟨h1, h2⟩
      refine ⟨h1, (edge_ext hΓ ?_).1 h2⟩
      obtain ⟨a, b, ha, _, hlv, _⟩ := h2
      have hk : x.1 < Γ.length := by rcases h1 with h1 | ⟨h1, _⟩ <;> omega
      rw [List.getElem?_append_left hk] at ha
      exact h.done x.1 x.2.1 a h1 ha hlv
  · have hkl : k < Γ.length := by rcases hk with hk | ⟨hk, _⟩ <;> omega
    rw [List.getElem?_append_left hkl] at hδ
    obtain ⟨j, hj⟩ := h.done k Y δ hk hδ hlv
    exact ⟨j, (edge_ext hΓ ⟨j, hj⟩).2 hj⟩
/-- All symbols have been tried: on to the next state. -/
theorem RefS.next (h : RefS g Γ i D St E) (hD : ∀ X, SymIn g X → X ∈ D) : RefS g Γ (i + 1) [] St E := by
  refine ⟨h.gam, h.len, h.items, h.nodup, fun x => ?_, fun k Y δ hk hδ hl => ?_⟩
  · rw [h.mem]
    constructor
    · rintro ⟨h1 | ⟨h1, _⟩, h2⟩
      · exact ⟨.inl (by omega), h2⟩
      · exact ⟨.inl (by omega), h2⟩
    · rintro ⟨h1 | ⟨_, h1⟩, h2⟩
      · refine ⟨?_, h2⟩
        by_cases e : x.1 = i
        · obtain ⟨a, b, _, _, hl, _⟩ := h2
          exact .inr ⟨e, hD _ hl.sym⟩
        · exact .inl (by omega)
      · cases h1
  · rcases hk with hk | ⟨_, hk⟩
    · by_cases e : k = i
      · exact h.done k Y δ (.inr ⟨e, hD _ hl.sym⟩) hδ hl
      · exact h.done k Y δ (.inl (by omega)) hδ hl
    · cases hk
theorem RefS.init {l : List Itm} (hl : l.Nodup ∧ (∀ x, x ∈ l ↔ Vld g [] x) ∧ l.Pairwise fun x y => cmpItm x y < 0) : RefS g [[]] 0 [] [l] [] := by
  refine ⟨.init, rfl, fun k γ m h1 h2 => ?_, by simp, fun x => ?_, fun k X γ hk => ?_⟩
  · have e : k = 0 := by have := (List.getElem?_eq_some_iff.1 h1).1; simp at this; exact this
    subst e
    simp at h1 h2
    subst h1; subst h2
    exact hl
  · simp
  · rcases hk with hk | ⟨_, hk⟩
    · omega
    · cases hk
/-- All states are done. -/
theorem RefS.full (h : RefS g Γ i D St E) (hi : Γ.length ≤ i) : Full g Γ := by
  refine ⟨h.gam, fun γ => ?_⟩
  have main : ∀ (n : Nat) (γ : List Str), γ.length = n → Live g γ → ∃ γ' ∈ Γ, Same g γ' γ := by
    intro n
    induction n with
    | zero =>
      intro γ hn _
      have : γ = [] := List.eq_nil_of_length_eq_zero hn
      subst this
      exact ⟨[], List.mem_of_getElem? h.gam.zero, Same.refl _⟩
    | succ n ih =>
      intro γ hn hl
      have hne : γ ≠ [] := by intro e; rw [e] at hn; simp at hn
      have hd := (List.dropLast_concat_getLast hne).symm
      rw [hd] at hl ⊢
      obtain ⟨γ', h1, h2⟩ := ih γ.dropLast (by simp [hn]) hl.prev
      obtain ⟨k, hk⟩ := List.getElem?_of_mem h1
      have hl' : Live g (γ' ++ [γ.getLast hne]) := hl.same (h2.symm.snoc _)
      obtain ⟨j, a, b, ha, hb, _, hs⟩ := h.done k _ γ' (.inl (by have := (List.getElem?_eq_some_iff.1 hk).1; omega)) hk hl'
      rw [hk] at ha
      cases ha
      exact ⟨b, List.mem_of_getElem? hb, hs.trans (h2.snoc _)⟩
  exact main _ γ rfl
theorem RefS.told (h : RefS g Γ i [] St E) (hi : Γ.length ≤ i) : Told g Γ St E := by
  refine ⟨h.full hi, h.len, fun k γ l h1 h2 => (h.items k γ l h1 h2).2.1, fun x => ?_, h.nodup⟩
  rw [h.mem]
  constructor
  · exact fun h => h.2
  · intro h
    exact ⟨.inl (by have := h.lt.1; omega), h⟩
theorem RefS.few (h : RefS g Γ i D St E) (hi : Γ.length ≤ i) {N : Nat} (hN : Γ.length ≤ N) : Few g N := ⟨Γ, hN, (h.full hi).all⟩
end
end Lr
namespace Lr

/-! Closing an item's successors, one look-ahead and one production after another (the reference's own closing). -/
section
variable {g : Gram} {γ : List Str} {base out : List Itm} {k : Nat}
/-- The k-th item is being gone through: R: its look-aheads; j of them are done, and of the next one n productions. -/
structure ClsJ (g : Gram) (γ : List Str) (base out : List Itm) (k : Nat) (i : Itm) (B : Str) (R : List Str) (j n : Nat) : Prop where
  cls : ClsIn g γ base out k
  at_ : out[k]? = some i
  done : ∀ t, t < j → ∀ (ht : t < R.length) (m : Nat) (b : List Str), g[m]? = some (B, b) → (⟨some m, 0, R[t]⟩ : Itm) ∈ out
  part : ∀ (ht : j < R.length) (m : Nat) (b : List Str), m < n → g[m]? = some (B, b) → (⟨some m, 0, R[j]⟩ : Itm) ∈ out
variable {i : Itm} {B : Str} {R : List Str} {j n : Nat}
theorem ClsJ.init (h : ClsIn g γ base out k) (hk : out[k]? = some i) : ClsJ g γ base out k i B R 0 0 := ⟨h, hk, fun t ht => by omega, fun _ m b hm => by omega⟩
theorem ClsJ.skip (h : ClsJ g γ base out k i B R j n) (hs : ∀ (ht : j < R.length) b, g[n]? = some (B, b) → (⟨some n, 0, R[j]⟩ : Itm) ∈ out) : ClsJ g γ base out k i B R j (n + 1) := by
  refine ⟨h.cls, h.at_, h.done, fun ht m b hm hb => ?_⟩
  by_cases e : m = n
  · subst e; exact hs ht b hb
  · exact h.part ht m b (by omega) hb
theorem ClsJ.add (h : ClsJ g γ base out k i B R j n) (ht : j < R.length) {δ b : List Str} (hr : i.rest g = B :: δ) (hb : g[n]? = some (B, b)) (hR : Fst g δ i.look R[j]) (hx : (⟨some n, 0, R[j]⟩ : Itm) ∉ out) : ClsJ g γ base (out ++ [⟨some n, 0, R[j]⟩]) k i B R j (n + 1) := by
  have hk := (List.getElem?_eq_some_iff.1 h.at_).1
  refine ⟨h.cls.add (by omega) (List.mem_of_getElem? h.at_) ⟨B, δ, n, b, R[j], hr, hb, hR, rfl⟩ hx, by rw [List.getElem?_append_left hk]; exact h.at_, fun t h1 h2 m c hc => List.mem_append.2 (.inl (h.done t h1 h2 m c hc)), fun _ m c hm hc => ?_⟩
  by_cases e : m = n
  · subst e; exact List.mem_append.2 (.inr (by simp))
  · exact List.mem_append.2 (.inl (h.part ht m c (by omega) hc))
theorem ClsJ.nextLook (h : ClsJ g γ base out k i B R j n) (hn : g.length ≤ n) : ClsJ g γ base out k i B R (j + 1) 0 := by
  refine ⟨h.cls, h.at_, fun t h1 h2 m b hb => ?_, fun _ m b hm => by omega⟩
  have hm := (List.getElem?_eq_some_iff.1 hb).1
  by_cases e : t = j
  · subst e; exact h.part h2 m b (by omega) hb
  · exact h.done t (by omega) h2 m b hb
theorem ClsJ.next (h : ClsJ g γ base out k i B R j 0) (hj : R.length ≤ j) {δ : List Str} (hr : i.rest g = B :: δ) (hR : ∀ c, Fst g δ i.look c → c ∈ R) : ClsIn g γ base out (k + 1) := by
  have hk := (List.getElem?_eq_some_iff.1 h.at_).1
  refine h.cls.next hk fun y hy => ?_
  have e : out[k] = i := (List.getElem?_eq_some_iff.1 h.at_).2
  rw [e] at hy
  obtain ⟨B', δ', m, b, c, h1, h2, h3, rfl⟩ := hy
  rw [hr] at h1
  cases h1
  obtain ⟨t, ht, rfl⟩ := List.getElem_of_mem (hR c h3)
  exact h.done t (by omega) ht m b h2
end
end Lr
