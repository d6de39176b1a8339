/- Rows of texts, sorted and compacted. -/
import Derived.Shelf.Slices.CompactS
import Derived.Test.YtdejcdmgcckmoaaGreatDoorProg
import Derived.Test.YtdejcdmgcckmoaaGreatDoorYFF
import Derived.Test.YtdejcdmgcckmoaaGreatDoorYV
import Derived.Shelf.SlSortCmp.Whole1
import Derived.Lib.RowBridge
namespace Go.Proofs
open Go.Shelf
def Tryz.lays194_ren : Go.Shelf.Ren := ⟨fun | 194 => 118 | n => n, fun | 31 => 24 | 9 => 9 | 3 => 3 | 4 => 4 | 0 => 0 | n => n, fun | n => n⟩
theorem Tryz.lays194 : Go.Proofs.Lays.n194 Tryz.prog Tryz.lays194_ren := {
  mixed := by kernel_rfl
  f194 := Tryz.func118.trans (congrArg some (by kernel_rfl))
  t0 := Tryz.underlying0
  a0 := Tryz.isAgg0
  z0 := Tryz.sizeOf0
  v0 := Tryz.zeroValue0
  t3 := Tryz.underlying3
  a3 := Tryz.isAgg3
  z3 := Tryz.sizeOf3
  v3 := Tryz.zeroValue3
  t4 := Tryz.underlying4
  a4 := Tryz.isAgg4
  z4 := Tryz.sizeOf4
  v4 := Tryz.zeroValue4
  t9 := Tryz.underlying9
  a9 := Tryz.isAgg9
  z9 := Tryz.sizeOf9
  v9 := Tryz.zeroValue9
  t31 := Tryz.underlying24
  a31 := Tryz.isAgg24
  z31 := Tryz.sizeOf24
  v31 := Tryz.zeroValue24 }
open Go.RowKit Go.Sort Go.Lib in
/-- slices.Compact at texts (laid). -/
theorem Tryz.slices_Compact_string (blk off cap : Nat) (zs : List (List UInt8)) (w : World) (hH : Holds encStr w blk off zs.toArray) (hsz : zs.length ≤ 9223372036854775807) (hcap : zs.length ≤ cap) :
    Calls Tryz.prog 118 #[.slice (some ⟨blk, off, none⟩) zs.length cap] w fun e w' => e = .returned (.slice (some ⟨blk, off, none⟩) (Lib.compact zs).length cap) ∧ ∃ q, w' = putRow encStr (Sort.ahead w q) blk off (Lib.compact zs ++ List.replicate (zs.length - (Lib.compact zs).length) []).toArray := Any.slices_Compact_string Tryz.lays194 blk off cap zs w hH hsz hcap
end Go.Proofs
namespace Go.Proofs.YtdejcdmgcckmoaaGreatDoor
open Go.RowKit Go.Sort Go.Lib Lr

theorem swo_map {α β : Type} {lt : β → β → Bool} (h : SWO lt) (f : α → β) : SWO fun x y => lt (f x) (f y) :=
  ⟨fun _ => h.irrefl _, fun _ _ _ => h.trans _ _ _, fun _ _ _ => h.ntrans _ _ _⟩
/-- What the sort gives of a row that may hold one thing twice. -/
theorem sorted_list2 {α : Type} [Inhabited α] {lt : α → α → Bool} {L : List α} {d' : Array α} (hp : PermIn 0 L.toArray.size L.toArray d') (hs : SortedIn lt 0 L.toArray.size d') :
    ∃ L' : List α, d' = L'.toArray ∧ L'.Perm L ∧ L'.Pairwise fun x y => lt y x = false := by
  obtain ⟨h1, _, h3⟩ := hp
  have e1 : (d'.extract 0 L.toArray.size).toList = d'.toList := by rw [← h1]; simp
  have e2 : (L.toArray.extract 0 L.toArray.size).toList = L := by simp
  rw [e1, e2] at h3
  refine ⟨d'.toList, by simp, h3, ?_⟩
  rw [List.pairwise_iff_getElem]
  intro i j hi hj hij
  simp only [Array.length_toList] at hi hj
  have := hs i j (Nat.zero_le _) hij (by rw [← h1]; exact hj)
  rw [getElem!_pos d' j hj, getElem!_pos d' i hi] at this
  exact this
/-- A sorted row compacted: the same members, each once, rising. -/
theorem compact_sorted {α : Type} [Inhabited α] [DecidableEq α] {lt : α → α → Bool} (h : SWO lt) {L : List α} (hs : L.Pairwise fun x y => lt y x = false) (ht : ∀ x ∈ L, ∀ y ∈ L, lt x y = false → lt y x = false → x = y) :
    (∀ x, x ∈ Lib.compact L ↔ x ∈ L) ∧ (Lib.compact L).Pairwise fun x y => lt x y = true := by
  have key : ∀ m, m ≤ L.length → (∀ x, x ∈ compactUpTo L.toArray m ↔ x ∈ L.take m) ∧ (compactUpTo L.toArray m).Pairwise fun x y => lt x y = true := by
    intro m
    induction m with
    | zero => intro _; simp [compactUpTo]
    | succ m ih =>
      intro hm
      obtain ⟨i1, i2⟩ := ih (by omega)
      have hmL : m < L.length := by omega
      have hd : ∀ j, (hj : j < L.length) → L.toArray[j]! = L[j] := fun j hj => by rw [getElem!_pos L.toArray j (by simpa using hj)]; simp
      rw [compactUpTo_succ, List.take_succ_eq_append_getElem hmL]
      have hge : ∀ i j, (hi : i < L.length) → (hj : j < L.length) → i < j → lt L[j] L[i] = false := fun i j hi hj hij => List.pairwise_iff_getElem.1 hs i j hi hj hij
      by_cases hk : keeps L.toArray m = true
      · rw [if_pos hk, hd m hmL]
        refine ⟨fun x => by rw [List.mem_append, List.mem_append, i1 x], ?_⟩
        rw [List.pairwise_append]
        refine ⟨i2, by simp, fun x hx y hy => ?_⟩
        simp at hy
        subst hy
        obtain ⟨i, hi, rfl⟩ := List.getElem_of_mem ((i1 x).1 hx)
        have him : i < m := by simp at hi; omega
        rw [List.getElem_take]
        cases hc : lt L[i] L[m] with
        | true => rfl
        | false =>
          exfalso
          have e1 : L[m - 1] = L[m] := by
            apply ht _ (List.getElem_mem _) _ (List.getElem_mem _)
            · by_cases e : i = m - 1
              · subst e; exact hc
              · exact h.ntrans _ _ _ (hge i (m - 1) (by omega) (by omega) (by omega)) hc
            · exact hge (m - 1) m (by omega) hmL (by omega)
          have := keeps_neg (d := L.toArray) (m := m) (by omega) (by rw [hd m hmL, hd (m - 1) (by omega), e1])
          rw [this] at hk; cases hk
      · rw [if_neg hk]
        have hm0 : 0 < m := by
          apply Nat.pos_of_ne_zero
          intro e
          subst e
          exact hk (keeps_lt_one _ 0 (by omega))
        have e1 : L[m] = L[m - 1] := by
          apply Classical.byContradiction
          intro hne
          exact hk (keeps_pos (by rw [hd m hmL, hd (m - 1) (by omega)]; exact hne))
        refine ⟨fun x => ?_, by simpa using i2⟩
        rw [List.append_nil, i1 x, List.mem_append, List.mem_singleton]
        constructor
        · exact .inl
        · rintro (hx | rfl)
          · exact hx
          · rw [e1]
            have : L[m - 1] = (L.take m)[m - 1]'(by simp; omega) := by rw [List.getElem_take]
            rw [this]
            exact List.getElem_mem _
  have := key L.length (Nat.le_refl _)
  rwa [List.take_length] at this
end Go.Proofs.YtdejcdmgcckmoaaGreatDoor
namespace Go.Proofs.YtdejcdmgcckmoaaGreatDoor
open Go.RowKit Go.Sort Go.Lib Lr

theorem sortStr : SlLaysF.n6 Tryz.prog Tryz.sortStc_ren := { Tryz.sortStc with a24 := Tryz.isAgg9, z24 := Tryz.sizeOf9 }
/-- Symbols by the texts that are told. -/
def cmpS (x y : Str) : Int := cmpT (toldS x) (toldS y)
theorem cmp117 (x y : Str) (W : World) : Calls Tryz.prog 117 #[sv x, sv y] W fun e w' => e = .returned (.int .i64 (cmpS x y)) ∧ ∃ q os', w' = grow (W.drewN q) os' := by
  unfold cmpS
  go_enter Tryz.func117, Tryz.ntmps117
  go_wp2_with (first | (go_at_call 52; refine (told_any _ _).mono ?_; rintro e w' ⟨rfl, rfl⟩) | (go_at_call 65; refine (cmpT_any _ _ _).mono ?_; rintro e w' ⟨rfl, rfl⟩))
  go_ret
  exact ⟨rfl, 0, #[], (grow_empty _).symm⟩
end Go.Proofs.YtdejcdmgcckmoaaGreatDoor
namespace Go.Proofs.YtdejcdmgcckmoaaGreatDoor
open Go.RowKit Go.Sort Go.Lib Lr

theorem swoS : SWO (ltOf cmpS) := swo_map (ord_swo ord_T) toldS
/-- Terminals sorted by the texts that are told. -/
theorem SortTrm {w : World} {B : Nat} {v : Value} {l : List Str} (h : Strs w B v l) (h0 : 0 < l.length) (hl : l.length ≤ 1000000) :
    Calls Tryz.prog 116 #[v, .func (.func 117) #[] #[]] w fun e w' => e = .returned (.tuple #[]) ∧ ∃ l' : List Str, l'.Perm l ∧ (l'.Pairwise fun x y => ltOf cmpS y x = false) ∧ Strs w' B v l' ∧ w.grownBy w' v.ownBlock := by
  rcases h.2 with ⟨hnil, hz⟩ | ⟨g, cap, cur, rfl, hbase, hb, h1, h2, h3, h4⟩
  · omega
  have hlt : g < w.heap.size := lt_of_block hb
  have eg : ∀ args w, (callFunc 117 args).run Tryz.prog w = .ok (.enter 117 args) w := enters_of Tryz.func117 (by kernel_rfl) rfl
  refine (Any.slices_SortFunc sortStr encStr (fun _ => rfl) cmpS swoS 117 #[] g 0 cap l.toArray w eg (fun _ _ _ _ x y => cmp117 x y _) (holds_of_block hb (by simpa [sv_enc] using h4)) hlt (by simp; omega)).mono ?_
  rintro e w' ⟨rfl, d', n, os, hp, hs, rfl⟩
  obtain ⟨l', rfl, k1, k2⟩ := sorted_list2 hp hs
  refine ⟨rfl, l', k1, k2, ?_, grownBy_sorted _⟩
  have := ownsRow_sorted (base := B) (n := n) (os := os) (ss := l) (ts := l') (by simp [k1.length_eq]) hbase hb h1 h2 h3
  unfold Strs
  rw [k1.length_eq]
  exact this
end Go.Proofs.YtdejcdmgcckmoaaGreatDoor
namespace Go.Proofs.YtdejcdmgcckmoaaGreatDoor
open Go.RowKit Go.Sort Go.Lib Lr

theorem grow_none (w : World) : grow w #[] = w := grow_empty _
/-- A row of texts compacted. -/
theorem CompactTrm {w : World} {B : Nat} {v : Value} {l : List Str} (h : Strs w B v l) (h0 : 0 < l.length) (hl : l.length ≤ 1000000) :
    Calls Tryz.prog 118 #[v] w fun e w' => ∃ v', e = .returned v' ∧ Strs w' B v' (Lib.compact l) ∧ w.grownBy w' v.ownBlock := by
  rcases h.2 with ⟨hnil, hz⟩ | ⟨g, cap, cur, rfl, hbase, hb, h1, h2, h3, h4⟩
  · omega
  refine (Tryz.slices_Compact_string g 0 cap l w (holds_of_block hb (by simpa [sv_enc] using h4)) (by omega) h1).mono ?_
  rintro e w' ⟨rfl, n, rfl⟩
  have hcl := compact_length_le l
  have hlen : (Lib.compact l ++ List.replicate (l.length - (Lib.compact l).length) []).length = l.length := by simp; omega
  have hO := ownsRow_sorted (base := B) (n := n) (os := #[]) (ss := l) (ts := Lib.compact l ++ List.replicate (l.length - (Lib.compact l).length) []) hlen hbase hb h1 h2 h3
  have hG := grownBy_sorted (w := w) (g := g) (n := n) (os := #[]) (Lib.compact l ++ List.replicate (l.length - (Lib.compact l).length) []).toArray
  rw [grow_none] at hO hG
  refine ⟨_, rfl, ?_, hG⟩
  rcases hO.2 with ⟨_, hz⟩ | ⟨g', cap', cur', e, q1, q2, q3, q4, q5, q6⟩
  · omega
  · cases e
    refine ⟨by simp, .inr ⟨g, cap, cur', rfl, q1, q2, by omega, q4, q5, ?_⟩⟩
    rw [Nat.mul_one] at q6 ⊢
    have := congrArg (List.take (Lib.compact l).length) q6
    rw [List.take_take, Nat.min_eq_left hcl] at this
    rw [this, List.map_append, List.take_left' (by simp)]
end Go.Proofs.YtdejcdmgcckmoaaGreatDoor
