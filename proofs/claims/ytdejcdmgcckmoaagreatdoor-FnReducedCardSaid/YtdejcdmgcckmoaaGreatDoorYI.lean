/- The reference: first sets. -/
import Derived.Shelf.Sort.Plain
import Derived.Test.YtdejcdmgcckmoaaGreatDoorProg
import Derived.Test.YtdejcdmgcckmoaaGreatDoorYC
import Derived.Sort.OwnSorted
import Derived.Test.YtdejcdmgcckmoaaGreatDoorYH
import Derived.Deep.LoopGhost
import Derived.Test.YtdejcdmgcckmoaaGreatDoorYF
import Derived.Test.YtdejcdmgcckmoaaGreatDoorYA
namespace Go.Proofs
open Go.Shelf
def Tryz.lays190_ren : Go.Shelf.Ren := ⟨fun | 190 => 58 | 125 => 103 | 258 => 102 | 128 => 146 | 129 => 147 | 302 => 137 | 303 => 138 | 304 => 139 | 305 => 140 | 306 => 141 | 307 => 142 | 308 => 143 | 309 => 144 | 310 => 145 | 333 => 173 | 329 => 174 | 330 => 175 | 334 => 176 | 335 => 177 | 336 => 108 | 344 => 216 | n => n, fun | 31 => 24 | 9 => 9 | 3 => 3 | 46 => 160 | 0 => 0 | 51 => 225 | 53 => 227 | 4 => 4 | 183 => 219 | 182 => 218 | 131 => 205 | 5 => 5 | 218 => 254 | 222 => 258 | 228 => 288 | 229 => 123 | n => n, fun | n => n⟩
theorem Tryz.lays190 : Go.Proofs.Lays.n190 Tryz.prog Tryz.lays190_ren := {
  mixed := by kernel_rfl
  f125 := Tryz.func103.trans (congrArg some (by kernel_rfl))
  f128 := Tryz.func146.trans (congrArg some (by kernel_rfl))
  f129 := Tryz.func147.trans (congrArg some (by kernel_rfl))
  f190 := Tryz.func58.trans (congrArg some (by kernel_rfl))
  f258 := Tryz.func102.trans (congrArg some (by kernel_rfl))
  f302 := Tryz.func137.trans (congrArg some (by kernel_rfl))
  f303 := Tryz.func138.trans (congrArg some (by kernel_rfl))
  f304 := Tryz.func139.trans (congrArg some (by kernel_rfl))
  f305 := Tryz.func140.trans (congrArg some (by kernel_rfl))
  f306 := Tryz.func141.trans (congrArg some (by kernel_rfl))
  f307 := Tryz.func142.trans (congrArg some (by kernel_rfl))
  f308 := Tryz.func143.trans (congrArg some (by kernel_rfl))
  f309 := Tryz.func144.trans (congrArg some (by kernel_rfl))
  f310 := Tryz.func145.trans (congrArg some (by kernel_rfl))
  f329 := Tryz.func174.trans (congrArg some (by kernel_rfl))
  f330 := Tryz.func175.trans (congrArg some (by kernel_rfl))
  f333 := Tryz.func173.trans (congrArg some (by kernel_rfl))
  f334 := Tryz.func176.trans (congrArg some (by kernel_rfl))
  f335 := Tryz.func177.trans (congrArg some (by kernel_rfl))
  f336 := Tryz.func108.trans (congrArg some (by kernel_rfl))
  f344 := Tryz.func216.trans (congrArg some (by kernel_rfl))
  t0 := Tryz.underlying0
  a0 := Tryz.isAgg0
  z0 := Tryz.sizeOf0
  v0 := Tryz.zeroValue0
  t3 := Tryz.underlying3
  a3 := Tryz.isAgg3
  z3 := Tryz.sizeOf3
  v3 := Tryz.zeroValue3
  t4 := Tryz.underlying4
  a4 := Tryz.isAgg4
  z4 := Tryz.sizeOf4
  v4 := Tryz.zeroValue4
  t5 := Tryz.underlying5
  a5 := Tryz.isAgg5
  z5 := Tryz.sizeOf5
  v5 := Tryz.zeroValue5
  t9 := Tryz.underlying9
  a9 := Tryz.isAgg9
  z9 := Tryz.sizeOf9
  v9 := Tryz.zeroValue9
  t31 := Tryz.underlying24
  a31 := Tryz.isAgg24
  z31 := Tryz.sizeOf24
  v31 := Tryz.zeroValue24
  t46 := Tryz.underlying160
  a46 := Tryz.isAgg160
  z46 := Tryz.sizeOf160
  v46 := Tryz.zeroValue160
  t51 := Tryz.underlying225
  a51 := Tryz.isAgg225
  z51 := Tryz.sizeOf225
  v51 := Tryz.zeroValue225
  t53 := Tryz.underlying227
  a53 := Tryz.isAgg227
  z53 := Tryz.sizeOf227
  v53 := Tryz.zeroValue227
  t131 := Tryz.underlying205
  a131 := Tryz.isAgg205
  z131 := Tryz.sizeOf205
  v131 := Tryz.zeroValue205
  t182 := Tryz.underlying218
  a182 := Tryz.isAgg218
  z182 := Tryz.sizeOf218
  v182 := Tryz.zeroValue218
  t183 := Tryz.underlying219
  a183 := Tryz.isAgg219
  z183 := Tryz.sizeOf219
  v183 := Tryz.zeroValue219
  t218 := Tryz.underlying254
  a218 := Tryz.isAgg254
  z218 := Tryz.sizeOf254
  v218 := Tryz.zeroValue254
  t222 := Tryz.underlying258
  a222 := Tryz.isAgg258
  z222 := Tryz.sizeOf258
  v222 := Tryz.zeroValue258
  t228 := Tryz.underlying288
  a228 := Tryz.isAgg288
  z228 := Tryz.sizeOf288
  v228 := Tryz.zeroValue288
  t229 := Tryz.underlying123
  a229 := Tryz.isAgg123
  z229 := Tryz.sizeOf123
  v229 := Tryz.zeroValue123 }
open Go.Sort in
theorem Tryz.slices_Sort_string (blk off cap : Nat) (ss : List (List UInt8)) (w : World) (hH : Holds encStr w blk off ss.toArray) (hblk : blk < w.heap.size) (hsz : ss.length < 4611686018427387904) :
    Calls Tryz.prog 58 #[.slice (some ⟨blk, off, none⟩) ss.length cap] w fun e w' =>
      e = .returned (.tuple #[]) ∧ ∃ n os, w' = grow (putRow encStr (Sort.ahead w n) blk off (ss.mergeSort fun x y => decide (x ≤ y)).toArray) os := Any.slices_Sort_string Tryz.lays190 blk off cap ss w hH hblk hsz
end Go.Proofs
namespace Go.Proofs.YtdejcdmgcckmoaaGreatDoor
open Go.RowKit Go.Sort Lr

def sortS (l : List Str) : List Str := l.mergeSort fun x y => decide (x ≤ y)
theorem sv_enc : sv = encStr := rfl
theorem Sort_strs {w : World} {B : Nat} {v : Value} {l : List Str} (h : Strs w B v l) (h0 : 0 < l.length) (hl : l.length ≤ 1000000) :
    Calls Tryz.prog 58 #[v] w fun e w' => e = .returned (.tuple #[]) ∧ Strs w' B v (sortS l) ∧ w.grownBy w' v.ownBlock := by
  rcases h.2 with ⟨hnil, hz⟩ | ⟨g, cap, cur, rfl, hbase, hb, h1, h2, h3, h4⟩
  · omega
  have hlt : g < w.heap.size := lt_of_block hb
  refine (Tryz.slices_Sort_string g 0 cap l w (holds_of_block hb (by simpa [sv_enc] using h4)) hlt (by omega)).mono ?_
  rintro e w' ⟨rfl, n, os, rfl⟩
  refine ⟨rfl, ?_, grownBy_sorted _⟩
  have := ownsRow_sorted (base := B) (n := n) (os := os) (ss := l) (ts := sortS l) (by simp [sortS]) hbase hb h1 h2 h3
  have hl2 : (sortS l).length = l.length := by simp [sortS]
  unfold Strs
  rw [hl2]
  exact this
end Go.Proofs.YtdejcdmgcckmoaaGreatDoor
namespace Go.Proofs.YtdejcdmgcckmoaaGreatDoor
open Go.RowKit Lr

/-- A slice of slices of strings. -/
def MatAt (w : World) (v : Value) (Ls : List (List Str)) : Prop :=
  ∃ a cap, v = .slice a Ls.length cap ∧ Ls.length ≤ cap ∧ (0 < Ls.length → ∃ b o, a = some ⟨b, o, none⟩ ∧ ∀ j, (hj : j < Ls.length) → ∃ vj, w.cell? ⟨b, o + j, none⟩ = some vj ∧ StrsAt w vj Ls[j])
theorem MatAt.new {w w' : World} {v : Value} {Ls : List (List Str)} (h : MatAt w v Ls) (hn : New w w') : MatAt w' v Ls := by
  obtain ⟨a, cap, rfl, hcap, hc⟩ := h
  refine ⟨a, cap, rfl, hcap, fun hne => ?_⟩
  obtain ⟨b, o, rfl, hcc⟩ := hc hne
  refine ⟨b, o, rfl, fun j hj => ?_⟩
  obtain ⟨vj, h1, h2⟩ := hcc j hj
  exact ⟨vj, hn.cell h1, h2.new hn⟩
theorem MatAt.slice {w : World} {v : Value} {Ls : List (List Str)} (h : MatAt w v Ls) : ∃ a cap, v = .slice a Ls.length cap := by
  obtain ⟨a, cap, rfl, _, _⟩ := h
  exact ⟨a, cap, rfl⟩
theorem MatAt.elem {w : World} {a : Option Addr} {n cap : Nat} {Ls : List (List Str)} (h : MatAt w (.slice a n cap) Ls) {k : Nat} (hk : k < Ls.length) :
    ∃ b o a' c', a = some ⟨b, o, none⟩ ∧ w.cell? ⟨b, o + k, none⟩ = some (.slice a' Ls[k].length c') ∧ StrsAt w (.slice a' Ls[k].length c') Ls[k] := by
  obtain ⟨a1, cap1, e, _, hc⟩ := h
  cases e
  obtain ⟨b, o, rfl, hcc⟩ := hc (by omega)
  obtain ⟨vj, h1, h2⟩ := hcc k hk
  obtain ⟨a', c', rfl⟩ := h2.slice
  exact ⟨b, o, a', c', rfl, h1, h2⟩
end Go.Proofs.YtdejcdmgcckmoaaGreatDoor
namespace Go.Proofs.YtdejcdmgcckmoaaGreatDoor
open Go.RowKit Lr

theorem idxOf_no {s : Str} : ∀ {l : List Str} {k : Nat}, has l s = false → idxOf s l k = -1
  | [], _, _ => rfl
  | x :: l, k, h => by
    simp only [has, List.contains_cons, Bool.or_eq_false_iff] at h
    rw [idxOf, if_neg (by simpa using h.1)]
    exact idxOf_no h.2
theorem idxOf_yes {s : Str} : ∀ {l : List Str} {k : Nat}, has l s = true → ∃ j, idxOf s l k = ((k + j : Nat) : Int) ∧ l[j]? = some s
  | [], _, h => by cases h
  | x :: l, k, h => by
    rw [idxOf]
    by_cases e : (s == x) = true
    · rw [if_pos e]
      exact ⟨0, rfl, by simp at e; simp [e]⟩
    · rw [if_neg e]
      have h2 : has l s = true := by
        simp only [has, List.contains_cons, Bool.or_eq_true] at h
        exact h.resolve_left e
      obtain ⟨j, h1, h3⟩ := idxOf_yes (k := k + 1) h2
      exact ⟨j + 1, by rw [h1]; congr 1; omega, by simpa using h3⟩
/-- The table of rows, at heads. -/
def phL (H : List Str) (Ls : List (List Str)) (A t : Str) : Bool := has H A && has (Ls.getD (idxOf A H 0).toNat []) t
theorem phL_at {H : List Str} {Ls : List (List Str)} {A : Str} {k : Nat} (hh : has H A = true) (hk : idxOf A H 0 = (k : Int)) (hl : k < Ls.length) (t : Str) : phL H Ls A t = has Ls[k] t := by
  unfold phL
  rw [hh, hk]
  simp [List.getD, hl]
theorem hasSnoc (l : List Str) (s t : Str) : has (l ++ [s]) t = (has l t || decide (t = s)) := by
  simp [has]
theorem has_takeS {l : List Str} {j : Nat} (h : j < l.length) (t : Str) : has (l.take (j + 1)) t = (has (l.take j) t || decide (t = l[j])) := by
  rw [List.take_succ_eq_append_getElem h, hasSnoc]

/-- What the list under way says, with what is still to come. -/
def FoIn (g : Gram) (ph : Str → Str → Bool) (l out : List Str) (i : Nat) : Prop := ∀ t, seqS g ph l t = (has out t || seqS g ph (l.drop i) t)
theorem FoIn.init (g : Gram) (ph : Str → Str → Bool) (l : List Str) : FoIn g ph l [] 0 := fun t => by simp [has]
theorem FoIn.term {g : Gram} {ph : Str → Str → Bool} {l out : List Str} {i : Nat} (h : FoIn g ph l out i) (hi : i < l.length) (hs : isHead g l[i] = false) (t : Str) : has (out ++ [l[i]]) t = seqS g ph l t := by
  rw [h t, List.drop_eq_getElem_cons hi, hasSnoc]
  unfold seqS
  rw [hs]; simp
theorem FoIn.end {g : Gram} {ph : Str → Str → Bool} {l out : List Str} {i : Nat} (h : FoIn g ph l out i) (hi : l.length ≤ i) (t : Str) : has (out ++ [[]]) t = seqS g ph l t := by
  rw [h t, List.drop_of_length_le hi, hasSnoc]
  simp [seqS]
theorem FoIn.stop {g : Gram} {ph : Str → Str → Bool} {l out out' : List Str} {i : Nat} (h : FoIn g ph l out i) (hi : i < l.length) (hs : isHead g l[i] = true) (hn : ph l[i] [] = false) (ho : ∀ t, has out' t = (has out t || (!decide (t = []) && ph l[i] t))) (t : Str) : has out' t = seqS g ph l t := by
  rw [h t, List.drop_eq_getElem_cons hi, ho]
  rw [seqS, if_pos hs, hn]; simp
theorem FoIn.on {g : Gram} {ph : Str → Str → Bool} {l out out' : List Str} {i : Nat} (h : FoIn g ph l out i) (hi : i < l.length) (hs : isHead g l[i] = true) (hn : ph l[i] [] = true) (ho : ∀ t, has out' t = (has out t || (!decide (t = []) && ph l[i] t))) : FoIn g ph l out' (i + 1) := fun t => by
  rw [h t, List.drop_eq_getElem_cons hi, ho]
  rw [seqS, if_pos hs, hn, Bool.true_and, Bool.or_assoc]

theorem StrsAt.lenle {w : World} {a : Option Addr} {n c : Nat} {l : List Str} (h : StrsAt w (.slice a n c) l) : n = l.length := by
  obtain ⟨_, _, e, _, _⟩ := h
  cases e; rfl

set_option maxRecDepth 20000 in
set_option maxHeartbeats 4000000 in
theorem firstOf_any {w : World} (g : Gram) {v0 v1 v2 : Value} {H : List Str} {Ls : List (List Str)} {l : List Str} (h0 : StrsAt w v0 H) (h1 : MatAt w v1 Ls) (h2 : StrsAt w v2 l) (hH : ∀ s, has H s = isHead g s) (hlen : Ls.length = H.length)
    (hHl : H.length ≤ 100) (hl : l.length ≤ 10) (hrow : ∀ r ∈ Ls, r.length ≤ 100) :
    Calls Tryz.prog 59 #[v0, v1, v2] w fun e w' => ∃ v R, e = .returned v ∧ Strs w' w.heap.size v R ∧ (∀ t, has R t = seqS g (phL H Ls) l t) ∧ R.length ≤ 1001 ∧ New w w' := by
  obtain ⟨a0, c0, rfl⟩ := h0.slice
  obtain ⟨a1, c1, rfl⟩ := h1.slice
  obtain ⟨a2, c2, rfl⟩ := h2.slice
  have HH := Lib.hid (And.intro h0 (And.intro h1 (And.intro h2 (And.intro hH hrow))))
  have HL := Lib.hid hlen
  have hlle : Ls.length ≤ H.length := by omega
  have hlge : H.length ≤ Ls.length := by omega
  clear h0 h1 h2 hH hlen hrow
  go_enter Tryz.func59, Tryz.ntmps59
  go_wp2
  go_loopg [7, 16] l.length (fun gk u7 u16 wr => ∃ (i : Nat) (out : List Str), i ≤ l.length ∧ gk = l.length - i ∧ u16 = .int .i64 i ∧ Strs wr w.heap.size u7 out ∧ out.length ≤ i * 100 ∧ Hid (FoIn g (phL H Ls) l out i) ∧ New w wr)
  case atStart => exact ⟨0, [], Nat.zero_le _, rfl, rfl, World.ownsRow_made _ _ _ (Nat.le_refl _) (Nat.zero_le _) rfl, Nat.zero_le _, FoIn.init _ _ _, (New.refl _).alloc _⟩
  case round =>
    obtain ⟨i, out, hi, rfl, rfl, hown, hol, hfo, hn⟩ := hrel
    have hB := hn.size
    obtain ⟨b0, b1, b2, bH, brow⟩ := HH.out
    by_cases hlt : i < l.length
    · obtain ⟨b, o, e, d2⟩ := (b2.new hn).elem hlt
      cases e
      have hq := Index_str _ H l[i] wr (b0.new hn) (by omega)
      cases hh : has H l[i] with
      | false =>
        rw [idxOf_no hh] at hq
        have hq := Lib.hid hq
        have hT := Lib.hid (hfo.out.term hlt (by rw [← bH, hh]))
        clear hh b0 b1 b2 bH brow
        go_wp2_with (first | (go_at_call 55; refine hq.out.mono ?_; rintro e w' ⟨rfl, rfl⟩) | (at_builtin; go_must (refine wpList_push _ rfl _ _ _ _ rfl T24 w.heap.size _ _ _ rfl hown [_] rfl rfl _ _ rfl (by simp) (by omega) (by omega) (by omega) ?_)))
        intro v' w1 hown1 hgrow hne hat
        have hn1 : New w w1 := Below.push hn hown hgrow (by omega)
        have hown2 := Strs.push hown1
        clear hgrow hne hat
        go_wp2
        go_ret
        exact ⟨v', _, rfl, hown2, hT.out, by simp; omega, hn1⟩
      | true =>
        obtain ⟨k, hk, hkl⟩ := idxOf_yes (k := 0) hh
        rw [Nat.zero_add] at hk
        have hkH : k < H.length := (List.getElem?_eq_some_iff.1 hkl).1
        have hkL : k < Ls.length := by omega
        obtain ⟨bm, om, a', c', e, d3, d4⟩ := b1.elem hkL
        cases e
        have D3 := Lib.hid d3
        have d3 := hn.cell d3
        have hph := phL_at hh hk hkL
        have HPH := Lib.hid (And.intro hph (show isHead g l[i] = true by rw [← bH, hh]))
        have hrl := brow _ (List.getElem_mem hkL)
        rw [hk] at hq
        have hq := Lib.hid hq
        have hk0 : ¬ ((k : Int) < 0) := by omega
        clear hh hk hkl b0 b1 b2 bH brow hph
        go_wp2_with (go_at_call 55; refine hq.out.mono ?_; rintro e w' ⟨rfl, rfl⟩)
        clear hq d2
        have D3 := D3.out
        generalize hR : Ls[k] = R at *
        have HR := Lib.hid hR
        have HD := Lib.hid (And.intro d4 D3)
        clear hR d3 d4 D3
        go_loopg [7, 34] R.length (fun gj u7 u34 wq => ∃ (j : Nat) (out' : List Str), j ≤ R.length ∧ gj = R.length - j ∧ u34 = .int .i64 j ∧ Strs wq w.heap.size u7 out' ∧ out'.length ≤ i * 100 + j ∧ Hid (∀ t, has out' t = (has out t || (!decide (t = []) && has (R.take j) t))) ∧ New w wq)
        case atStart => exact ⟨0, out, Nat.zero_le _, rfl, rfl, hown, by omega, Lib.hid (fun t => by simp [has]), hn⟩
        case round =>
          clear hown hol
          obtain ⟨j, out', hj, rfl, rfl, hown, hol, ho, hn'⟩ := hrel
          have hB' := hn'.size
          by_cases hjl : j < R.length
          · obtain ⟨b5, o5, e, d5⟩ := (HD.out.1.new hn').elem hjl
            cases e
            have hts := Lib.hid (has_takeS hjl)
            by_cases he : R[j] = []
            · have hne : R[j].isEmpty = true := by rw [he]; rfl
              have hs' : ∀ t, has out' t = (has out t || (!decide (t = []) && has (R.take (j + 1)) t)) := fun t => by
                rw [ho.out, hts.out, he]
                by_cases e : t = [] <;> simp [e]
              have HS := Lib.hid hs'
              clear hs' he
              go_wp2
              go_roundg (R.length - (j + 1))
              case measure => omega
              case rel => exact ⟨j + 1, out', by omega, rfl, by go_num, hown, by omega, HS, hn'⟩
            · have hne : R[j].isEmpty = false := by cases hr : R[j] with
                | nil => exact absurd hr he
                | cons _ _ => rfl
              have Hne := Lib.hid he
              clear he
              have hq := Lib.hid (Contains_str _ out' R[j] wr hown.at (by omega))
              go_wp2_with (first | (go_at_call 15; refine hq.out.mono ?_; rintro e w' ⟨rfl, rfl⟩) | (at_builtin; go_must (refine wpList_push _ rfl _ _ _ _ rfl T24 w.heap.size _ _ _ rfl hown [_] rfl rfl _ _ rfl (by simp) (by omega) (by omega) (by omega) ?_)))
              · intro v' w1 hown1 hgrow hne' hat
                have ht : (!has out' R[j]) = true := by assumption
                have hn1 : New w w1 := Below.push hn' hown hgrow (by omega)
                have hown2 := Strs.push hown1
                clear hgrow hne' hat
                go_wp2
                go_roundg (R.length - (j + 1))
                case measure => omega
                case rel =>
                  refine ⟨j + 1, _, by omega, rfl, by go_num, hown2, by simp; omega, Lib.hid (fun t => ?_), hn1⟩
                  rw [hasSnoc, ho.out, hts.out]
                  by_cases e : t = R[j]
                  · rw [e]; simp [Hne.out]
                  · simp [e]
              · have ht : (!has out' R[j]) = false := by assumption
                go_roundg (R.length - (j + 1))
                case measure => omega
                case rel =>
                  refine ⟨j + 1, _, by omega, rfl, by go_num, hown, by omega, Lib.hid (fun t => ?_), hn'⟩
                  have hin : has out' R[j] = true := by simpa using ht
                  have ho := ho.out
                  rw [hts.out]
                  by_cases e : t = R[j]
                  · rw [e, hin]
                    simp [Hne.out]
                  · rw [ho]; simp [e]
          · have hts : R.take j = R := List.take_of_length_le (by omega)
            rw [hts] at ho
            have ho' : ∀ t, has out' t = (has out t || (!decide (t = []) && phL H Ls l[i] t)) := fun t => by rw [ho.out, HPH.out.1]
            have hq := Lib.hid (Contains_str _ R [] wr (HD.out.1.new hn') (by omega))
            have d3 := hn'.cell HD.out.2
            cases he : has R [] with
            | true =>
              rw [he] at hq
              have hT := Lib.hid (hfo.out.on hlt HPH.out.2 (by rw [HPH.out.1]; exact he) ho')
              clear he ho ho' hts
              go_wp2_with (go_at_call 15; refine hq.out.mono ?_; rintro e w' ⟨rfl, rfl⟩)
              go_roundg (l.length - (i + 1))
              case measure => omega
              case rel => exact ⟨i + 1, out', by omega, rfl, by go_num, hown, by omega, hT, hn'⟩
            | false =>
              rw [he] at hq
              have hT := Lib.hid (hfo.out.stop hlt HPH.out.2 (by rw [HPH.out.1]; exact he) ho')
              clear he ho ho' hts
              go_wp2_with (go_at_call 15; refine hq.out.mono ?_; rintro e w' ⟨rfl, rfl⟩)
              go_ret
              exact ⟨_, _, rfl, hown, hT.out, by omega, hn'⟩
    · have hT := Lib.hid (hfo.out.end (by omega))
      go_wp2_with (at_builtin; go_must (refine wpList_push _ rfl _ _ _ _ rfl T24 w.heap.size _ _ _ rfl hown [_] rfl rfl _ _ rfl (by simp) (by omega) (by omega) (by omega) ?_))
      intro v' w1 hown1 hgrow hne hat
      have hn1 : New w w1 := Below.push hn hown hgrow (by omega)
      have hown2 := Strs.push hown1
      clear hgrow hne hat
      go_wp2
      go_ret
      exact ⟨v', _, rfl, hown2, hT.out, by simp; omega, hn1⟩
end Go.Proofs.YtdejcdmgcckmoaaGreatDoor
namespace Go.Proofs.YtdejcdmgcckmoaaGreatDoor
open Go.RowKit Lr

theorem T29 : SliceTy Tryz.prog 29 24 1 24 (.slice none 0 0) := ⟨Tryz.underlying29, by kernel_rfl, rfl, by omega⟩
theorem madeCells_one (z : Value) (n : Nat) : madeCells #[z] n = Array.replicate n z := by
  unfold madeCells
  apply Array.ext
  · simp
  · intro i h1 h2
    simp [Nat.mod_one]
theorem make_one {t e : TypeId} {bytes : Nat} {z : Value} (T : SliceTy Tryz.prog t e 1 bytes z) (hz : z.cells = #[z]) (n : Nat) (hn : n ≤ 1000000) (hb : bytes ≤ 1000) (w : World) :
    (Instr.makeSlice t (.int .i64 n) (.int .i64 n)).run Tryz.prog w = .ok (.slice (some ⟨w.heap.size, 0, none⟩) n n) (w.alloc (.cells (Array.replicate n z) e)) := by
  obtain ⟨i, hi, hz0, hz1, hz2⟩ := info_parts T.row
  have hbb : bytes * n ≤ 1000 * 1000000 := Nat.mul_le_mul hb hn
  have h1 : (i.bytes : Int) * (n : Int) = ((bytes * n : Nat) : Int) := by rw [hz2]; simp
  have := run_makeSlice (P := Tryz.prog) w t e i z T.und hi hz0 .i64 .i64 n n (by omega) (Int.le_refl _) (by rw [hz1]; simp; omega) (by rw [h1]; omega) (by omega)
  rw [hz1, hz, madeCells_one] at this
  simpa using this

/-- Rows of strings of the call's own, behind a block that holds their slices. -/
structure MatV (w : World) (B mb : Nat) (vs : List Value) (Ls : List (List Str)) : Prop where
  blk : w.heap[mb]? = some (.cells vs.toArray 24 (0, 0))
  len : vs.length = Ls.length
  row : ∀ (k : Nat) (v : Value) (L : List Str), vs[k]? = some v → Ls[k]? = some L → Strs w B v L
  dis : ∀ (k k' : Nat) (v v' : Value), k ≠ k' → vs[k]? = some v → vs[k']? = some v' → v.ownBlock = none ∨ v.ownBlock ≠ v'.ownBlock
theorem MatV.new {w w' : World} {B mb : Nat} {vs : List Value} {Ls : List (List Str)} (h : MatV w B mb vs Ls) (hn : New w w') : MatV w' B mb vs Ls :=
  ⟨hn.heap h.blk, h.len, fun k v L h1 h2 => (h.row k v L h1 h2).new hn, h.dis⟩
theorem MatV.at {w : World} {B mb : Nat} {vs : List Value} {Ls : List (List Str)} (h : MatV w B mb vs Ls) {cap : Nat} (hc : Ls.length ≤ cap) : MatAt w (.slice (some ⟨mb, 0, none⟩) Ls.length cap) Ls := by
  refine ⟨_, cap, rfl, hc, fun _ => ⟨mb, 0, rfl, fun j hj => ?_⟩⟩
  have hv : j < vs.length := by rw [h.len]; exact hj
  refine ⟨vs[j], ?_, (h.row j _ _ (List.getElem?_eq_getElem hv) (List.getElem?_eq_getElem hj)).at⟩
  rw [cell_of_blk h.blk]
  simp [hv]
theorem MatV.made {w : World} {n : Nat} : MatV (w.alloc (.cells (Array.replicate n (.slice none 0 0)) 24)) w.heap.size w.heap.size (List.replicate n (.slice none 0 0)) (List.replicate n []) := by
  refine ⟨by rw [List.toArray_replicate]; exact heap_alloc_new w _, by simp, fun k v L h1 h2 => ?_, fun k k' v v' _ h1 _ => ?_⟩
  · rw [List.getElem?_replicate] at h1 h2
    split at h1
    · rename_i hk
      rw [if_pos hk] at h2
      cases h1; cases h2
      exact ⟨rfl, .inl ⟨rfl, rfl⟩⟩
    · cases h1
  · rw [List.getElem?_replicate] at h1
    split at h1
    · cases h1; exact .inl rfl
    · cases h1
/-- One row has grown. -/
theorem MatV.push {w w1 : World} {B mb k : Nat} {vs : List Value} {Ls : List (List Str)} {v v' : Value} {L L' : List Str} (h : MatV w B mb vs Ls) (hv : vs[k]? = some v) (hL : Ls[k]? = some L) (hown : Strs w1 B v' L') (hg : w.grownBy w1 v.ownBlock)
    (hat : v'.ownBlock = v.ownBlock ∨ ∃ b, v'.ownBlock = some b ∧ w.heap.size ≤ b) : MatV (w1.setCell ⟨mb, k, none⟩ v') B mb (vs.set k v') (Ls.set k L') := by
  have hrow := h.row k v L hv hL
  have b1 := (hg.block mb (lt_of_block h.blk) (fun e => ownBlock_ne hrow h.blk (by decide) e.symm)).trans h.blk
  have hkv := (List.getElem?_eq_some_iff.1 hv).1
  refine ⟨?_, by simp [h.len], fun j u M hu hM => ?_, fun j j' u u' hjj hu hu' => ?_⟩
  · have := set_of_blk b1 k v'
    rw [this]; simp
  · by_cases e : j = k
    · subst e
      rw [List.getElem?_set_self hkv] at hu
      rw [List.getElem?_set_self (by rw [← h.len]; exact hkv)] at hM
      cases hu; cases hM
      exact ownsRow_setCell_other hown (a := ⟨mb, j, none⟩) (ownBlock_ne hown b1 (by decide)) _
    · rw [List.getElem?_set_ne (fun h => e h.symm)] at hu hM
      have h1 := h.row j u M hu hM
      have h2 := World.ownsRow.kept h1 hg (h.dis j k u v e hu hv)
      exact ownsRow_setCell_other h2 (a := ⟨mb, k, none⟩) (ownBlock_ne h2 b1 (by decide)) _
  · have key : ∀ i x, i ≠ k → vs[i]? = some x → x.ownBlock = none ∨ x.ownBlock ≠ v'.ownBlock := fun i x hi hx => by
      rcases hat with e | ⟨b, e, hb⟩
      · rw [e]; exact h.dis i k x v hi hx hv
      · cases hxo : x.ownBlock with
        | none => exact .inl rfl
        | some c =>
          right
          rw [e]
          intro e2
          cases e2
          have hil : i < Ls.length := by rw [← h.len]; exact (List.getElem?_eq_some_iff.1 hx).1
          have := ((h.row i x Ls[i] hx (List.getElem?_eq_getElem hil)).lt b hxo).2
          omega
    by_cases e : j = k
    · subst e
      rw [List.getElem?_set_self hkv] at hu
      rw [List.getElem?_set_ne hjj] at hu'
      cases hu
      rcases key j' u' (fun e => hjj e.symm) hu' with e2 | e2
      · cases hv' : v'.ownBlock with
        | none => exact .inl rfl
        | some c => right; rw [e2]; simp
      · exact .inr (fun e => e2 e.symm)
    · rw [List.getElem?_set_ne (fun h => e h.symm)] at hu
      by_cases e' : j' = k
      · subst e'
        rw [List.getElem?_set_self hkv] at hu'
        cases hu'
        exact key j u e hu
      · rw [List.getElem?_set_ne (fun h => e' h.symm)] at hu'
        exact h.dis j j' u u' hjj hu hu'
/-- One row has been turned in its place. -/
theorem MatV.turn {w w1 : World} {B mb k : Nat} {vs : List Value} {Ls : List (List Str)} {v : Value} {L L' : List Str} (h : MatV w B mb vs Ls) (hv : vs[k]? = some v) (hL : Ls[k]? = some L) (hown : Strs w1 B v L') (hg : w.grownBy w1 v.ownBlock) : MatV w1 B mb vs (Ls.set k L') := by
  have hrow := h.row k v L hv hL
  refine ⟨(hg.block mb (lt_of_block h.blk) (fun e => ownBlock_ne hrow h.blk (by decide) e.symm)).trans h.blk, by simp [h.len], fun j u M hu hM => ?_, h.dis⟩
  have hkv := (List.getElem?_eq_some_iff.1 hv).1
  by_cases e : j = k
  · subst e
    rw [hu] at hv; cases hv
    rw [List.getElem?_set_self (by rw [← h.len]; exact hkv)] at hM
    cases hM
    exact hown
  · rw [List.getElem?_set_ne (fun h => e h.symm)] at hM
    exact World.ownsRow.kept (h.row j u M hu hM) hg (h.dis j k u v e hu hv)

/-! ### the table under way -/
/-- All that first sets may hold. -/
def firstU (g : Gram) : List Str := [] :: g.flatMap (·.2)
structure TabIn (g : Gram) (H : List Str) (Ls : List (List Str)) : Prop where
  len : Ls.length = H.length
  nodup : ∀ r ∈ Ls, r.Nodup
  inU : ∀ r ∈ Ls, ∀ t ∈ r, t ∈ firstU g
  least : ∀ ph', ClosedS g ph' → ∀ A t, phL H Ls A t = true → ph' A t = true
def missS (g : Gram) (H : List Str) (Ls : List (List Str)) : Nat := (H.flatMap fun A => (firstU g).map fun t => (A, t)).countP fun x => !phL H Ls x.1 x.2
theorem firstU_len {g : Gram} (hm : Sm g) : (firstU g).length ≤ 49 := by
  have h1 := flat_len hm.body
  have h2 := hm.len
  simp only [firstU, List.length_cons]; omega
theorem TabIn.rowlen {g : Gram} {H : List Str} {Ls : List (List Str)} (hm : Sm g) (h : TabIn g H Ls) : ∀ r ∈ Ls, r.length ≤ 49 := fun r hr =>
  Nat.le_trans (nodup_le (h.nodup r hr) (h.inU r hr)) (firstU_len hm)
theorem seqS_inU {g : Gram} {ph : Str → Str → Bool} (hU : ∀ A t, ph A t = true → t ∈ firstU g) : ∀ {l : List Str} {t : Str}, (∀ s ∈ l, s ∈ firstU g) → seqS g ph l t = true → t ∈ firstU g
  | [], t, _, h => by
    have : t = [] := by simpa [seqS] using h
    rw [this]; exact List.mem_cons_self ..
  | s :: l, t, hl, h => by
    unfold seqS at h
    split at h
    · simp only [Bool.or_eq_true, Bool.and_eq_true] at h
      rcases h with h | h
      · exact hU _ _ h.2
      · exact seqS_inU hU (fun x hx => hl x (List.mem_cons_of_mem _ hx)) h.2
    · have : t = s := by simpa using h
      rw [this]; exact hl s (List.mem_cons_self ..)
theorem phL_inU {g : Gram} {H : List Str} {Ls : List (List Str)} (h : ∀ r ∈ Ls, ∀ t ∈ r, t ∈ firstU g) (A t : Str) (hp : phL H Ls A t = true) : t ∈ firstU g := by
  unfold phL at hp
  rw [Bool.and_eq_true] at hp
  have h2 := has_iff.1 hp.2
  by_cases hk : (idxOf A H 0).toNat < Ls.length
  · rw [List.getD_eq_getElem?_getD, List.getElem?_eq_getElem hk] at h2
    exact h _ (List.getElem_mem hk) t h2
  · rw [List.getD_eq_getElem?_getD, List.getElem?_eq_none (by omega)] at h2
    cases h2
theorem body_inU {g : Gram} {p : Prd} (hp : p ∈ g) : ∀ s ∈ p.2, s ∈ firstU g := fun _ hs => List.mem_cons_of_mem _ (List.mem_flatMap.2 ⟨p, hp, hs⟩)
/-- A row's push, in the table. -/
theorem phL_set {H : List Str} {Ls : List (List Str)} (hH : H.Nodup) {k : Nat} (hk : k < H.length) {A : Str} (hA : H[k]? = some A) (s : Str) (hl : k < Ls.length) (A' t : Str) :
    phL H (Ls.set k (Ls[k] ++ [s])) A' t = (phL H Ls A' t || (decide (A' = A) && decide (t = s))) := by
  unfold phL
  cases hh : has H A' with
  | false =>
    have : A' ≠ A := fun e => by
      subst e
      have := has_iff.2 (List.mem_of_getElem? hA)
      rw [hh] at this; cases this
    simp [this]
  | true =>
    obtain ⟨j, hj, hjl⟩ := idxOf_yes (k := 0) hh
    rw [Nat.zero_add] at hj
    rw [hj]
    simp only [Int.toNat_natCast, Bool.true_and]
    have hjH := (List.getElem?_eq_some_iff.1 hjl).1
    by_cases e : j = k
    · subst e
      have eA : A' = A := by rw [hjl] at hA; exact Option.some.inj hA
      rw [List.getD_eq_getElem?_getD, List.getElem?_set_self hl, List.getD_eq_getElem?_getD, List.getElem?_eq_getElem hl]
      simp only [Option.getD_some, hasSnoc, eA, decide_true, Bool.true_and]
    · have eA : A' ≠ A := fun e2 => by
        subst e2
        exact e ((List.getElem_inj (h₀ := hjH) (h₁ := hk) hH).1 (by rw [(List.getElem?_eq_some_iff.1 hjl).2, (List.getElem?_eq_some_iff.1 hA).2]))
      rw [List.getD_eq_getElem?_getD, List.getElem?_set_ne (fun h => e h.symm), ← List.getD_eq_getElem?_getD]
      simp [eA]
theorem TabIn.push {g : Gram} {H : List Str} {Ls Ls0 : List (List Str)} (hH : H.Nodup) (h0 : TabIn g H Ls0) (h : TabIn g H Ls) {p : Prd} (hp : p ∈ g) {k : Nat} (hA : H[k]? = some p.1) (hl : k < Ls.length) {s : Str} (hs : seqS g (phL H Ls0) p.2 s = true) (hn : has Ls[k] s = false) :
    TabIn g H (Ls.set k (Ls[k] ++ [s])) := by
  have hk : k < H.length := (List.getElem?_eq_some_iff.1 hA).1
  have hsU : s ∈ firstU g := seqS_inU (fun A t => phL_inU h0.inU A t) (body_inU hp) hs
  refine ⟨by rw [List.length_set]; exact h.len, fun r hr => ?_, fun r hr t ht => ?_, fun ph' hc A t hpt => ?_⟩
  · rcases List.mem_or_eq_of_mem_set hr with hr | rfl
    · exact h.nodup r hr
    · rw [List.nodup_append]
      refine ⟨h.nodup _ (List.getElem_mem hl), by simp, ?_⟩
      intro a ha b hb e
      simp at hb
      subst hb; subst e
      exact absurd ha (has_false.1 hn)
  · rcases List.mem_or_eq_of_mem_set hr with hr | rfl
    · exact h.inU r hr t ht
    · rcases List.mem_append.1 ht with ht | ht
      · exact h.inU _ (List.getElem_mem hl) t ht
      · simp at ht; subst ht; exact hsU
  · rw [phL_set hH hk hA s hl, Bool.or_eq_true] at hpt
    rcases hpt with hpt | hpt
    · exact h.least ph' hc A t hpt
    · simp only [Bool.and_eq_true, decide_eq_true_eq] at hpt
      obtain ⟨rfl, rfl⟩ := hpt
      exact hc p hp _ (seqS_mono (fun A t e => h0.least ph' hc A t e) hs)
theorem missS_lt {g : Gram} {H : List Str} {Ls Ls' : List (List Str)} {A t : Str} (h : ∀ A' s, phL H Ls' A' s = (phL H Ls A' s || (decide (A' = A) && decide (s = t)))) (hA : A ∈ H) (ht : t ∈ firstU g) (hn : phL H Ls A t = false) : missS g H Ls' + 1 ≤ missS g H Ls := by
  refine countP_lt (fun x hx => ?_) (x := (A, t)) (List.mem_flatMap.2 ⟨A, hA, List.mem_map.2 ⟨t, ht, rfl⟩⟩) (by simp [hn]) (by simp [h])
  rw [h] at hx
  cases hh : phL H Ls x.1 x.2
  · rfl
  · simp [hh] at hx
/-- A round over the productions. -/
structure FsRd (g : Gram) (H : List Str) (m0 : Nat) (ag : Bool) (Ls : List (List Str)) (k : Nat) : Prop where
  ok : TabIn g H Ls
  le : missS g H Ls ≤ m0
  lt : ag = true → missS g H Ls < m0
  cl : ag = false → ∀ j, j < k → (hj : j < g.length) → ∀ t, seqS g (phL H Ls) g[j].2 t = true → phL H Ls g[j].1 t = true
/-- The row of a production, under way: the set of its body is R, of which j are in. -/
structure FsRow (g : Gram) (H : List Str) (m0 : Nat) (ag0 ag : Bool) (Ls0 Ls : List (List Str)) (A : Str) (R : List Str) (j : Nat) : Prop where
  ok : TabIn g H Ls
  ph : ∀ A' t, phL H Ls A' t = (phL H Ls0 A' t || (decide (A' = A) && has (R.take j) t))
  le : missS g H Ls ≤ m0
  lt : ag = true → missS g H Ls < m0
  eq : ag = false → ag0 = false ∧ Ls = Ls0
theorem FsRow.end {g : Gram} {H : List Str} {m0 : Nat} {ag0 ag : Bool} {Ls0 Ls : List (List Str)} {R : List Str} {k j : Nat} (hk : k < g.length) (h0 : FsRd g H m0 ag0 Ls0 k) (h : FsRow g H m0 ag0 ag Ls0 Ls g[k].1 R j) (hj : R.length ≤ j) (hR : ∀ t, has R t = seqS g (phL H Ls0) g[k].2 t) : FsRd g H m0 ag Ls (k + 1) := by
  refine ⟨h.ok, h.le, h.lt, fun e i hi hil t ht => ?_⟩
  obtain ⟨e1, rfl⟩ := h.eq e
  by_cases hik : i < k
  · exact h0.cl e1 i hik hil t ht
  · obtain rfl : i = k := by omega
    rw [h.ph, List.take_of_length_le hj, hR, ht]
    simp
end Go.Proofs.YtdejcdmgcckmoaaGreatDoor
namespace Go.Proofs.YtdejcdmgcckmoaaGreatDoor
open Go.RowKit Lr

def sortedS (l : List Str) : Prop := l.Pairwise fun x y => x ≤ y
theorem leS_trans (a b c : Str) : decide (a ≤ b) = true → decide (b ≤ c) = true → decide (a ≤ c) = true := by
  simp only [decide_eq_true_eq]; exact fun h1 h2 => List.le_trans h1 h2
theorem leS_total (a b : Str) : (decide (a ≤ b) || decide (b ≤ a)) = true := by
  simp only [Bool.or_eq_true, decide_eq_true_eq]; exact List.le_total a b
theorem sortS_sorted (l : List Str) : sortedS (sortS l) := by
  have := List.pairwise_mergeSort (le := fun x y : Str => decide (x ≤ y)) leS_trans leS_total l
  exact this.imp fun h => by simpa using h
theorem sortS_perm (l : List Str) : (sortS l).Perm l := List.mergeSort_perm l _
theorem sortS_mem (l : List Str) (t : Str) : t ∈ sortS l ↔ t ∈ l := (sortS_perm l).mem_iff
theorem sortS_has (l : List Str) (t : Str) : has (sortS l) t = has l t := by
  rw [Bool.eq_iff_iff, has_iff, has_iff, sortS_mem]
theorem sortS_nodup {l : List Str} (h : l.Nodup) : (sortS l).Nodup := (sortS_perm l).nodup_iff.2 h
theorem sorted_eq {l m : List Str} (h1 : sortedS l) (h2 : sortedS m) (n1 : l.Nodup) (n2 : m.Nodup) (h : ∀ t, t ∈ l ↔ t ∈ m) : l = m := by
  refine sorted_uniq (r := fun x y : Str => x < y) (fun x => List.lt_irrefl x) (fun x y h1 h2 => List.lt_asymm h1 h2) ?_ ?_ h
  · exact (List.Pairwise.and h1 n1).imp fun ⟨a, b⟩ => Std.lt_of_le_of_ne a b
  · exact (List.Pairwise.and h2 n2).imp fun ⟨a, b⟩ => Std.lt_of_le_of_ne a b

/-- What `Firsts` gives. -/
structure FirstsOk (g : Gram) (H : List Str) (Ls : List (List Str)) : Prop where
  len : Ls.length = H.length
  nodup : ∀ r ∈ Ls, r.Nodup
  sorted : ∀ r ∈ Ls, sortedS r
  inU : ∀ r ∈ Ls, ∀ t ∈ r, t ∈ firstU g
  least : LeastS g (phL H Ls)
theorem phL_sort (H : List Str) (Ls : List (List Str)) : phL H (Ls.map sortS) = phL H Ls := by
  funext A t
  unfold phL
  congr 1
  rw [List.getD_eq_getElem?_getD, List.getD_eq_getElem?_getD, List.getElem?_map]
  cases Ls[(idxOf A H 0).toNat]? with
  | none => rfl
  | some r => exact sortS_has r t
theorem FirstsOk.mk' {g : Gram} {H : List Str} {Ls : List (List Str)} (h : TabIn g H Ls) (hc : ClosedS g (phL H Ls)) : FirstsOk g H (Ls.map sortS) := by
  refine ⟨by rw [List.length_map]; exact h.len, fun r hr => ?_, fun r hr => ?_, fun r hr t ht => ?_, ?_⟩
  · obtain ⟨q, hq, rfl⟩ := List.mem_map.1 hr
    exact sortS_nodup (h.nodup q hq)
  · obtain ⟨q, hq, rfl⟩ := List.mem_map.1 hr
    exact sortS_sorted q
  · obtain ⟨q, hq, rfl⟩ := List.mem_map.1 hr
    exact h.inU q hq t ((sortS_mem q t).1 ht)
  · rw [phL_sort]
    exact ⟨hc, h.least⟩
theorem tab_init {g : Gram} {H : List Str} : TabIn g H (List.replicate H.length []) := by
  refine ⟨by simp, fun r hr => ?_, fun r hr t ht => ?_, fun ph' _ A t h => ?_⟩
  · rw [List.eq_of_mem_replicate hr]; exact List.nodup_nil
  · rw [List.eq_of_mem_replicate hr] at ht; cases ht
  · exfalso
    unfold phL at h
    rw [Bool.and_eq_true] at h
    have h2 := has_iff.1 h.2
    rw [List.getD_eq_getElem?_getD, List.getElem?_replicate] at h2
    split at h2 <;> cases h2
theorem closed_of {g : Gram} {H : List Str} {m0 : Nat} {Ls : List (List Str)} {k : Nat} (h : FsRd g H m0 false Ls k) (hk : g.length ≤ k) : ClosedS g (phL H Ls) := fun p hp t ht => by
  obtain ⟨j, hj, rfl⟩ := List.getElem_of_mem hp
  exact h.cl rfl j (by omega) hj t ht
theorem missS_le {g : Gram} (hm : Sm g) {H : List Str} (hH : H.length ≤ 12) (Ls : List (List Str)) : missS g H Ls ≤ 588 := by
  have h1 : missS g H Ls ≤ (H.flatMap fun A => (firstU g).map fun t => (A, t)).length := List.countP_le_length
  rw [flatMap_len _ (firstU g).length _ (fun a _ => by simp)] at h1
  have h2 := Nat.mul_le_mul hH (firstU_len hm)
  omega
theorem row_ne {g : Gram} (hg : GOk g) {Ls : List (List Str)} (hl : Ls.length = (headsF g).length) (hc : ClosedS g (phL (headsF g) Ls)) {k : Nat} (hk : k < Ls.length) : 0 < Ls[k].length := by
  have hkH : k < (headsF g).length := by omega
  have hA : isHead g (headsF g)[k] = true := headsF_mem.1 (List.getElem_mem hkH)
  obtain ⟨t, ht⟩ := first_some hg.prod hc hA
  unfold phL at ht
  rw [Bool.and_eq_true] at ht
  obtain ⟨j, hj, hjl⟩ := idxOf_yes (k := 0) ht.1
  rw [Nat.zero_add] at hj
  rw [hj] at ht
  have hjH := (List.getElem?_eq_some_iff.1 hjl).1
  have e : j = k := (List.getElem_inj (h₀ := hjH) (h₁ := hkH) (headsF_nodup g)).1 (List.getElem?_eq_some_iff.1 hjl).2
  subst e
  have h2 := has_iff.1 ht.2
  rw [Int.toNat_natCast, List.getD_eq_getElem?_getD, List.getElem?_eq_getElem hk] at h2
  exact List.length_pos_of_mem h2

/-- A row that is none of these. -/
def OffV (vs : List Value) (v : Value) : Prop := ∀ (k : Nat) (u : Value), vs[k]? = some u → v.ownBlock = none ∨ v.ownBlock ≠ u.ownBlock
theorem OffV.fresh {w : World} {B B' mb : Nat} {vs : List Value} {Ls : List (List Str)} (h : MatV w B mb vs Ls) {w' : World} {v : Value} {e : TypeId} {size n : Nat} {xs : List Value} (hv : w'.ownsRow B' e size v n xs) (hB : w.heap.size ≤ B') : OffV vs v := fun k u hu => by
  cases hb : v.ownBlock with
  | none => exact .inl rfl
  | some b =>
    right
    intro e
    have hk : k < Ls.length := by rw [← h.len]; exact (List.getElem?_eq_some_iff.1 hu).1
    have h1 := ((h.row k u Ls[k] hu (List.getElem?_eq_getElem hk)).lt b e.symm).2
    have h2 := (hv.lt b hb).1
    omega
theorem OffV.set {w : World} {vs : List Value} {v u u' : Value} {k : Nat} {B' : Nat} {e : TypeId} {size n : Nat} {xs : List Value} (h : OffV vs v) (hv : w.ownsRow B' e size v n xs) (hu : vs[k]? = some u) (hat : u'.ownBlock = u.ownBlock ∨ ∃ b, u'.ownBlock = some b ∧ w.heap.size ≤ b) : OffV (vs.set k u') v := fun j x hx => by
  by_cases e1 : j = k
  · subst e1
    rw [List.getElem?_set_self (List.getElem?_eq_some_iff.1 hu).1] at hx
    cases hx
    rcases hat with e | ⟨b, e, hb⟩
    · rw [e]; exact h j u hu
    · cases hvb : v.ownBlock with
      | none => exact .inl rfl
      | some c =>
        right
        rw [e]
        intro e2
        cases e2
        have := (hv.lt b hvb).2
        omega
  · rw [List.getElem?_set_ne (fun h => e1 h.symm)] at hx
    exact h j x hx
theorem sort_step {Ls : List (List Str)} {k : Nat} (hk : k < Ls.length) : ((Ls.take k).map sortS ++ Ls.drop k).set k (sortS Ls[k]) = (Ls.take (k + 1)).map sortS ++ Ls.drop (k + 1) := by
  have h0 : ((Ls.take k).map sortS).length = k := by rw [List.length_map, List.length_take]; omega
  rw [List.set_append_right _ _ (by omega), h0, Nat.sub_self, List.drop_eq_getElem_cons hk, List.set_cons_zero, List.take_succ_eq_append_getElem hk, List.map_append, List.append_assoc]
  rfl
theorem FsRow.init {g : Gram} {H : List Str} {m0 : Nat} {ag : Bool} {Ls : List (List Str)} {k : Nat} (h : FsRd g H m0 ag Ls k) (A : Str) (R : List Str) : FsRow g H m0 ag ag Ls Ls A R 0 :=
  ⟨h.ok, fun A' t => by simp [has], h.le, h.lt, fun e => ⟨e, rfl⟩⟩
theorem FsRow.skip {g : Gram} {H : List Str} {m0 : Nat} {ag0 ag : Bool} {Ls0 Ls : List (List Str)} {A : Str} {R : List Str} {j kA : Nat} (h : FsRow g H m0 ag0 ag Ls0 Ls A R j) (hj : j < R.length) (hA : has H A = true) (hk : idxOf A H 0 = (kA : Int)) (hl : kA < Ls.length) (hh : has Ls[kA] R[j] = true) :
    FsRow g H m0 ag0 ag Ls0 Ls A R (j + 1) := by
  refine ⟨h.ok, fun A' t => ?_, h.le, h.lt, h.eq⟩
  rw [has_takeS hj]
  by_cases e : A' = A
  · by_cases e2 : t = R[j]
    · subst e e2
      rw [phL_at hA hk hl, hh]; simp
    · rw [h.ph]; simp [e2]
  · rw [h.ph]; simp [e]
theorem FsRow.push {g : Gram} {H : List Str} {m0 : Nat} {ag0 ag : Bool} {Ls0 Ls : List (List Str)} {p : Prd} {R : List Str} {j kA : Nat} (h0 : TabIn g H Ls0) (hp : p ∈ g) (h : FsRow g H m0 ag0 ag Ls0 Ls p.1 R j) (hH : H.Nodup) (hj : j < R.length) (hA : H[kA]? = some p.1) (hh0 : has H p.1 = true) (hk : idxOf p.1 H 0 = (kA : Int)) (hl : kA < Ls.length)
    (hR : ∀ t, has R t = seqS g (phL H Ls0) p.2 t) (hh : has Ls[kA] R[j] = false) : FsRow g H m0 ag0 true Ls0 (Ls.set kA (Ls[kA] ++ [R[j]])) p.1 R (j + 1) := by
  have hs : seqS g (phL H Ls0) p.2 R[j] = true := by rw [← hR, has_iff]; exact List.getElem_mem hj
  have hkH := (List.getElem?_eq_some_iff.1 hA).1
  have hph := fun A' t => phL_set hH hkH hA R[j] hl A' t
  have hsU : R[j] ∈ firstU g := seqS_inU (fun A t => phL_inU h0.inU A t) (body_inU hp) hs
  have hlt := missS_lt (g := g) hph (List.mem_of_getElem? hA) hsU (by rw [phL_at hh0 hk hl]; exact hh)
  have hle := h.le
  refine ⟨h0.push hH h.ok hp hA hl hs hh, fun A' t => ?_, by omega, fun _ => by omega, (by intro e; cases e)⟩
  rw [hph, h.ph, has_takeS hj]
  cases phL H Ls0 A' t <;> cases decide (A' = p.1) <;> cases has (List.take j R) t <;> cases decide (t = R[j]) <;> rfl

set_option maxRecDepth 20000 in
set_option maxHeartbeats 4000000 in
theorem Firsts_any (v : Value) (g : Gram) (w : World) (h : GramAt w v g) (hg : GOk g) :
    Calls Tryz.prog 19 #[v] w fun e w' => ∃ v' Ls, e = .returned v' ∧ MatAt w' v' Ls ∧ FirstsOk g (headsF g) Ls ∧ New w w' := by
  obtain ⟨a, cap, rfl⟩ := h.slice
  have hm := hg.toSm
  have hlen := hm.len
  have hhl := headsF_len g
  have HG := Lib.hid (And.intro h (And.intro hg (headsF_nodup g)))
  clear h
  go_enter Tryz.func19, Tryz.ntmps19
  go_wp2_with fail
  refine (Heads_any _ g w HG.out.1 (by omega)).mono ?_
  rintro e w1 ⟨v1, rfl, ho1, hn1⟩
  obtain ⟨H, hH⟩ : ∃ H, H = headsF g := ⟨_, rfl⟩
  rw [← hH] at ho1 hhl
  have HH := Lib.hid hH
  have HS := Lib.hid ho1.at
  clear hH
  obtain ⟨aH, cH, rfl⟩ := owns_slice ho1
  have hmk := make_one T29 rfl H.length (by omega) (by omega) w1
  clear ho1
  go_wp2_with fail
  clear hmk
  have hMat0 : MatV (w1.alloc (.cells (Array.replicate H.length (.slice none 0 0)) 24)) w1.heap.size w1.heap.size _ (List.replicate H.length []) := MatV.made
  have hn2 : New w1 (w1.alloc (.cells (Array.replicate H.length (.slice none 0 0)) 24)) := (New.refl w1).alloc _
  have H0 := Lib.hid (And.intro hMat0 hn2)
  clear hMat0 hn2
  go_loopg [5] 600 (fun gk u5 wr => ∃ (ag : Bool) (vs : List Value) (Ls : List (List Str)), u5 = .bool ag ∧ MatV wr w1.heap.size w1.heap.size vs Ls ∧ TabIn g H Ls ∧ (ag = false → ClosedS g (phL H Ls)) ∧ missS g H Ls + (if ag then 1 else 0) ≤ gk ∧ New w1 wr)
  case atStart => exact ⟨true, _, _, rfl, H0.out.1, tab_init, (by intro e; cases e), by have := missS_le hm (H := H) (by omega) (List.replicate H.length []); simp; omega, H0.out.2⟩
  case round =>
    clear H0
    obtain ⟨ag, vs, Ls, rfl, hM, hT, hC, hgk, hn⟩ := hrel
    have HM := Lib.hid (And.intro hM (And.intro hT hC))
    clear hM hT hC
    cases ag with
    | false =>
      have hC := HM.out.2.2 rfl
      have hTl := HM.out.2.1.len
      have hne : ∀ k, (hk : k < Ls.length) → 0 < Ls[k].length := fun k hk => by
        have e := HH.out
        subst e
        exact row_ne HG.out.2.1 hTl hC hk
      have HN := Lib.hid hne
      have HF := Lib.hid (FirstsOk.mk' HM.out.2.1 hC)
      have hrl := HM.out.2.1.rowlen hm
      have HR := Lib.hid hrl
      have HTl := Lib.hid hTl
      have hle1 : Ls.length ≤ H.length := by omega
      have hle2 : H.length ≤ Ls.length := by omega
      clear hC hne hTl hrl
      go_wp2
      go_loopg [59] H.length (fun gj u59 wr => ∃ (k : Nat) (Ms : List (List Str)), k ≤ H.length ∧ gj = H.length - k ∧ u59 = .int .i64 k ∧ MatV wr w1.heap.size w1.heap.size vs Ms ∧ Hid (Ms = (Ls.take k).map sortS ++ Ls.drop k) ∧ New w1 wr)
      case atStart => exact ⟨0, Ls, Nat.zero_le _, rfl, rfl, HM.out.1, Lib.hid (by simp), hn⟩
      case round =>
        obtain ⟨k, Ms, hk, rfl, rfl, hM, hMs, hn⟩ := hrel
        by_cases hlt : k < H.length
        · have hkL : k < Ls.length := by omega
          have hMsl : Ms.length = Ls.length := by rw [hMs.out]; simp; omega
          obtain ⟨vk, hvk⟩ : ∃ vk, vs[k]? = some vk := ⟨_, List.getElem?_eq_getElem (by rw [hM.len]; omega)⟩
          have hMk : Ms[k]? = some Ls[k] := by
            rw [hMs.out, List.getElem?_append_right (by simp; omega)]
            simp only [List.length_map, List.length_take]
            rw [List.getElem?_drop]
            have : k + (k - min k Ls.length) = k := by omega
            rw [this, List.getElem?_eq_getElem hkL]
          have hrow := hM.row k vk Ls[k] hvk hMk
          have hrl := HR.out _ (List.getElem_mem hkL)
          have hq := Lib.hid (Sort_strs hrow (HN.out k hkL) (by omega))
          have c1 := cell_of_blk hM.blk k
          have e1 : vs.toArray[k]? = some vk := by simpa using hvk
          rw [e1] at c1
          have HX := Lib.hid (And.intro hM (And.intro hMk (And.intro hrow (And.intro hMsl hvk))))
          obtain ⟨ak, ck, eak⟩ := owns_slice hrow
          have HK := Lib.hid eak
          rw [eak] at c1
          clear hM hMk hrow hMsl hrl e1 eak hvk
          go_wp2_with fail
          rw [← HK.out]
          refine hq.out.mono ?_
          rintro e w2 ⟨rfl, hs2, hg2⟩
          obtain ⟨hM, hMk, hrow, hMsl, hvk⟩ := HX.out
          have hM2 := hM.turn hvk hMk hs2 hg2
          have hn2 : New w1 w2 := Below.push hn hrow hg2 hn.size
          have HM2 := Lib.hid (And.intro hM2 hn2)
          clear hM hMk hrow hMsl hvk hM2 hn2 hq hg2 hs2 c1
          go_wp2_with fail
          go_roundg (H.length - (k + 1))
          case measure => omega
          case rel =>
            refine ⟨k + 1, _, by omega, rfl, by go_num, HM2.out.1, Lib.hid ?_, HM2.out.2⟩
            rw [hMs.out]; exact sort_step hkL
        · have hMs' : Ms = Ls.map sortS := by
            rw [hMs.out, List.take_of_length_le (by omega), List.drop_of_length_le (by omega), List.append_nil]
          have hMsl : Ms.length = H.length := by rw [hMs', List.length_map]; exact HTl.out
          have hfin := hM.at (cap := H.length) (by omega)
          rw [hMsl, hMs'] at hfin
          have HFIN := Lib.hid hfin
          clear hMs' hMsl hfin
          go_wp2
          go_ret
          refine ⟨_, Ls.map sortS, rfl, HFIN.out, ?_, hn1.trans hn⟩
          rw [← HH.out]
          exact HF.out
    | true =>
      simp only [if_true] at hgk
      generalize hm0 : missS g H Ls = m0 at *
      have hin : FsRd g H m0 false Ls 0 := ⟨HM.out.2.1, by omega, (by intro e; cases e), fun _ j hj => by omega⟩
      have HIN := Lib.hid (And.intro HM.out.1 hin)
      clear hin
      go_wp2
      go_loopg [5, 20] g.length (fun gj u5 u20 wr => ∃ (ag : Bool) (vs : List Value) (Ls : List (List Str)) (k : Nat), k ≤ g.length ∧ gj = g.length - k ∧ u5 = .bool ag ∧ u20 = .int .i64 k ∧ MatV wr w1.heap.size w1.heap.size vs Ls ∧ FsRd g H m0 ag Ls k ∧ New w1 wr)
      case atStart => exact ⟨false, vs, Ls, 0, Nat.zero_le _, rfl, rfl, rfl, HIN.out.1, HIN.out.2, hn⟩
      case round =>
        clear hn HIN hm0 HM
        obtain ⟨ag, vs, Ls, k, hk, rfl, rfl, rfl, hM, hR, hn⟩ := hrel
        by_cases hlt : k < g.length
        · obtain ⟨b, o, a', cap', e, h1, h2, h3⟩ := (HG.out.1.new hn1).elem hlt
          cases e
          have hn1r := hn1.trans hn
          have hmem := List.getElem_mem hlt
          have hbl := hm.body _ hmem
          have hHead : has H g[k].1 = true := by rw [HH.out, has_iff, headsF_mem, isHead_iff]; exact ⟨g[k].2, hmem⟩
          obtain ⟨kA, hkA, hkl⟩ := idxOf_yes (k := 0) hHead
          rw [Nat.zero_add] at hkA
          have hkH := (List.getElem?_eq_some_iff.1 hkl).1
          have hq := Index_str _ H g[k].1 (wr.alloc (.cells #[sv g[k].1, .slice a' g[k].2.length cap'] 67)) (HS.out.new (hn.alloc _)) (by omega)
          rw [hkA] at hq
          have hq := Lib.hid hq
          have hHas : ∀ s, has H s = isHead g s := fun s => by rw [HH.out, Bool.eq_iff_iff, has_iff, headsF_mem]
          have hTl := hR.ok.len
          have hLl : H.length ≤ Ls.length := by omega
          have hLl2 : Ls.length ≤ H.length := by omega
          have hrl := hR.ok.rowlen hm
          have hq2 := Lib.hid (firstOf_any g (w := wr.alloc (.cells #[sv g[k].1, .slice a' g[k].2.length cap'] 67)) (HS.out.new (hn.alloc _)) (MatV.at (cap := H.length) (hM.new ((New.refl wr).alloc _)) (by omega)) ((h3.new hn).new ((New.refl wr).alloc _)) hHas hTl (by omega) (by omega) (fun r hr => Nat.le_trans (hrl r hr) (by omega)))
          have h1 := hn.cell h1
          have h2 := hn.cell h2
          have H2 := Lib.hid (And.intro hM (And.intro hR (And.intro hkl (And.intro hHas (And.intro hHead hkA)))))
          have eLs : Ls.length = H.length := hTl
          rw [eLs] at hq2
          clear hM hR hkl hHas hHead hkA h3 hTl hrl eLs
          go_wp2_with (first | (go_at_call 55; refine hq.out.mono ?_; rintro e w' ⟨rfl, rfl⟩))
          refine hq2.out.mono ?_
          rintro e w2 ⟨v2, R, rfl, hR2, hRm, hRl, hn2⟩
          obtain ⟨aR, cR, rfl⟩ := owns_slice hR2
          obtain ⟨w2b, hw2b⟩ : ∃ n, n = wr.heap.size := ⟨_, rfl⟩
          have e2b : (wr.alloc (.cells #[sv g[k].1, .slice a' g[k].2.length cap'] 67)).heap.size = w2b + 1 := by simp [hw2b]
          rw [e2b] at hR2
          have hn02 : New wr w2 := ((New.refl wr).alloc _).trans hn2
          have H3 := Lib.hid (And.intro hR2 (And.intro hRm (And.intro (hn.trans hn02) (OffV.fresh H2.out.1 hR2 (by omega)))))
          have HM2 := Lib.hid (H2.out.1.new hn02)
          clear hR2 hRm hn2 hq hq2 h1 h2 hw2b e2b
          go_wp2_with fail
          go_loopg [5, 34] R.length (fun gj u5 u34 wr => ∃ (ag' : Bool) (vs' : List Value) (Ls' : List (List Str)) (j : Nat), j ≤ R.length ∧ gj = R.length - j ∧ u5 = .bool ag' ∧ u34 = .int .i64 j ∧ MatV wr w1.heap.size w1.heap.size vs' Ls' ∧ FsRow g H m0 ag ag' Ls Ls' g[k].1 R j ∧ New w1 wr ∧ Strs wr (w2b + 1) (.slice aR R.length cR) R ∧ OffV vs' (.slice aR R.length cR))
          case atStart => exact ⟨ag, vs, Ls, 0, Nat.zero_le _, rfl, rfl, rfl, HM2.out, FsRow.init H2.out.2.1 _ _, H3.out.2.2.1, H3.out.1, H3.out.2.2.2⟩
          case round =>
            clear HM2 hn hn1r hn02
            obtain ⟨ag', vs', Ls', j, hj, rfl, rfl, rfl, hM, hR, hn, hRr, hoff⟩ := hrel
            by_cases hjl : j < R.length
            · obtain ⟨b3, o3, e3, h4⟩ := hRr.at.elem hjl
              cases e3
              have hTl := hR.ok.len
              have hkL : kA < Ls'.length := by omega
              obtain ⟨vk, hvk⟩ : ∃ vk, vs'[kA]? = some vk := ⟨_, List.getElem?_eq_getElem (by rw [hM.len]; omega)⟩
              have hrow := hM.row kA vk Ls'[kA] hvk (List.getElem?_eq_getElem hkL)
              have hrl := hR.ok.rowlen hm _ (List.getElem_mem hkL)
              have c1 := cell_of_blk hM.blk kA
              have e1 : vs'.toArray[kA]? = some vk := by simpa using hvk
              rw [e1] at c1
              have f1 := free_of_blk hM.blk kA
              obtain ⟨ak, ck, eak⟩ := owns_slice hrow
              subst eak
              have hq := Lib.hid (Contains_str _ Ls'[kA] R[j] wr hrow.at (by omega))
              have HX := Lib.hid (And.intro hM (And.intro hR (And.intro hvk (And.intro hrow (And.intro hRr hoff)))))
              have hsz := hn.size
              generalize hRj : R[j] = s at *
              generalize hLk : Ls'[kA] = Lk at *
              have HE := Lib.hid (And.intro hRj hLk)
              clear hM hR hvk e1 hTl hRj hLk hRr hoff
              have hB : w1.heap.size ≤ wr.heap.size := hsz
              go_wp2_with (first | (go_at_call 15; refine hq.out.mono ?_; rintro e w' ⟨rfl, rfl⟩) | (at_builtin; go_must (refine wpList_push _ rfl _ _ _ _ rfl T24 w1.heap.size _ _ _ rfl hrow [_] rfl rfl _ _ rfl (by simp) (by omega) (by omega) (by omega) ?_)))
              · intro v' w3 hown1 hgrow hne hat
                have ht : (!has Lk s) = true := by assumption
                obtain ⟨hM, hR, hvk, hrow, hRr, hoff⟩ := HX.out
                have b1 := (hgrow.block w1.heap.size (lt_of_block hM.blk) (fun e => ownBlock_ne hrow hM.blk (by decide) e.symm)).trans hM.blk
                have hown2 := Strs.push hown1
                have hLk : Ls'[kA]? = some Lk := by rw [List.getElem?_eq_getElem hkL, HE.out.2]
                have hM2 := hM.push (L' := Lk ++ [s]) hvk hLk hown2 hgrow hat
                have hR2 := FsRow.push H2.out.2.1.ok hmem hR (by rw [HH.out]; exact HG.out.2.2) hjl H2.out.2.2.1 H2.out.2.2.2.2.1 H2.out.2.2.2.2.2 hkL H3.out.2.1 (by rw [HE.out.1, HE.out.2]; simpa using ht)
                rw [HE.out.1, HE.out.2] at hR2
                have hRr2 := ownsRow_setCell_other (World.ownsRow.kept hRr hgrow (hoff kA _ hvk)) (a := ⟨w1.heap.size, kA, none⟩) (ownBlock_ne (World.ownsRow.kept hRr hgrow (hoff kA _ hvk)) b1 (by decide)) v'
                have hoff2 := hoff.set hRr hvk hat
                have hn3 : New w1 (w3.setCell ⟨w1.heap.size, kA, none⟩ v') := (Below.push hn hrow hgrow (by omega)).setCell (by simp) _
                have HF := Lib.hid (And.intro hM2 (And.intro hR2 (And.intro hRr2 (And.intro hoff2 hn3))))
                have e1 := cell_of_blk b1 kA
                have e2 : vs'.toArray[kA]? = some (.slice ak Lk.length ck) := by simpa using hvk
                rw [e2] at e1
                have e3 := free_of_blk b1 kA
                obtain ⟨av, cv, rfl⟩ := owns_slice hown1
                clear hM hR hvk hrow hRr hoff b1 hown2 hLk hM2 hR2 hRr2 hoff2 hn3 e2 hgrow hne hat hn hown1
                go_wp2
                go_roundg (R.length - (j + 1))
                case measure => omega
                case rel => exact ⟨true, _, _, j + 1, by omega, rfl, rfl, by go_num, HF.out.1, HF.out.2.1, HF.out.2.2.2.2, HF.out.2.2.1, HF.out.2.2.2.1⟩
              · have ht : (!has Lk s) = false := by assumption
                obtain ⟨hM, hR, hvk, hrow, hRr, hoff⟩ := HX.out
                go_roundg (R.length - (j + 1))
                case measure => omega
                case rel => exact ⟨ag', vs', Ls', j + 1, by omega, rfl, rfl, by go_num, hM, hR.skip hjl H2.out.2.2.2.2.1 H2.out.2.2.2.2.2 hkL (by rw [HE.out.1, HE.out.2]; simpa using ht), hn, hRr, hoff⟩
            · have hend := FsRow.end hlt H2.out.2.1 hR (by omega) H3.out.2.1
              have HE := Lib.hid hend
              clear hend
              go_wp2
              go_roundg (g.length - (k + 1))
              case measure => omega
              case rel => exact ⟨ag', vs', Ls', k + 1, by omega, rfl, rfl, by go_num, hM, HE.out, hn⟩
        · go_wp2
          go_roundg (missS g H Ls + (if ag then 1 else 0))
          case measure =>
            cases ag with
            | true => have := hR.lt rfl; simp; omega
            | false => have := hR.le; simp; omega
          case rel =>
            exact ⟨ag, vs, Ls, rfl, hM, hR.ok, fun e => by subst e; exact closed_of hR (by omega), Nat.le_refl _, hn⟩
end Go.Proofs.YtdejcdmgcckmoaaGreatDoor
