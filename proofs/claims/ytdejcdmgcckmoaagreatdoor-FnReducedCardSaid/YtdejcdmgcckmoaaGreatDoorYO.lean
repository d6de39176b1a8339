/- Items: moved, compared, first sets of what stands behind. -/
import Derived.Test.YtdejcdmgcckmoaaGreatDoorYN
import Derived.Test.YtdejcdmgcckmoaaGreatDoorYK
namespace Go.Proofs.YtdejcdmgcckmoaaGreatDoor
open Go.RowKit Lr

/-- `append(s, x)` of one element onto a slice that is full: a new row. -/
theorem wpList_append_full {P : Program} {ops : Array Oper} {rest : List Oper} {o : Oper} {a : Act} {Q : Exit → Act → World → Prop} (W : World) (hgd : o.guard = none) (s x : Operand) (t e : TypeId)
    (ho : o.op = .call { callee := .builtin .append, args := #[s, x], argTypes := #[t, t] }) {bytes : Nat} {z : Value} (T : SliceTy P t e 1 bytes z)
    (ad : Addr) (n : Nat) (xs : List Value) (hs : a.eval s = .slice (some ad) n n) (hxs : xs.length = n) (holds : ∀ j v, xs[j]? = some v → W.cell? (ad.add j) = some v) (u : Value)
    (c hp : Nat) (hx : a.eval x = .slice (some ⟨hp, 0, none⟩) 1 c) (hhp : hp = W.heap.size) (hbytes : (n + 1) * bytes ≤ 140737488355328) (hlen : n + 1 ≤ 140737488355328)
    (h : ∀ v' w', w'.ownsRow W.heap.size e 1 v' (n + 1) (xs ++ [u]) → New W w' → wpList P ops Q rest (a.put o.dst v') w') :
    wpList P ops Q (o :: rest) a (W.alloc (.cells #[u] e)) := by
  subst hhp
  obtain ⟨i, hi, hz0, hz1, hz2⟩ := info_parts T.row
  refine wpList_plain hgd fun K hK => ?_
  have hnew : New W (W.alloc (.cells #[u] e)) := (New.refl W).alloc _
  have hold' : ∀ j v, xs[j]? = some v → (W.alloc (.cells #[u] e)).cell? (ad.add j) = some v := fun j v hv => hnew.cell (holds j v hv)
  have hr := run_append_grow (P := P) (W.alloc (.cells #[u] e)) t o.type e i z T.und hi hz0 ad n n xs (by rw [hz1, hxs]; omega) hold' ⟨W.heap.size, 0, none⟩ 1 c [u] (by rw [hz1]; rfl) (cell_one_new W u e) (by omega) (by omega) (growslice_fits (by omega) (by rw [hz2]; exact hbytes))
  have hge := grownCap_ge (W.alloc (.cells #[u] e)) (n + 1) n e
  have hcm : grownCap (W.alloc (.cells #[u] e)) (n + 1) n e ≤ maxLen := grownCap_le_maxLen (W.alloc (.cells #[u] e)) (n + 1) n e (by unfold maxLen; omega)
  have hzs := T.cells
  unfold Oper.wp execOp
  simp only [ho, resolve, invoke, builtin, Sem.run_bind, Sem.run_pure, Result.andThen_ok, List.map_toArray, List.map_cons, List.map_nil, hs, hx, hr]
  refine hK _ _ (h _ _ ⟨by simp [hxs], .inr ⟨_, _, _, rfl, ?_, heap_alloc_new (W.alloc (.cells #[u] e)).drew _, hge, hcm, ?_, ?_⟩⟩ ?_)
  · simp
  · simp only [Array.size_append, List.size_toArray, size_zeroCells, hzs, hxs, List.length_singleton]
    omega
  · simp only [Array.toList_append, List.append_assoc]
    rw [← List.append_assoc, List.take_left' (by simp [hxs])]
  · exact (hnew.drewN 1).alloc _

theorem make24c (k : Nat) (hk : k ≤ 100000000) (W : World) : (Instr.makeSlice 24 (.int .i64 0) (.int .i64 k)).run Tryz.prog W = .ok (.slice (some ⟨W.heap.size, 0, none⟩) 0 k) (W.alloc (.cells (Array.replicate k (.string ByteArray.empty)) 9)) := by
  obtain ⟨i, hi, hz0, hz1, hz2⟩ := info_parts T24.row
  have := run_make (P := Tryz.prog) W 24 9 i (.string ByteArray.empty) T24.und hi hz0 .i64 .i64 0 (k : Int) (by omega) (by omega) (by rw [hz2]; omega) (by omega)
  rw [hz1] at this
  simp only [Int.toNat_zero, Int.toNat_natCast, Nat.mul_one] at this
  rw [show (Value.string ByteArray.empty).cells = #[Value.string ByteArray.empty] from rfl, madeCells_one] at this
  exact this
end Go.Proofs.YtdejcdmgcckmoaaGreatDoor
namespace Go.Proofs.YtdejcdmgcckmoaaGreatDoor
open Go.RowKit Lr

structure KeyIn (S L : Str → Bool) (lst : List Str) : Prop where
  nodup : lst.Nodup
  mem : ∀ t, t ∈ lst ↔ S t = true ∧ L t = false
theorem KeyIn.add {S L : Str → Bool} {lst : List Str} {s : Str} (h : KeyIn S L lst) (hs : S s = true) (hL : L s = true) : KeyIn S (fun t => L t && !decide (t = s)) (lst ++ [s]) := by
  refine ⟨?_, fun t => ?_⟩
  · rw [List.nodup_append]
    refine ⟨h.nodup, by simp, ?_⟩
    intro a ha b hb e
    simp at hb
    subst hb; subst e
    have := (h.mem _).1 ha
    rw [hL] at this; cases this.2
  · rw [List.mem_append, h.mem, List.mem_singleton]
    constructor
    · rintro (⟨h1, h2⟩ | rfl)
      · exact ⟨h1, by simp [h2]⟩
      · exact ⟨hs, by simp⟩
    · rintro ⟨h1, h2⟩
      by_cases e : t = s
      · exact .inr e
      · exact .inl ⟨h1, by simpa [e] using h2⟩

theorem Strings_any {w : World} {B : Nat} {v : Value} {l : List Str} (h : Strs w B v l) (h0 : 0 < l.length) (hl : l.length ≤ 1000000) :
    Calls Tryz.prog 218 #[v] w fun e w' => e = .returned (.tuple #[]) ∧ Strs w' B v (sortS l) ∧ w.grownBy w' v.ownBlock := by
  have hq := Lib.hid (Sort_strs h h0 hl)
  obtain ⟨a, c, rfl⟩ := owns_slice h
  clear h
  go_enter Tryz.func218, Tryz.ntmps218
  go_wp2_with fail
  refine hq.out.mono ?_
  rintro e w' ⟨rfl, h1, h2⟩
  go_wp2
  go_end0
  exact ⟨rfl, h1, h2⟩

set_option maxRecDepth 20000 in
set_option maxHeartbeats 2000000 in
theorem first1_any {w : World} {B p M n ps Bs m1 m2 m3 ns : Nat} {r2 r4 r5 : Value} {tm nt nk : List Str} {sg : Str → Option (Nat × (Str → Bool))} (h : FsSt w B p M (.pointer (some ⟨ps, 0, none⟩)) sg n) (st : SymSt w Bs ps m1 m2 m3 r2 r4 r5 tm nt nk ns) (hn : n ≤ 8000)
    {δ : List Str} {b o : Nat} {x : Str} (hδ : ∀ j, (hj : j < δ.length) → w.cell? ⟨b, o + j, none⟩ = some (sv δ[j])) (hdl : δ.length ≤ 20) (hsl : ∀ s ∈ δ ++ [x], s.length ≤ 1000000) {U : List Str} (hU : ∀ t, seqF (firstF sg nk) (δ ++ [x]) t = true → t ∈ U) (hUl : U.length ≤ 1000) (hne : ∃ t, seqF (firstF sg nk) (δ ++ [x]) t = true) :
    Calls Tryz.prog 181 #[.pointer (some ⟨p, 0, none⟩), .slice (some ⟨b, o, none⟩) δ.length δ.length, sv x] w fun e w' => ∃ v R B', e = .returned v ∧ Strs w' B' v R ∧ R.Nodup ∧ (∀ t, t ∈ R ↔ seqF (firstF sg nk) (δ ++ [x]) t = true) ∧ R.length ≤ 1000 ∧ New w w' := by
  have HH := Lib.hid (And.intro h (And.intro st (And.intro hsl (And.intro hU hne))))
  have holds : ∀ j v, (δ.map sv)[j]? = some v → w.cell? ((⟨b, o, none⟩ : Addr).add j) = some v := by
    intro j v hv
    rw [addr_add]
    rw [List.getElem?_map, Option.map_eq_some_iff] at hv
    obtain ⟨s, hs, rfl⟩ := hv
    obtain ⟨hj, e⟩ := List.getElem?_eq_some_iff.1 hs
    rw [hδ j hj, e]
  have HO := Lib.hid holds
  clear h st hsl hU hne hδ holds
  go_enter Tryz.func181, Tryz.ntmps181
  go_wp2_with (at_builtin; go_must (refine wpList_append_full _ rfl _ _ _ _ rfl T24 ⟨b, o, none⟩ δ.length (δ.map sv) rfl (by simp) HO.out (sv x) _ _ rfl (by simp) (by omega) (by omega) ?_))
  intro v1 w1 hown1 hn1
  have hs1 : Strs w1 w.heap.size v1 (δ ++ [x]) := by
    unfold Strs
    rw [List.length_append, List.map_append]; exact hown1
  have hs1a := hs1.at
  obtain ⟨a1, c1, rfl⟩ := owns_slice hown1
  have H1 := Lib.hid hs1a
  clear hown1 hs1 hs1a
  go_wp2_with fail
  refine (FirstS_any (HH.out.1.new hn1) (HH.out.2.1.new hn1) (δ ++ [x]) H1.out (by simp) (by simp; omega) HH.out.2.2.1 (by omega)).mono ?_
  rintro e w2 ⟨m, n2, rfl, hS2, hm2, hn2, hnn2⟩
  have hnw2 := hn1.trans hn2
  have H2 := Lib.hid hnw2
  have hsl2 := HH.out.2.2.1
  generalize hSe : seqF (firstF sg nk) (δ ++ [x]) = S at *
  have HSe := Lib.hid hSe
  clear hSe hnw2 hsl2
  have hml := hS2.lt
  have hna : ∀ k2 : Nat, New w2 (w2.alloc (.cells (Array.replicate k2 (.string ByteArray.empty)) 9)) := fun _ => (New.refl w2).alloc _
  have hSa := fun k2 => hS2.new (hna k2)
  have hs0 : ∀ k2 : Nat, k2 ≤ 100000000 → Strs (w2.alloc (.cells (Array.replicate k2 (.string ByteArray.empty)) 9)) w2.heap.size (.slice (some ⟨w2.heap.size, 0, none⟩) 0 k2) [] := fun k2 hk2 =>
    ⟨rfl, .inr ⟨w2.heap.size, k2, _, rfl, Nat.le_refl _, heap_alloc_new w2 _, by simp, by unfold maxLen; omega, by simp, by simp⟩⟩
  have HA := Lib.hid (And.intro hna (And.intro hSa hs0))
  clear hna hSa hs0
  go_wp2_with (first
    | (at_len; refine wpList_mlen _ rfl _ 82 4 rfl Tryz.underlying82 (.map (some m)) n2 (bitF S) rfl (.inr ⟨m, rfl, hS2⟩) ?_; intro k2 hk2; have hmk := make24c k2 (by omega))
    | (at_range; refine wpList_vrange _ rfl _ 82 4 rfl Tryz.underlying9 Tryz.underlying82 (.map (some m)) n2 (bitF S) rfl (.inr ⟨m, rfl, HA.out.2.1 _⟩) ?_; intro w4 cnt0 hrg0 hg0))
  have H3 := Lib.hid (And.intro (HA.out.2.2 k2 (by omega)) (HA.out.1 k2))
  have hsza : w2.heap.size < (w2.alloc (.cells (Array.replicate k2 (.string ByteArray.empty)) 9)).heap.size := by simp
  clear hmk HA hS2
  generalize hw3 : w2.alloc (.cells (Array.replicate k2 (.string ByteArray.empty)) 9) = w3 at *
  clear hw3
  have hn4 : New w3 w4 := ⟨hg0.os, hg0.tape, hg0.output, hg0.size, fun k hk => hg0.block k hk (by simp)⟩
  have hrl := hrg0.lt
  have H4 := Lib.hid hn4
  clear hg0 hn4
  generalize hr0 : w3.heap.size = r0 at *
  go_frame
  go_loopg [8] n2 (fun gk u8 wr => ∃ (cnt : Nat) (L : Str → Bool) (lst : List Str), RangeV Tryz.prog 9 wr (.map (some m)) r0 n2 (bitF S) L cnt ∧ cnt ≤ gk ∧ Strs wr w2.heap.size u8 lst ∧ u8.ownBlock ≠ some r0 ∧ u8 ≠ .slice none 0 0 ∧ lst.length + cnt ≤ n2 ∧ Hid (KeyIn S L lst) ∧ New w2 wr)
  case atStart =>
    refine ⟨cnt0, _, [], hrg0, hrg0.cnt_le, H3.out.1.new H4.out, ?_, by simp, by simpa using hrg0.cnt_le, Lib.hid ⟨List.nodup_nil, fun t => ?_⟩, H3.out.2.trans H4.out⟩
    · intro e; simp [Value.ownBlock] at e; omega
    · rw [bitF_some]
      constructor
      · intro h; cases h
      · rintro ⟨h1, h2⟩; rw [h1] at h2; cases h2
  case round =>
    clear hrg0
    obtain ⟨cnt, L, lst, hrg, hc, hown, hne1, hne2, hll, hK, hn5⟩ := hrel
    go_wp2_with (first | (at_next; refine wpList_vnext _ rfl _ rfl Tryz.underlying9 (.map (some m)) r0 n2 (bitF S) L cnt rfl hrg ?_ ?_))
    · intro hl
      have hmem : ∀ t, t ∈ lst ↔ S t = true := fun t => by rw [hK.out.mem, hl t]; simp
      have hUL : lst.length ≤ U.length := nodup_le hK.out.nodup (fun t ht => HH.out.2.2.2.1 t ((hmem t).1 ht))
      have h0 : 0 < lst.length := by
        obtain ⟨t, ht⟩ := HH.out.2.2.2.2
        exact List.length_pos_of_mem ((hmem t).2 ht)
      have hq := Lib.hid (Strings_any hown h0 (by omega))
      have HME := Lib.hid (And.intro hmem hK.out.nodup)
      obtain ⟨a8, c8, rfl⟩ := owns_slice hown
      clear hmem hl hrg
      go_wp2_with fail
      refine hq.out.mono ?_
      rintro e w6 ⟨rfl, hs6, hg6⟩
      have hn6 : New w2 w6 := Below.push hn5 hown hg6 hn5.size
      have HF := Lib.hid (And.intro hs6 hn6)
      have hsl6 : (sortS lst).length = lst.length := (sortS_perm lst).length_eq
      have HS6 := Lib.hid hsl6
      clear hq hg6 hs6 hn6 hown hsl6
      go_wp2
      go_ret
      refine ⟨_, sortS lst, w2.heap.size, rfl, ?_, sortS_nodup HME.out.2, fun t => by rw [sortS_mem, HSe.out]; exact HME.out.1 t, by rw [HS6.out]; omega, H2.out.trans HF.out.2⟩
      have := HF.out.1
      exact this
    · intro s u w6 cnt6 hsl hLs hfs hrg6 hlt6 hg6 hsz6 hent
      have hs : S s = true := by
        have := bitF_some S s
        rw [hfs] at this
        exact this.symm
      have hu : u = .bool true := by
        have e : bitF S s = some (.bool true) := by unfold bitF; rw [if_pos hs]
        rw [e] at hfs
        exact (Option.some.inj hfs).symm
      subst hu
      have hown6 := World.ownsRow.kept hown hg6 (.inr hne1)
      have hn6 : New w2 w6 := Below.grown hn5 hg6 hn5.size (fun k hk => by injection hk with hk; omega)
      have hT := Lib.hid (hK.out.add hs hLs)
      have hsz6' : w2.heap.size ≤ w6.heap.size := by have := hn5.size; omega
      have hrl6 := hrg6.lt
      have H6 := Lib.hid (And.intro hown6 hn6)
      clear hfs hLs hs hown hg6 hrg hn5 hn6 hsz6
      go_wp2_with (first | (at_builtin; go_must (refine wpList_push _ rfl _ _ _ _ rfl T24 w2.heap.size _ _ _ rfl hown6 [_] rfl rfl _ _ rfl (by simp) (by omega) (by omega) (by omega) ?_)))
      intro v' w8 hown8 hgrow hne hat
      have hn8 : New w2 w8 := Below.push H6.out.2 hown6 hgrow H6.out.2.size
      have hrg8 : RangeV Tryz.prog 9 w8 (.map (some m)) r0 n2 (bitF S) (fun t => L t && !decide (t = s)) cnt6 :=
        hrg6.same (hgrow.block _ (by omega) (fun e => hne1 e.symm)) (fun b e => hgrow.block _ (by cases e; omega) (fun e2 => by cases e; have := (hown6.lt _ e2.symm).1; omega))
      have hown9 := Strs.push hown8
      have hne9 : v'.ownBlock ≠ some r0 := by
        rcases hat with e | ⟨b, e, hb⟩
        · rw [e]; exact hne1
        · rw [e]; intro e2; injection e2 with e2; omega
      have HX := Lib.hid (And.intro hn8 (And.intro hrg8 (And.intro hne9 hne)))
      obtain ⟨a10, c10, rfl⟩ := owns_slice hown8
      clear hn8 hrg8 hgrow hne hat hown8 hown6 hne9
      go_wp2
      go_roundg cnt6
      case measure => omega
      case rel => exact ⟨cnt6, _, _, HX.out.2.1, Nat.le_refl _, hown9, HX.out.2.2.1, HX.out.2.2.2, by simp; omega, hT, HX.out.1⟩
end Go.Proofs.YtdejcdmgcckmoaaGreatDoor
namespace Go.Proofs.YtdejcdmgcckmoaaGreatDoor
open Go.RowKit Lr

set_option maxRecDepth 20000 in
set_option maxHeartbeats 1000000 in
theorem Move_any {g : Gram} (hm : Sm g) {w0 w : World} {b : Nat} {i : Itm} (hi : ItAt g w0 w b i) (hn : New w0 w) (hd : i.dot < (Lr.body g i.prod).length) (hl : i.look.length ≤ 4) :
    Calls Tryz.prog 183 #[.pointer (some ⟨b, 0, none⟩)] w fun e w' => ∃ p, e = .returned (.pointer (some ⟨p, 0, none⟩)) ∧ w.heap.size ≤ p ∧ ItAt g w0 w' p ⟨i.prod, i.dot + 1, i.look⟩ ∧ New w w' := by
  obtain ⟨pr, ⟨rb, arr, hb, _, _⟩, hp⟩ := hi
  have hnd : New w w.drew := (New.refl w).drewN 1
  have hq := Lib.hid (NewItem_any hm (i := ⟨i.prod, i.dot + 1, i.look⟩) hp (hn.trans hnd) hd hl)
  have HD := Lib.hid hnd
  have d0 := cell_of_blk hb 0
  have d1 := cell_of_blk hb 1
  have d4 := cell_of_blk hb 4
  have d6 := cell_of_blk hb 6
  simp only [List.getElem?_toArray, List.getElem?_cons_zero, List.getElem?_cons_succ] at d0 d1 d4 d6
  obtain ⟨pb, q, sa, sc, rfl, _⟩ := hp
  have hbl := body_len hm i.prod
  clear hb hnd hl
  generalize untold i.look = lk at *
  generalize idxI i.prod = ix at *
  go_enter Tryz.func183, Tryz.ntmps183
  go_wp2
  go_still_tail 17, (by kernel_rfl)
  change wpList _ _ _ _ _ (World.drew _)
  go_wp2_with fail
  refine hq.out.mono ?_
  rintro e w' ⟨p, rfl, hpp, hit, hnw⟩
  go_wp2
  go_ret
  exact ⟨p, rfl, hpp, hit, HD.out.trans hnw⟩
end Go.Proofs.YtdejcdmgcckmoaaGreatDoor
namespace Go.Proofs.YtdejcdmgcckmoaaGreatDoor
open Go.RowKit Lr

set_option maxRecDepth 20000 in
set_option maxHeartbeats 1000000 in
theorem EqualI_any {g : Gram} {w0 w : World} {B p m1 m2 B' p' m1' m2' : Nat} {no no' : Int} {v e1 e2 e3 v' e1' e2' e3' : Value} {L L' : List (Nat × Itm)} {n1 n1' : Nat} (h : ISt g w0 w B p m1 m2 no v L n1 e1 e2 e3) (h' : ISt g w0 w B' p' m1' m2' no' v' L' n1' e1' e2' e3')
    (hs : ∀ s : Str, (L.any fun x => itemStr g x.2 == s) = true → s.length ≤ 1000000) :
    Calls Tryz.prog 184 #[.pointer (some ⟨p, 0, none⟩), .pointer (some ⟨p', 0, none⟩)] w fun e w' => e = .returned (.bool (decide (L.length = L'.length) && L.all fun x => hasI g L' x.2)) ∧ New w w' := by
  have c1 := cell_of_blk h.blk 1
  have c2 := cell_of_blk h.blk 2
  have k1 := cell_of_blk h'.blk 1
  have k2 := cell_of_blk h'.blk 2
  simp only [List.getElem?_toArray, List.getElem?_cons_zero, List.getElem?_cons_succ] at c1 c2 k1 k2
  obtain ⟨f, hf, hfk⟩ := h.imap
  obtain ⟨f', hf', hfk'⟩ := h'.imap
  obtain ⟨a, c, rfl⟩ := owns_slice h.row
  obtain ⟨a', c', rfl⟩ := owns_slice h'.row
  have lp := lt_of_block h'.blk
  have HL := Lib.hid (And.intro hfk (And.intro hfk' hs))
  have hcl : ∀ (x : Nat × Itm), L.any (fun y => itemStr g y.2 == itemStr g x.2) = hasI g L x.2 := fun _ => rfl
  clear h h' hfk hfk' hs hcl
  cases hd : decide (L.length = L'.length) with
  | false =>
    have hne : L.length ≠ L'.length := by simpa using hd
    have hdd : ((L.length : Int) != (L'.length : Int)) = true := by rw [bne_iff_ne]; omega
    clear hf hf' hne
    go_enter Tryz.func184, Tryz.ntmps184
    go_wp2
    go_quiet (fail)
    go_wp2
    go_ret
    exact ⟨by simp, (New.refl w).drewN nq⟩
  | true =>
    have hee : L.length = L'.length := by simpa using hd
    rw [← hee] at k2
    clear hd hee
    go_enter Tryz.func184, Tryz.ntmps184
    go_wp2
    go_quiet (fail)
    have hnq : New w (w.drewN nq) := (New.refl w).drewN nq
    have hf1 := hf.new hnq
    have hf1' := hf'.new hnq
    have c1 : (w.drewN nq).cell? ⟨p, 1, none⟩ = some (.map (some m1)) := c1
    have k1 : (w.drewN nq).cell? ⟨p', 1, none⟩ = some (.map (some m1')) := k1
    generalize w.drewN nq = wq at *
    have HN := Lib.hid hnq
    have lpq : p' < wq.heap.size := Nat.lt_of_lt_of_le lp hnq.size
    clear hf hf' hnq
    go_wp2_with (first | (at_range; refine wpList_vrange _ rfl _ 89 96 rfl Tryz.underlying9 Tryz.underlying89 (.map (some m1)) n1 f rfl (.inr ⟨m1, rfl, hf1⟩) ?_; intro w3 cnt0 hrg0 hg0))
    go_frame
    go_loopg [5, 6, 7] n1 (fun gk u5 u6 u7 wr => ∃ (cnt : Nat) (K : Str → Bool), RangeV Tryz.prog 9 wr (.map (some m1)) wq.heap.size n1 f K cnt ∧ cnt ≤ gk ∧ Hid (∀ t, (f t).isSome = true → K t = false → (f' t).isSome = true) ∧ wq.grownBy wr none)
    case atStart =>
      refine ⟨cnt0, _, hrg0, hrg0.cnt_le, Lib.hid fun t e1 e2 => ?_, hg0⟩
      rw [e1] at e2
      cases e2
    case round =>
      clear hrg0 hg0
      obtain ⟨cnt, K, hrg, hc, hK, hg⟩ := hrel
      go_wp2_with (first | (at_next; refine wpList_vnext _ rfl _ rfl Tryz.underlying9 (.map (some m1)) wq.heap.size n1 f K cnt rfl hrg ?_ ?_))
      · intro hl
        have HL2 := Lib.hid hl
        clear hl
        go_wp2
        go_ret
        have hall : (L.all fun x => hasI g L' x.2) = true := by
          rw [List.all_eq_true]
          intro x hx
          have h1 : (f (itemStr g x.2)).isSome = true := by
            rw [HL.out.1, List.any_eq_true]
            exact ⟨x, hx, by simp⟩
          have h2 := hK.out _ h1 (HL2.out _)
          rw [HL.out.2.1] at h2
          exact h2
        exact ⟨by rw [hall]; rfl, HN.out.trans ⟨hg.os, hg.tape, hg.output, hg.size, fun k hk => hg.block k hk (by simp)⟩⟩
      · intro s u w6 cnt6 hsl hKs hfs hrg6 hlt6 hg6 hsz6 hent
        have hgn : wq.grownBy w6 none := hg.andThen hg6 (by intro j e; injection e with e; left; omega)
        have hf6 := hf1'.kept hgn (by simp)
        have k1 : w6.cell? ⟨p', 1, none⟩ = some (.map (some m1')) := (hgn.cell_far ⟨p', 1, none⟩ lpq (by simp)).trans k1
        have hsl2 : s.length ≤ 1000000 := HL.out.2.2 s (by rw [← HL.out.1, hfs]; rfl)
        have HS := Lib.hid (And.intro hKs (And.intro hfs hgn))
        clear hrg hKs hfs hsz6 hg hg6 hgn
        cases hs2 : (f' s).isSome with
        | true =>
          have H2 := Lib.hid hs2
          have hm2 : MapV Tryz.prog 9 w6 (.map (some m1')) n1' f' := .inr ⟨m1', rfl, hf6⟩
          go_wp2_with (first | (at_lookup; refine wpList_vlook_ok _ rfl _ _ 89 96 rfl Tryz.underlying9 Tryz.underlying89 (z96 _) (.map (some m1')) n1' f' rfl hm2 s rfl (by omega) ?_; rw [hs2]))
          go_roundg cnt6
          case measure => omega
          case rel =>
            refine ⟨cnt6, _, hrg6, Nat.le_refl _, Lib.hid fun t e1 e2 => ?_, HS.out.2.2⟩
            by_cases e : t = s
            · subst e; exact H2.out
            · exact hK.out t e1 (by simpa [e] using e2)
        | false =>
          have H2 := Lib.hid hs2
          have hm2 : MapV Tryz.prog 9 w6 (.map (some m1')) n1' f' := .inr ⟨m1', rfl, hf6⟩
          go_wp2_with (first | (at_lookup; refine wpList_vlook_ok _ rfl _ _ 89 96 rfl Tryz.underlying9 Tryz.underlying89 (z96 _) (.map (some m1')) n1' f' rfl hm2 s rfl (by omega) ?_; rw [hs2]))
          go_ret
          have hall : (L.all fun x => hasI g L' x.2) = false := by
            rw [List.all_eq_false]
            have h1 : (f s).isSome = true := by rw [HS.out.2.1]; rfl
            rw [HL.out.1, List.any_eq_true] at h1
            obtain ⟨x, hx, he⟩ := h1
            refine ⟨x, hx, ?_⟩
            have e := eq_of_beq he
            have h2 := H2.out
            rw [HL.out.2.1, ← e] at h2
            show ¬ (L'.any fun y => itemStr g y.2 == itemStr g x.2) = true
            rw [h2]; simp
          exact ⟨by rw [hall]; rfl, HN.out.trans ⟨HS.out.2.2.os, HS.out.2.2.tape, HS.out.2.2.output, HS.out.2.2.size, fun k hk => HS.out.2.2.block k hk (by simp)⟩⟩
end Go.Proofs.YtdejcdmgcckmoaaGreatDoor
namespace Go.Proofs.YtdejcdmgcckmoaaGreatDoor
open Go.RowKit Lr

theorem fst_term {g : Gram} {l : List Str} {b c : Str} (hb : isHead g b = false) (h : Fst g l b c) : isHead g c = false := by
  rcases h with ⟨n, h⟩ | ⟨_, rfl⟩
  · exact h.term_of
  · exact hb
theorem vld_term {g : Gram} (hm : Sm g) {γ : List Str} {i : Itm} (h : Vld g γ i) : isHead g i.look = false := by
  induction h with
  | init => exact end_noHead hm
  | close _ _ _ hf ih => exact fst_term ih hf
  | shift _ _ ih => exact ih
theorem look_len {g : Gram} (hm : Sm g) {c : Str} (h : c ∈ looksU g) : c.length ≤ 4 := by
  rcases look_ok hm h with rfl | h
  · decide
  · exact symbolOk_le h
theorem untold_len {g : Gram} (hm : Sm g) {c : Str} (h : c ∈ looksU g) : (untold c).length ≤ 4 := by
  unfold untold
  split
  · decide
  · exact look_len hm h
/-- Behind a dot. -/
theorem rest_in {i : Itm} {g : Gram} {B : Str} {δ : List Str} (hr : i.rest g = B :: δ) : ∀ s ∈ δ, s ∈ Lr.body g i.prod := fun s hs => by
  have : s ∈ (Lr.body g i.prod).drop i.dot := by rw [show (Lr.body g i.prod).drop i.dot = B :: δ from hr]; exact List.mem_cons_of_mem _ hs
  exact List.mem_of_mem_drop this
theorem rest_get {i : Itm} {g : Gram} {B : Str} {δ : List Str} (hr : i.rest g = B :: δ) : (∃ h : i.dot < (Lr.body g i.prod).length, (Lr.body g i.prod)[i.dot] = B) ∧ δ = (Lr.body g i.prod).drop (i.dot + 1) ∧ (Lr.body g i.prod).length = i.dot + 1 + δ.length := by
  have hl : i.dot < (Lr.body g i.prod).length := by
    apply Nat.lt_of_not_le
    intro hle
    have : i.rest g = [] := List.drop_of_length_le hle
    rw [hr] at this; cases this
  have := List.drop_eq_getElem_cons hl
  have hr' : (Lr.body g i.prod).drop i.dot = B :: δ := hr
  rw [hr'] at this
  obtain ⟨h1, h2⟩ := List.cons.inj this
  refine ⟨⟨hl, h1.symm⟩, h2, ?_⟩
  rw [h2, List.length_drop]
  omega
theorem fst_looks {g : Gram} {γ : List Str} {i : Itm} (hv : Vld g γ i) {B : Str} {δ : List Str} (hr : i.rest g = B :: δ) {n : Nat} {b : List Str} (hB : g[n]? = some (B, b)) {c : Str} (hf : Fst g δ i.look c) : c ∈ looksU g :=
  (Vld.close hv hr hB hf).look

/-- The package's parts in memory. -/
structure Ctx (g : Gram) (w : World) (ps fp : Nat) (prods : Value) : Prop where
  sym : ∃ B m1 m2 m3 r2 r4 r5 ns, SymSt w B ps m1 m2 m3 r2 r4 r5 (typesA (augP g) [invalidS, eofS]) (headsA (augP g)) (headsA (augP g)) ns
  fs : ∃ B M sg n, FsSt w B fp M (.pointer (some ⟨ps, 0, none⟩)) sg n ∧ n ≤ 8000 ∧ FsOk (augP g) (headsA (augP g)) (tau sg) ∧ ∀ q ∈ augP g, ClosedF (tau sg) (headsA (augP g)) q
  prods : ProdsAt w prods (augP g)
theorem Ctx.new {g : Gram} {w w' : World} {ps fp : Nat} {prods : Value} (h : Ctx g w ps fp prods) (hn : New w w') : Ctx g w' ps fp prods := by
  obtain ⟨⟨B, m1, m2, m3, r2, r4, r5, ns, h1⟩, ⟨B', M, sg, n, h2, h3⟩, h4⟩ := h
  exact ⟨⟨B, m1, m2, m3, r2, r4, r5, ns, h1.new hn⟩, ⟨B', M, sg, n, h2.new hn, h3⟩, h4.new hn⟩

/-- What the package reckons to stand behind an item's symbol. -/
theorem itemFirst_any {g : Gram} (hg : GOk g) {w : World} {ps fp : Nat} {prods : Value} (hc : Ctx g w ps fp prods) {γ : List Str} {i : Itm} (hv : Vld g γ i) {B : Str} {δ : List Str} (hr : i.rest g = B :: δ) {n : Nat} {b : List Str} (hB : g[n]? = some (B, b))
    {o : Nat} (ho : δ.length = 0 ∨ o = i.dot + 1) {rb : Nat} {arr : Array Value} (hb : w.heap[rb]? = some (.cells arr 9 (0, 0))) (ha : ∀ j, (hj : j < (Lr.body g i.prod).length) → arr[j]? = some (sv (Lr.body g i.prod)[j])) :
    Calls Tryz.prog 181 #[.pointer (some ⟨fp, 0, none⟩), .slice (some ⟨rb, o, none⟩) δ.length δ.length, sv (untold i.look)] w fun e w' => ∃ (v : Value) (C : List Str) (B' : Nat), e = .returned v ∧ Strs w' B' v (C.map untold) ∧ C.Nodup ∧ (∀ c, c ∈ C ↔ Fst g δ i.look c) ∧ C.length ≤ 1000 ∧ New w w' := by
  obtain ⟨B1, m1, m2, m3, r2, r4, r5, ns, hsym⟩ := hc.sym
  obtain ⟨B2, M, sg, nn, hfs, hnn, hok, hcl⟩ := hc.fs
  have hbl := body_len hg.toSm i.prod
  obtain ⟨⟨hd, _⟩, hδ, hlen⟩ := rest_get hr
  have hlk := hv.look
  have hset := fun t => first1_set hg.toSm hok hcl (δ := δ) (fun s hs => bodyI_ok hg.toSm _ s (rest_in hr s hs)) hlk (vld_term hg.toSm hv) t
  have hin : ∀ c, Fst g δ i.look c → c ∈ looksU g := fun c h => fst_looks hv hr hB h
  have hcells : ∀ j, (hj : j < δ.length) → w.cell? ⟨rb, o + j, none⟩ = some (sv δ[j]) := by
    intro j hj
    have ho : o = i.dot + 1 := by omega
    subst ho
    have h1 := ha (i.dot + 1 + j) (by omega)
    rw [cell_of_blk hb, h1]
    congr 2
    subst hδ
    rw [List.getElem_drop]
  have hq := first1_any (x := untold i.look) hfs hsym hnn hcells (by omega) (by
    intro s hs
    rcases List.mem_append.1 hs with hs | hs
    · have := symbolOk_le (bodyI_ok hg.toSm _ s (rest_in hr s hs)); omega
    · simp at hs; subst hs; have := untold_len hg.toSm hlk; omega) (U := (looksU g).map untold) (by
    intro t ht
    obtain ⟨c, rfl, hf⟩ := (hset t).1 ht
    exact List.mem_map.2 ⟨c, hin c hf, rfl⟩) (by
    rw [List.length_map]
    have := looksU_len hg.toSm.len hg.toSm.body
    omega) (by
    obtain ⟨c, hf⟩ := hg.prod.fst δ i.look
    exact ⟨untold c, (hset _).2 ⟨c, rfl, hf⟩⟩)
  refine hq.mono ?_
  rintro e w' ⟨v, R, B', rfl, h1, h2, h3, h4, h5⟩
  have hR : ∀ t ∈ R, ∃ c, t = untold c ∧ Fst g δ i.look c := fun t ht => (hset t).1 ((h3 t).1 ht)
  have hmap : (R.map toldS).map untold = R := by
    rw [List.map_map]
    conv => rhs; rw [← List.map_id R]
    refine List.map_congr_left fun t ht => ?_
    obtain ⟨c, rfl, hf⟩ := hR t ht
    show untold (toldS (untold c)) = _
    rw [told_untold hg.toSm (hin c hf)]; rfl
  refine ⟨v, R.map toldS, B', rfl, by rw [hmap]; exact h1, ?_, fun c => ?_, by simpa using h4, h5⟩
  · have : ((R.map toldS).map untold).Nodup := by rw [hmap]; exact h2
    exact (List.pairwise_map.1 this).imp fun hab e => hab (by rw [e])
  · constructor
    · intro h
      obtain ⟨t, ht, rfl⟩ := List.mem_map.1 h
      obtain ⟨c, rfl, hf⟩ := hR t ht
      rw [told_untold hg.toSm (hin c hf)]; exact hf
    · intro hf
      exact List.mem_map.2 ⟨untold c, (h3 _).2 ((hset _).2 ⟨c, rfl, hf⟩), told_untold hg.toSm (hin c hf)⟩

/-- A row behind a place of a row that is full. -/
theorem slice_from (rb d n : Nat) (hd : d ≤ 9) (W : World) : (Instr.slice 24 (.slice (some ⟨rb, 0, none⟩) (d + 1 + n) (d + 1 + n)) (some (.int .i64 ((d : Int) + 1))) none none).run Tryz.prog W = .ok (.slice (some ⟨rb, (if n = 0 then 0 else d + 1), none⟩) n n) W := by
  obtain ⟨i, hi, hz0, hz1, hz2⟩ := info_parts T24.row
  rw [run_slice_l W 24 (some ⟨rb, 0, none⟩) (d + 1 + n) (d + 1 + n) (by rw [show Tryz.prog.elem 24 = 9 from by kernel_rfl]; exact T24.und) .i64 ((d : Int) + 1) (by omega) (by omega)]
  have hs : (sizeOf (Tryz.prog.elem 24)).run Tryz.prog W = .ok 1 W := by kernel_rfl
  rw [hs]
  have e1 : ((d : Int) + 1).toNat = d + 1 := by omega
  simp only [Result.andThen_ok, sliced, e1, Nat.mul_one]
  have e2 : d + 1 + n - (d + 1) = n := by omega
  rw [e2]
  by_cases h : n = 0
  · subst h; simp
  · simp [h, Addr.add]

/-- Whether an item is in a row, by its text. -/
theorem hasI_iff {g : Gram} (hm : Sm g) {γ γ' : List Str} {L : List (Nat × Itm)} (hL : ∀ x ∈ L, Vld g γ x.2) {i : Itm} (hi : Vld g γ' i) : hasI g L i = true ↔ i ∈ L.map (·.2) := by
  unfold hasI
  rw [List.any_eq_true]
  constructor
  · rintro ⟨x, hx, he⟩
    have := itemStr_inj hm (hL x hx) hi (eq_of_beq he)
    exact List.mem_map.2 ⟨x, hx, this⟩
  · intro h
    obtain ⟨x, hx, rfl⟩ := List.mem_map.1 h
    exact ⟨x, hx, by simp⟩
theorem foldl_addI {g : Gram} (hm : Sm g) {γ : List Str} : ∀ (M L : List (Nat × Itm)), ((L ++ M).map (·.2)).Nodup → (∀ x ∈ L ++ M, Vld g γ x.2) → M.foldl (addI g) L = L ++ M
  | [], L, _, _ => by simp
  | x :: M, L, hn, hv => by
    have hv' : ∀ y ∈ L, Vld g γ y.2 := fun y hy => hv y (List.mem_append.2 (.inl hy))
    have hx : Vld g γ x.2 := hv x (by simp)
    have hno : hasI g L x.2 = false := by
      cases h : hasI g L x.2 with
      | false => rfl
      | true =>
        have := (hasI_iff hm hv' hx).1 h
        rw [List.map_append, List.nodup_append] at hn
        exact absurd rfl (hn.2.2 _ this x.2 (by simp))
    have e : L ++ x :: M = (L ++ [x]) ++ M := by simp
    rw [List.foldl_cons, addI_no hno, foldl_addI hm M (L ++ [x]) (by rw [← e]; exact hn) (by rw [← e]; exact hv), ← e]
theorem bodyT_len (pos n : Nat) : ∀ (i : Nat) (l : List Str), (∀ s ∈ l, s.length ≤ 4) → (bodyT pos n i l).length ≤ 8 * l.length
  | _, [], _ => by simp [bodyT]
  | i, s :: r, h => by
    have h1 := bodyT_len pos n (i + 1) r (fun x hx => h x (List.mem_cons_of_mem _ hx))
    have h2 := h s (List.mem_cons_self ..)
    have h3 : ((if pos = i then dotS else []) : Str).length ≤ 3 := by split <;> decide
    have h4 : ((if i + 1 < n then [32] else []) : Str).length ≤ 1 := by split <;> simp
    unfold bodyT
    simp only [List.length_append, List.length_cons]
    omega
/-- How long an item's text is. -/
theorem itemStr_len {g : Gram} (hm : Sm g) {γ : List Str} {i : Itm} (h : Vld g γ i) : (itemStr g i).length ≤ 1000000 := by
  have h1 := headI_len hm i.prod
  have h2 := body_len hm i.prod
  have h3 := bodyT_len i.dot (Lr.body g i.prod).length 0 (Lr.body g i.prod) (fun s hs => symbolOk_le (bodyI_ok hm _ s hs))
  have h4 := untold_len hm h.look
  have h5 : (if Lr.body g i.prod = [] then emptyS else bodyT i.dot (Lr.body g i.prod).length 0 (Lr.body g i.prod)).length ≤ 40 := by
    split
    · decide
    · omega
  have h6 : ((if i.dot = (Lr.body g i.prod).length then dotS else []) : Str).length ≤ 3 := by split <;> decide
  have h7 : colS.length ≤ 10 := by decide
  have h8 : lqS.length ≤ 10 := by decide
  have h9 : rqS.length ≤ 10 := by decide
  unfold itemStr strOf
  simp only [List.length_append]
  omega
end Go.Proofs.YtdejcdmgcckmoaaGreatDoor
