/- The package: texts of numbers and words. -/
import Derived.Test.YtdejcdmgcckmoaaGreatDoorYJ
import Derived.Stop.Asserts
import Derived.Laws.IdiomStrings
import Derived.Shelf.Strings.Builder1
namespace Go.Proofs.YtdejcdmgcckmoaaGreatDoor
open Go.RowKit Lr

theorem ta9_195 (s : Str) (w : World) : (Instr.typeAssert (.iface 9 (sv s)) 20 195 true).run Tryz.prog w = .ok (.tuple #[.nilIface, .bool false]) w := run_typeAssert_lacksB Tryz.underlying195 (by kernel_rfl) (by kernel_rfl) _ 20 w
theorem ta9_299 (s : Str) (w : World) : (Instr.typeAssert (.iface 9 (sv s)) 20 299 true).run Tryz.prog w = .ok (.tuple #[.nilIface, .bool false]) w := run_typeAssert_lacksB Tryz.underlying299 (by kernel_rfl) (by kernel_rfl) _ 20 w
theorem ta9_9 (s : Str) (w : World) : (Instr.typeAssert (.iface 9 (sv s)) 20 9 true).run Tryz.prog w = .ok (.tuple #[sv s, .bool true]) w := by kernel_rfl
theorem ta3_3 (n : Int) (w : World) : (Instr.typeAssert (.iface 3 (.int .i64 n)) 20 3 true).run Tryz.prog w = .ok (.tuple #[.int .i64 n, .bool true]) w := by kernel_rfl

set_option maxHeartbeats 400000 in
theorem text_str (s : Str) (w : World) : Calls Tryz.prog 213 #[.iface 9 (sv s)] w fun e w' => e = .returned (sv s) ∧ w = w' := by
  have h1 := ta9_195 s
  have h2 := ta9_299 s
  have h3 := ta9_9 s
  go_enter Tryz.func213, Tryz.ntmps213
  go_wp2
  go_ret
  exact ⟨rfl, rfl⟩
set_option maxHeartbeats 400000 in
theorem number_int (n : Int) (w : World) : Calls Tryz.prog 214 #[.iface 3 (.int .i64 n)] w fun e w' => e = .returned (.tuple #[.int .i64 n, .bool true]) ∧ w = w' := by
  have h1 := ta3_3 n
  go_enter Tryz.func214, Tryz.ntmps214
  go_wp2
  go_ret2
  exact ⟨rfl, rfl⟩
set_option maxHeartbeats 400000 in
theorem one_s (s : Str) (w : World) : Calls Tryz.prog 170 #[.int .u8 115, .iface 9 (sv s)] w fun e w' => e = .returned (sv s) ∧ w = w' := by
  go_enter Tryz.func170, Tryz.ntmps170
  go_wp2_with (go_at_call 213; refine (text_str _ _).mono ?_; rintro e w' ⟨rfl, rfl⟩)
  go_ret
  exact ⟨rfl, rfl⟩
end Go.Proofs.YtdejcdmgcckmoaaGreatDoor
namespace Go.Proofs.YtdejcdmgcckmoaaGreatDoor
open Go.RowKit Lr

theorem ba_eq {x : ByteArray} {l : List UInt8} (h : x.data.toList = l) : x = ⟨l.toArray⟩ := by
  cases x with | mk d => simp at h; subst h; simp
theorem sv_slice (f : Str) (i j : Nat) : ({ data := f.toArray } : ByteArray).extract i j = ⟨((f.take j).drop i).toArray⟩ := by
  apply ba_eq
  rw [ByteArray.data_extract]
  simp [List.drop_take]
theorem sv_cat (a b : Str) : ({ data := a.toArray } : ByteArray) ++ ({ data := b.toArray } : ByteArray) = ⟨(a ++ b).toArray⟩ := by
  apply ba_eq
  rw [ByteArray.data_append]
  simp
theorem sv_one {f : Str} {i : Nat} (h : i < f.length) : ({ data := f.toArray } : ByteArray).extract i (i + 1) = ⟨[f[i]].toArray⟩ := by
  rw [sv_slice, List.take_succ_eq_append_getElem h, List.drop_append_of_le_length (by rw [List.length_take]; omega), List.drop_of_length_le (by rw [List.length_take]; omega)]
  rfl
/-- A value that a format takes: the verb, the value, its text. -/
structure Ag where
  verb : UInt8
  val : Value
  txt : Str
instance : Inhabited Ag := ⟨⟨0, .nilIface, []⟩⟩
/-- What a format makes of values. -/
inductive FmtR : Str → List Ag → Str → Prop
  | nil : FmtR [] [] []
  | lit {c : UInt8} {r o : Str} {gs : List Ag} : c ≠ 37 → FmtR r gs o → FmtR (c :: r) gs (c :: o)
  | arg {a : Ag} {r o : Str} {gs : List Ag} : (a.verb = 115 ∨ a.verb = 100) → FmtR r gs o → FmtR (37 :: a.verb :: r) (a :: gs) (a.txt ++ o)
theorem FmtR.inv_lit {c : UInt8} {r o : Str} {gs : List Ag} (h : FmtR (c :: r) gs o) (hc : c ≠ 37) : ∃ o', o = c :: o' ∧ FmtR r gs o' := by
  cases h with
  | lit _ h => exact ⟨_, rfl, h⟩
  | arg => exact absurd rfl hc
theorem FmtR.inv_arg {r o : Str} {gs : List Ag} (h : FmtR (37 :: r) gs o) : ∃ a r' gs' o', r = a.verb :: r' ∧ gs = a :: gs' ∧ o = a.txt ++ o' ∧ (a.verb = 115 ∨ a.verb = 100) ∧ FmtR r' gs' o' := by
  cases h with
  | lit h _ => exact absurd rfl h
  | arg hv h => exact ⟨_, _, _, _, rfl, rfl, rfl, hv, h⟩
theorem FmtR.inv_nil {o : Str} {gs : List Ag} (h : FmtR [] gs o) : o = [] := by
  cases h; rfl
theorem runes9 (s : Str) (hs : s.length ≤ 1000000) (w : World) : ∃ b n c w', (convert 9 251 (sv s)).run Tryz.prog w = .ok (.slice (some ⟨b, 0, none⟩) n c) w' ∧ New w w' := by
  have h := run_runes_of_string (P := Tryz.prog) w 9 251 21 ⟨s.toArray⟩ Tryz.underlying9 Tryz.underlying251 Tryz.underlying21 (by
    have := size_runesFrom ⟨s.toArray⟩ (ByteArray.size ⟨s.toArray⟩) 0 #[]
    have h2 : ByteArray.size ⟨s.toArray⟩ = s.length := rfl
    simp only [h2] at this ⊢
    simp at this
    omega)
  exact ⟨_, _, _, _, h, ((New.refl w).drewN 1).alloc _⟩
/-- A slice of values of any type. -/
def AnyAt (w : World) (v : Value) (gs : List Ag) : Prop := SlcAt w v gs.length gs.length fun j => (gs.getD j default).val
theorem AnyAt.new {w w' : World} {v : Value} {gs : List Ag} (h : AnyAt w v gs) (hn : New w w') : AnyAt w' v gs := SlcAt.new h hn
theorem AnyAt.elem {w : World} {a : Option Addr} {n cap : Nat} {l : List Ag} (h : AnyAt w (.slice a n cap) l) {k : Nat} (hk : k < l.length) :
    ∃ b o, a = some ⟨b, o, none⟩ ∧ w.cell? ⟨b, o + k, none⟩ = some l[k].val := by
  obtain ⟨a1, cap1, e, _, hc⟩ := h
  cases e
  obtain ⟨b, o, rfl, hcc⟩ := hc (by omega)
  have h1 := hcc k hk
  have eg : l.getD k default = l[k] := by simp [List.getD, hk]
  simp only [eg] at h1
  exact ⟨b, o, rfl, h1⟩

set_option maxRecDepth 20000 in
set_option maxHeartbeats 4000000 in
theorem Sprintf_any {w : World} {f : Str} {gs : List Ag} {o : Str} {v : Value} (hf : FmtR f gs o) (hv : AnyAt w v gs) (hfl : f.length ≤ 1000) (hal : gs.length ≤ 100) (hol : o.length ≤ 100000)
    (hone : ∀ a ∈ gs, ∀ W, New w W → Calls Tryz.prog 170 #[.int .u8 a.verb.toNat, a.val] W fun e w' => e = .returned (sv a.txt) ∧ New W w') :
    Calls Tryz.prog 130 #[sv f, v] w fun e w' => e = .returned (sv o) ∧ New w w' := by
  obtain ⟨a, c, rfl, _⟩ : ∃ a c, v = .slice a gs.length c ∧ True := by obtain ⟨a, c, rfl, _⟩ := hv; exact ⟨a, c, rfl, trivial⟩
  have HH := Lib.hid (And.intro hf (And.intro hv hone))
  clear hf hv hone
  go_enter Tryz.func130, Tryz.ntmps130
  go_wp2
  go_loopg [5, 6, 7] f.length (fun gk u5 u6 u7 wr => ∃ (i j : Nat) (out rest : Str), i ≤ f.length ∧ gk = f.length - i ∧ j ≤ gs.length ∧ u5 = sv out ∧ u6 = .int .i64 j ∧ u7 = .int .i64 i ∧ Hid (FmtR (f.drop i) (gs.drop j) rest) ∧ Hid (out ++ rest = o) ∧ out.length ≤ 100000 ∧ New w wr)
  case atStart => exact ⟨0, 0, [], o, Nat.zero_le _, rfl, Nat.zero_le _, rfl, rfl, rfl, Lib.hid (by simpa using HH.out.1), Lib.hid rfl, by simp, New.refl _⟩
  case round =>
    obtain ⟨i, j, out, rest, hi, rfl, hj, rfl, rfl, rfl, hF, hO, hol2, hn⟩ := hrel
    by_cases hlt : i < f.length
    · have hsz : i < ({ data := f.toArray } : ByteArray).size := hlt
      cases h : f.drop i with
      | nil => rw [List.drop_eq_nil_iff] at h; omega
      | cons c r =>
        have hc : f[i] = c := by rw [List.drop_eq_getElem_cons hlt] at h; exact (List.cons.inj h).1
        have hr : f.drop (i + 1) = r := by rw [List.drop_eq_getElem_cons hlt] at h; exact (List.cons.inj h).2
        rw [h] at hF
        have hs := sv_get f i hsz
        rw [hc] at hs
        have HS := Lib.hid (And.intro hr hc)
        clear h hr hc
        by_cases h37 : c = 37
        · subst h37
          obtain ⟨ag, r', gs', o', rfl, hgs, rfl, hverb, hF'⟩ := hF.out.inv_arg
          · have hr := HS.out.1
            have hlt1 : i + 1 < f.length := by
              apply Nat.lt_of_not_le
              intro hle
              rw [List.drop_of_length_le hle] at hr
              cases hr
            have hc1 : f[i + 1] = ag.verb := by rw [List.drop_eq_getElem_cons hlt1] at hr; exact (List.cons.inj hr).1
            have hr1 : f.drop (i + 1 + 1) = r' := by rw [List.drop_eq_getElem_cons hlt1] at hr; exact (List.cons.inj hr).2
            have hsz1 : i + 1 < ({ data := f.toArray } : ByteArray).size := hlt1
            have hs1 := sv_get f (i + 1) hsz1
            rw [hc1] at hs1
            have hjl : j < gs.length := by
              apply Nat.lt_of_not_le
              intro hle
              rw [List.drop_of_length_le hle] at hgs
              cases hgs
            have hgj : gs[j] = ag := by rw [List.drop_eq_getElem_cons hjl] at hgs; exact (List.cons.inj hgs).1
            have hgs1 : gs.drop (j + 1) = gs' := by rw [List.drop_eq_getElem_cons hjl] at hgs; exact (List.cons.inj hgs).2
            obtain ⟨b, oo, e, c1⟩ := (HH.out.2.1.new hn).elem hjl
            cases e
            have hq := Lib.hid (HH.out.2.2 gs[j] (List.getElem_mem hjl) wr hn)
            rw [hgj] at c1 hq
            have hl3 : (out ++ ag.txt).length ≤ 100000 := by
              have := congrArg List.length hO.out
              simp at this ⊢; omega
            have HA := Lib.hid (And.intro hr1 (And.intro hgs1 (And.intro hF' (And.intro hl3 (show (out ++ ag.txt) ++ o' = o by rw [← hO.out]; simp)))))
            obtain ⟨vb, vl, tx⟩ := ag
            simp only at hverb hs1 hq c1
            have hsN : f.length ≤ 1000 := hfl
            clear hr hc1 hr1 hgs hgj hgs1 hF' hl3
            have hsum : out.length + tx.length ≤ 100000 := by have h3 := HA.out.2.2.2.1; simpa using h3
            rcases hverb with rfl | rfl
            all_goals
              go_wp2
              refine wp_loop_rounds 1 ?_
              rw [rounds_succ]
              go_wp2
              refine wp_loop_rounds 1 ?_
              rw [rounds_succ]
              go_wp2_with (first | (go_at_call 170; refine hq.out.mono ?_; rintro e w1 ⟨rfl, hn1⟩; obtain ⟨rb, rn, rc, w2, hrun, hn2⟩ := runes9 tx (by omega) w1; clear hq c1))
              clear hrun
              refine wp_loop_rounds 1 ?_
              rw [rounds_succ]
              go_wp2
              rw [sv_cat]
              go_roundg (f.length - (i + 2))
              case measure => omega
              case rel => exact ⟨i + 2, j + 1, out ++ tx, o', by omega, rfl, by omega, rfl, by go_num, by go_num, Lib.hid (by rw [HA.out.2.1]; rw [show i + 2 = i + 1 + 1 from rfl, HA.out.1]; exact HA.out.2.2.1), Lib.hid HA.out.2.2.2.2, HA.out.2.2.2.1, (hn.trans hn1).trans hn2⟩
        · have hcn : ((c.toNat : Int) != 37) = true := by
            simp
            intro e
            apply h37
            apply UInt8.toNat.inj
            have : c.toNat = 37 := by omega
            rw [this]; rfl
          have HC := Lib.hid h37
          clear h37
          obtain ⟨o', rfl, hF'⟩ := hF.out.inv_lit HC.out
          · have e5 : ({ data := out.toArray } : ByteArray) ++ ({ data := f.toArray } : ByteArray).extract i (i + 1) = ⟨(out ++ [c]).toArray⟩ := by
              rw [sv_one hlt, HS.out.2, sv_cat]
            have hol3 : (out ++ [c]).length ≤ 100000 := by
              have := congrArg List.length hO.out
              simp at this ⊢; omega
            have HF := Lib.hid (And.intro hF' (And.intro e5 (And.intro hol3 (show (out ++ [c]) ++ o' = o by rw [← hO.out]; simp))))
            clear hF' e5 hol3
            go_wp2
            rw [HF.out.2.1]
            go_roundg (f.length - (i + 1))
            case measure => omega
            case rel => exact ⟨i + 1, j, out ++ [c], o', by omega, rfl, hj, rfl, rfl, by go_num, Lib.hid (by rw [HS.out.1]; exact HF.out.1), Lib.hid HF.out.2.2.2, HF.out.2.2.1, hn⟩
    · have h0 : f.drop i = [] := List.drop_of_length_le (by omega)
      rw [h0] at hF
      have ho : o = out := by
        have h1 := hO.out
        rw [hF.out.inv_nil] at h1
        simpa using h1.symm
      have HO := Lib.hid ho
      clear h0 ho
      go_wp2
      go_ret
      exact ⟨by rw [HO.out]; rfl, hn⟩
end Go.Proofs.YtdejcdmgcckmoaaGreatDoor
namespace Go.Proofs
open Go.Shelf
def Tryz.lays169_ren : Go.Shelf.Ren := ⟨fun | 169 => 234 | n => n, fun | 70 => 304 | 9 => 9 | 0 => 0 | 72 => 306 | 37 => 287 | 127 => 322 | 3 => 3 | 5 => 5 | n => n, fun | n => n⟩
theorem Tryz.lays169 : Go.Proofs.Lays.n169 Tryz.prog Tryz.lays169_ren := {
  mixed := by kernel_rfl
  f169 := Tryz.func234.trans (congrArg some (by kernel_rfl))
  t0 := Tryz.underlying0
  a0 := Tryz.isAgg0
  z0 := Tryz.sizeOf0
  v0 := Tryz.zeroValue0
  t3 := Tryz.underlying3
  a3 := Tryz.isAgg3
  z3 := Tryz.sizeOf3
  v3 := Tryz.zeroValue3
  t9 := Tryz.underlying9
  a9 := Tryz.isAgg9
  z9 := Tryz.sizeOf9
  v9 := Tryz.zeroValue9
  t37 := Tryz.underlying287
  a37 := Tryz.isAgg287
  z37 := Tryz.sizeOf287
  v37 := Tryz.zeroValue287
  t70 := Tryz.underlying304
  a70 := Tryz.isAgg304
  z70 := Tryz.sizeOf304
  v70 := Tryz.zeroValue304
  t72 := Tryz.underlying306
  a72 := Tryz.isAgg306
  z72 := Tryz.sizeOf306
  v72 := Tryz.zeroValue306
  t127 := Tryz.underlying322
  a127 := Tryz.isAgg322
  z127 := Tryz.sizeOf322
  v127 := Tryz.zeroValue322 }
theorem Tryz.Builder_Extra_169 : Builder.Extra Tryz.prog Tryz.lays169_ren := {
  sizeBuilder := by kernel_rfl
  liesBuilder := by kernel_rfl
  t5 := Tryz.underlying5
  a5 := Tryz.isAgg5
  z5 := Tryz.sizeOf5
  v5 := Tryz.zeroValue5
  infoByte := by kernel_rfl
  cellsByte := by kernel_rfl
  sizeByte := by kernel_rfl
  neB5 := by decide }
open Go.RowKit in
theorem Tryz.Builder_String_any (B b : Nat) (l : List UInt8) (w : World) (h : Lib.IsBuilder 306 5 B b (Lib.byteCells l) w) (hBw : B ≤ w.heap.size) :
    Calls Tryz.prog 234 #[.pointer (some ⟨b, 0, none⟩)] w fun e w' => e = .returned (.string ⟨l.toArray⟩) ∧ Below B w w' := Any.Builder_String_any Tryz.lays169 Tryz.Builder_Extra_169 B b l w h hBw
end Go.Proofs
namespace Go.Proofs.YtdejcdmgcckmoaaGreatDoor
open Go.RowKit Go.Shelf Lr


set_option maxHeartbeats 1000000 in
set_option maxRecDepth 100000 in
theorem copyCheck_used (b : Nat) (w : World) (h0 : w.cell? ⟨b, 0, none⟩ = some (.pointer (some ⟨b, 0, none⟩))) :
    Calls Tryz.prog 332 #[.pointer (some ⟨b, 0, none⟩)] w fun e w' => e = .returned (.tuple #[]) ∧ w' = w := by
  obtain ⟨j, hj, _⟩ := Option.map_eq_some_iff.1 Tryz.Builder_Extra_169.sizeBuilder
  go_enter Tryz.func332, Tryz.ntmps332
  go_wp2
  rw [Lib.run_neq_ptr_same w _ Tryz.underlying304 hj]
  go_wp2
  go_end0
  exact ⟨rfl, rfl⟩

set_option maxHeartbeats 1000000 in
set_option maxRecDepth 100000 in
theorem copyCheck_fresh (b : Nat) (w : World) (h0 : w.cell? ⟨b, 0, none⟩ = some (.pointer none)) (hsh : w.shape? b = some (306, 2)) (hfz : w.frozen? ⟨b, 0, none⟩ = false) :
    Calls Tryz.prog 332 #[.pointer (some ⟨b, 0, none⟩)] w fun e w' => e = .returned (.tuple #[]) ∧ w' = w.setCell ⟨b, 0, none⟩ (.pointer (some ⟨b, 0, none⟩)) := by
  obtain ⟨j, hj, hjs⟩ := Option.map_eq_some_iff.1 Tryz.Builder_Extra_169.sizeBuilder
  go_enter Tryz.func332, Tryz.ntmps332
  go_wp2
  rw [Lib.run_to_unsafe w ⟨b, 0, none⟩ Tryz.underlying304 Tryz.underlying379 hj (by rw [hjs]; decide) hsh (Nat.zero_lt_succ 1)]
  simp only [Result.andThen]
  rw [Oper.upon_value]
  go_wp2
  rw [run_callFunc_extern Tryz.func333 (by kernel_rfl) (by kernel_rfl) (by kernel_rfl) (e := Extern.AbiNoEscape.same) (by kernel_rfl)]
  rw [Lib.run_noEscape]
  simp only [Result.andThen]
  rw [Oper.upon_value]
  go_wp2
  rw [Lib.run_from_unsafe w ⟨b, 0, none⟩ Tryz.underlying379 Tryz.underlying304 hj hsh Tryz.Builder_Extra_169.liesBuilder]
  simp only [Result.andThen]
  rw [Oper.upon_value]
  go_wp2
  go_end0
  exact ⟨rfl, rfl⟩

theorem copyCheck_any (B b : Nat) (bs : List Value) (w : World) (h : Lib.IsBuilder 306 5 B b bs w) :
    Calls Tryz.prog 332 #[.pointer (some ⟨b, 0, none⟩)] w fun e w' => e = .returned (.tuple #[]) ∧ (Lib.BuilderAt 306 5 B b (.pointer (some ⟨b, 0, none⟩)) bs w' ∧ Below B w w') := by
  rcases h with h | h
  · refine (copyCheck_fresh b w h.cell0 h.shape h.frozen0).mono ?_
    rintro e w' ⟨rfl, rfl⟩
    exact ⟨rfl, h.used _, (Below.refl B w).setCell (p := ⟨b, 0, none⟩) h.1 _⟩
  · refine (copyCheck_used b w h.cell0).mono ?_
    rintro e w' ⟨rfl, rfl⟩
    exact ⟨rfl, h, Below.refl B _⟩

set_option maxHeartbeats 2000000 in
set_option maxRecDepth 100000 in
theorem WriteString_any (B b : Nat) (bs : List Value) (s : ByteArray) (w : World) (h : Lib.IsBuilder 306 5 B b bs w) (hlen : bs.length + s.size ≤ 140737488355328) (hBw : B ≤ w.heap.size) :
    Calls Tryz.prog 331 #[.pointer (some ⟨b, 0, none⟩), .string s] w fun e w' => e = .returned (.tuple #[.int .i64 s.size, .nilIface]) ∧ (Lib.BuilderAt 306 5 B b (.pointer (some ⟨b, 0, none⟩)) (bs ++ Lib.strCells s) w' ∧ Below B w w') := by
  obtain ⟨i0, hi, hz0, hz1, hz2⟩ := info_parts Tryz.Builder_Extra_169.infoByte
  go_enter Tryz.func331, Tryz.ntmps331
  go_wp2_with (go_at_call 332; refine (copyCheck_any B b bs _ h).mono ?_)
  rintro e w1 ⟨rfl, h1, hb1⟩
  obtain ⟨hB, v, hbk, hown, hne⟩ := h1
  have c0 : w1.cell? ⟨b, 0, none⟩ = some (.pointer (some ⟨b, 0, none⟩)) := by rw [Lib.cell_of_heap hbk]; rfl
  have c1 : w1.cell? ⟨b, 1, none⟩ = some v := by rw [Lib.cell_of_heap hbk]; rfl
  go_wp2_with (at_builtin; refine Lib.wpList_append_own_string _ rfl _ _ 287 9 rfl B 5 i0 Tryz.underlying287 Tryz.underlying9 hi hz0 hz1 hz2 _ _ _ rfl hown s rfl ?c3 ?c4 ?c5 ?_)
  case c3 => unfold maxLen; omega
  case c4 => omega
  case c5 => have := hb1.size; omega
  intro v' w2 hown' hgrow _
  have hlt : b < w1.heap.size := by
    rcases Nat.lt_or_ge b w1.heap.size with h' | h'
    · exact h'
    · simp [Array.getElem?_eq_none h'] at hbk
  have hb2 : w2.heap[b]? = some (.cells #[.pointer (some ⟨b, 0, none⟩), v] 306 (0, 0)) := by
    rw [hgrow.block b hlt (fun e => hne e.symm)]
    exact hbk
  have d0 : w2.cell? ⟨b, 0, none⟩ = some (.pointer (some ⟨b, 0, none⟩)) := by rw [Lib.cell_of_heap hb2]; rfl
  have d1 : w2.cell? ⟨b, 1, none⟩ = some v := by rw [Lib.cell_of_heap hb2]; rfl
  have f1 : w2.frozen? ⟨b, 1, none⟩ = false := Lib.frozen_of_heap hb2 1
  obtain ⟨ao, n', cap, rfl⟩ : ∃ ao n' cap, v' = .slice ao n' cap := by
    rcases hown'.2 with ⟨hv, _⟩ | ⟨g, cap, cur, hv, _⟩
    · exact ⟨_, _, _, hv⟩
    · exact ⟨_, _, _, hv⟩
  go_wp2
  go_ret2
  refine ⟨rfl, ?_, ?_⟩
  · exact Lib.BuilderAt.put (T := 306) (e := 5) hB hb2 (bs' := bs ++ Lib.strCells s) (by simpa [Lib.strCells_length] using hown') (by decide)
  · exact (hb1.grown hgrow (by have := hb1.size; omega) (fun k hk => (hown.lt k hk).1)).setCell (p := ⟨b, 1, none⟩) hB _
end Go.Proofs.YtdejcdmgcckmoaaGreatDoor
namespace Go.Proofs.YtdejcdmgcckmoaaGreatDoor
open Go.RowKit Go.Shelf Lr

/-- A builder of the call's own, that holds these bytes. -/
abbrev Bld (w : World) (B b : Nat) (l : Str) : Prop := Lib.IsBuilder 306 5 B b (Lib.byteCells l) w
theorem Bld.new {w w' : World} {B b : Nat} {l : Str} (h : Bld w B b l) (hn : New w w') : Bld w' B b l := by
  rcases h with ⟨h1, v, h2, h3, h4⟩ | ⟨h1, v, h2, h3, h4⟩
  · exact .inl ⟨h1, v, hn.heap h2, ownsRow_new h3 hn, h4⟩
  · exact .inr ⟨h1, v, hn.heap h2, ownsRow_new h3 hn, h4⟩
theorem met304 (b : Nat) (w : World) : (method 481 304 (.pointer (some ⟨b, 0, none⟩)) "WriteString").run Tryz.prog w = .ok (331, .pointer (some ⟨b, 0, none⟩)) w := by kernel_rfl
theorem nil304 (b : Nat) (w : World) : (nilAhead 481 304 (.pointer (some ⟨b, 0, none⟩)) "WriteString").run Tryz.prog w = .ok (some false) w := by kernel_rfl
theorem str_cells (o : Str) : Lib.strCells ⟨o.toArray⟩ = Lib.byteCells o := by
  unfold Lib.strCells Lib.byteCells; simp
theorem byteCells_app (a b : Str) : Lib.byteCells (a ++ b) = Lib.byteCells a ++ Lib.byteCells b := by unfold Lib.byteCells; simp
theorem byteCells_len (a : Str) : (Lib.byteCells a).length = a.length := by unfold Lib.byteCells; simp
theorem WriteString_str {B b : Nat} {l o : Str} {w : World} (h : Bld w B b l) (hl : l.length + o.length ≤ 10000000) (hB : B ≤ w.heap.size) :
    Calls Tryz.prog 331 #[.pointer (some ⟨b, 0, none⟩), sv o] w fun e w' => e = .returned (.tuple #[.int .i64 o.length, .nilIface]) ∧ Bld w' B b (l ++ o) ∧ Below B w w' := by
  have hs : ByteArray.size ⟨o.toArray⟩ = o.length := rfl
  refine (WriteString_any B b (Lib.byteCells l) ⟨o.toArray⟩ w h (by rw [byteCells_len, hs]; omega) hB).mono ?_
  rintro e w' ⟨he, h1, h2⟩
  refine ⟨by rw [he, hs], .inr ?_, h2⟩
  rw [str_cells, ← byteCells_app] at h1
  exact h1

def Wrote (w : World) (B b : Nat) (l : Str) (e : Ending) (w' : World) : Prop := (∃ n : Int, e = .returned (.tuple #[.int .i64 n, .nilIface])) ∧ Bld w' B b l ∧ Below B w w'

set_option maxRecDepth 20000 in
set_option maxHeartbeats 2000000 in
theorem Fprint_str {B b : Nat} {l o : Str} {w : World} (h : Bld w B b l) (hl : l.length + o.length ≤ 10000000) (hB : B ≤ w.heap.size) :
    Calls Tryz.prog 233 #[.iface 304 (.pointer (some ⟨b, 0, none⟩)), .iface 9 (sv o)] w (Wrote w B b (l ++ o)) := by
  have hm := met304 b
  have hnl := nil304 b
  have hq := Lib.hid (fun W (hW : New w W) => WriteString_str (h.new hW) hl (Nat.le_trans hB hW.size))
  clear h
  go_enter Tryz.func233, Tryz.ntmps233
  go_wp2
  go_region_held3 (fun _ => True) (first | trivial | go_keep) (first | (go_at_call 213; refine (text_str _ _).mono ?_; rintro e w' ⟨rfl, rfl⟩) | (go_at_call 331; refine (hq.out _ (by first | exact New.refl w | exact (New.refl w).drewN 1 | exact (New.refl w).drewN _)).mono ?_; rintro e w' ⟨rfl, hb, hbel⟩))
  all_goals
    go_wp2
    go_ret2
    exact ⟨⟨_, rfl⟩, hb, Below.trans (show Below B w _ from Below.mono ((New.refl w).drewN _) hB) hbel⟩

set_option maxRecDepth 20000 in
set_option maxHeartbeats 4000000 in
theorem Fprintf_any {B b : Nat} {l o f : Str} {v : Value} {gs : List Ag} {w : World} (h : Bld w B b l) (hf : FmtR f gs o) (hv : AnyAt w v gs) (hfl : f.length ≤ 1000) (hal : gs.length ≤ 100) (hol : o.length ≤ 100000) (hl : l.length + o.length ≤ 10000000) (hB : B ≤ w.heap.size)
    (hone : ∀ a ∈ gs, ∀ W, New w W → Calls Tryz.prog 170 #[.int .u8 a.verb.toNat, a.val] W fun e w' => e = .returned (sv a.txt) ∧ New W w') :
    Calls Tryz.prog 232 #[.iface 304 (.pointer (some ⟨b, 0, none⟩)), sv f, v] w (Wrote w B b (l ++ o)) := by
  have hm := met304 b
  have hnl := nil304 b
  have hq := Lib.hid (fun W (hW : New w W) => WriteString_str (h.new hW) hl (Nat.le_trans hB hW.size))
  have hq2 := Lib.hid (fun W (hW : New w W) => Sprintf_any (w := W) hf (hv.new hW) hfl hal hol (fun a ha W' hW' => hone a ha W' (hW.trans hW')))
  clear h hf hone
  obtain ⟨a, c, rfl, _⟩ : ∃ a c, v = .slice a gs.length c ∧ True := by obtain ⟨a, c, rfl, _⟩ := hv; exact ⟨a, c, rfl, trivial⟩
  clear hv
  go_enter Tryz.func232, Tryz.ntmps232
  go_wp2
  go_region_held3 (fun _ => True) (first | trivial | go_keep) (first | (go_at_call 130; refine (hq2.out _ (by first | exact New.refl w | exact (New.refl w).drewN 1 | exact (New.refl w).drewN _)).mono ?_; rintro e w1 ⟨rfl, hn1⟩) | (go_at_call 331; refine (hq.out _ (by first | exact Below.trans ((New.refl w).drewN 1) hn1 | exact hn1 | exact New.trans ((New.refl w).drewN _) hn1)).mono ?_; rintro e w' ⟨rfl, hb, hbel⟩))
  all_goals
    go_wp2
    go_ret2
    exact ⟨⟨_, rfl⟩, hb, Below.trans (show Below B w _ from Below.mono (Below.trans ((New.refl w).drewN 1) hn1) hB) hbel⟩
end Go.Proofs.YtdejcdmgcckmoaaGreatDoor
namespace Go.Proofs.YtdejcdmgcckmoaaGreatDoor
open Go.RowKit Go.Shelf Lr

def dotS : Str := [226, 128, 162]
def lqS : Str := [32, 194, 171]
def rqS : Str := [194, 187]
def colS : Str := [32, 58, 32]
def bodyT (pos n : Nat) : Nat → List Str → Str
  | _, [] => []
  | i, s :: r => (if pos = i then dotS else []) ++ (s ++ ((if i + 1 < n then [32] else []) ++ bodyT pos n (i + 1) r))
theorem ret_sv {a b : Str} (h : a = b) : Ending.returned (sv a) = .returned (sv b) := by rw [h]
/-- An item's own text. -/
def strOf (id : Str) (l : List Str) (pos : Nat) (look : Str) : Str := (id ++ colS) ++ ((if l = [] then emptyS else bodyT pos l.length 0 l) ++ ((if pos = l.length then dotS else []) ++ (lqS ++ (look ++ rqS))))

theorem fmt_lit : ∀ {f : Str}, (∀ c ∈ f, c ≠ 37) → FmtR f [] f
  | [], _ => .nil
  | c :: _, h => .lit (h c (List.mem_cons_self ..)) (fmt_lit fun d hd => h d (List.mem_cons_of_mem _ hd))
def agS (s : Str) : Ag := ⟨115, .iface 9 (sv s), s⟩
theorem fmt_id (s : Str) : FmtR [37, 115, 32, 58, 32] [agS s] (s ++ colS) := .arg (a := agS s) (.inl rfl) (fmt_lit (by decide))
theorem fmt_look (s : Str) : FmtR [32, 194, 171, 37, 115, 194, 187] [agS s] (lqS ++ (s ++ rqS)) := .lit (by decide) (.lit (by decide) (.lit (by decide) (.arg (a := agS s) (.inl rfl) (fmt_lit (by decide)))))
theorem any_one (w : World) (s : Str) (n : Nat) (hn : n = w.heap.size) : AnyAt (w.alloc (.cells #[.iface 9 (sv s)] 20)) (.slice (some ⟨n, 0, none⟩) 1 1) [agS s] :=
  ⟨_, 1, rfl, Nat.le_refl _, fun _ => ⟨n, 0, rfl, fun j hj => by
    subst hn
    have : j = 0 := by simp at hj; omega
    subst this; simp [agS]⟩⟩
theorem any_none (w : World) : AnyAt w (.slice none 0 0) [] := ⟨none, 0, rfl, Nat.le_refl _, fun h => by simp at h⟩
theorem one_ag (s : Str) : ∀ a ∈ [agS s], ∀ W : World, Calls Tryz.prog 170 #[.int .u8 a.verb.toNat, a.val] W fun e w' => e = .returned (sv a.txt) ∧ New W w' := by
  intro a ha W
  simp at ha
  subst ha
  refine (one_s s W).mono ?_
  rintro e w' ⟨rfl, rfl⟩
  exact ⟨rfl, New.refl _⟩
/-- A format with one text. -/
theorem Fprintf_one {B b : Nat} {l o f s : Str} {v : Value} {w : World} (h : Bld w B b l) (hf : FmtR f [agS s] o) (hv : AnyAt w v [agS s]) (hfl : f.length ≤ 1000) (hol : o.length ≤ 100000) (hl : l.length ≤ 1000000) (hB : B ≤ w.heap.size) :
    Calls Tryz.prog 232 #[.iface 304 (.pointer (some ⟨b, 0, none⟩)), sv f, v] w (Wrote w B b (l ++ o)) :=
  Fprintf_any h hf hv hfl (by simp) hol (by omega) hB (fun a ha W _ => one_ag s a ha W)
theorem Fprintf_lit {B b : Nat} {l f : Str} {w : World} (h : Bld w B b l) (hf : ∀ c ∈ f, c ≠ 37) (hfl : f.length ≤ 1000) (hl : l.length ≤ 1000000) (hB : B ≤ w.heap.size) :
    Calls Tryz.prog 232 #[.iface 304 (.pointer (some ⟨b, 0, none⟩)), sv f, .slice none 0 0] w (Wrote w B b (l ++ f)) :=
  Fprintf_any h (fmt_lit hf) (any_none w) hfl (by simp) (by omega) (by omega) hB (fun a ha W _ => by cases ha)

set_option maxRecDepth 20000 in
set_option maxHeartbeats 800000 in
theorem getString_any {w : World} {p : Nat} {c0 c1 vb c5 c8 : Value} {id look : Str} {l : List Str} {pos : Nat} (hb : w.heap[p]? = some (.cells #[c0, c1, sv id, vb, .int .i64 pos, c5, sv look, .int .i64 l.length, c8] 99 (0, 0)))
    (hl : StrsAt w vb l) (hpos : pos ≤ l.length) (hll : l.length ≤ 20) (hid : id.length ≤ 1000) (hlk : look.length ≤ 1000) (hsl : ∀ s ∈ l, s.length ≤ 1000) :
    Calls Tryz.prog 217 #[.pointer (some ⟨p, 0, none⟩)] w fun e w' => e = .returned (sv (strOf id l pos look)) ∧ New w w' := by
  obtain ⟨a, cap, rfl⟩ := hl.slice
  have e2 := cell_of_blk hb 2
  have e3 := cell_of_blk hb 3
  have e4 := cell_of_blk hb 4
  have e6 := cell_of_blk hb 6
  have e7 := cell_of_blk hb 7
  simp only [List.getElem?_toArray, List.getElem?_cons_zero, List.getElem?_cons_succ] at e2 e3 e4 e6 e7
  have HC := Lib.hid (And.intro e2 (And.intro e3 (And.intro e4 (And.intro e6 e7))))
  have HL := Lib.hid (And.intro hl hsl)
  have hp := lt_of_block hb
  clear hb hl hsl
  have hb0 : Bld (w.alloc (.cells #[.pointer none, .slice none 0 0] 306)) w.heap.size w.heap.size [] := Lib.fresh_isBuilder 306 5 w
  have hn0 : New w (w.alloc (.cells #[.pointer none, .slice none 0 0] 306)) := (New.refl w).alloc _
  have H0 := Lib.hid (And.intro hb0 hn0)
  clear hb0 hn0 e3 e4 e6 e7
  go_enter Tryz.func217, Tryz.ntmps217
  go_wp2_with fail
  clear e2
  obtain ⟨hb0, hn0⟩ := H0.out
  have hsz1 : w.heap.size + 1 = (w.alloc (.cells #[.pointer none, .slice none 0 0] 306)).heap.size := by simp
  generalize w.alloc (.cells #[.pointer none, .slice none 0 0] 306) = w1 at *
  have hq := Lib.hid (Fprintf_one (hb0.new ((New.refl w1).alloc (.cells #[.iface 9 (sv id)] 20))) (fmt_id id) (any_one w1 id (w.heap.size + 1) hsz1) (by simp) (by simp [colS]; omega) (by simp) (Nat.le_trans hn0.size (by simp)))
  refine hq.out.mono ?_
  rintro e w2 ⟨⟨n, rfl⟩, hb2, hbel⟩
  have hn2 : New w w2 := Below.trans (hn0.alloc _) hbel
  have H2 := Lib.hid (And.intro hb2 hn2)
  have e7 := hn2.cell HC.out.2.2.2.2
  clear hq hb0 hn0 hb2 hbel H0 hsz1
  have hB2 := hn2.size
  by_cases hl0 : l = []
  · have hz : ((l.length : Int) == 0) = true := by rw [hl0]; rfl
    have HL0 := Lib.hid hl0
    clear hl0
    go_wp2_with fail
    refine (Fprintf_lit H2.out.1 (by decide) (by simp) (by simp [colS]; omega) hB2).mono ?_
    rintro e w3 ⟨⟨n3, rfl⟩, hb3, hbel3⟩
    have hn3 : New w w3 := Below.trans hn2 hbel3
    have hal3 : (([] ++ (id ++ colS)) ++ ([101, 109, 112, 116, 121] : Str)).length ≤ 2000 := by simp [colS]; omega
    have HA := Lib.hid (show ([] ++ (id ++ colS)) ++ ([101, 109, 112, 116, 121] : Str) = (id ++ colS) ++ emptyS by rfl)
    generalize ([] ++ (id ++ colS)) ++ ([101, 109, 112, 116, 121] : Str) = acc at *
    clear hz hbel3 e7 hn2 hB2 H2
    have e4 := hn3.cell HC.out.2.2.1
    have e7 := hn3.cell HC.out.2.2.2.2
    by_cases hpe : pos = l.length
    · have hpt : ((pos : Int) == (l.length : Int)) = true := by rw [hpe]; simp
      have HPE := Lib.hid hpe
      clear hpe
      go_wp2
      go_quiet (fail)
      go_wp2_with fail
      have hnq : New w3 (w3.drewN nq) := (New.refl _).drewN _
      have hbq := hb3.new hnq
      refine (Fprintf_lit hbq (by decide) (by simp) (by omega) (hn3.trans hnq).size).mono ?_
      rintro e w5 ⟨⟨n5, rfl⟩, hb5, hbel5⟩
      have hn5 : New w w5 := Below.trans (hn3.trans hnq) hbel5
      have e6 := hn5.cell HC.out.2.2.2.1
      clear hbq hnq hbel5 e4 e7 hpt
      go_wp2_with fail
      clear e6
      refine (Fprintf_one (hb5.new ((New.refl w5).alloc (.cells #[.iface 9 (sv look)] 20))) (fmt_look look) (any_one w5 look w5.heap.size rfl) (by simp) (by simp [lqS, rqS]; omega) (by simp <;> omega) (hn5.alloc _).size).mono ?_
      rintro e w6 ⟨⟨n6, rfl⟩, hb6, hbel6⟩
      have hn6 : New w w6 := Below.trans (hn5.alloc _) hbel6
      clear hb5 hn5 hbel6
      go_wp2_with fail
      refine (Tryz.Builder_String_any w.heap.size w.heap.size _ w6 hb6 hn6.size).mono ?_
      rintro e w7 ⟨rfl, hbel7⟩
      go_wp2
      go_ret
      refine ⟨ret_sv (show _ = strOf id l pos look from ?_), Below.trans hn6 hbel7⟩
      unfold strOf; rw [if_pos HL0.out, if_pos HPE.out, HA.out]; simp [dotS]
    · have hpt : ((pos : Int) == (l.length : Int)) = false := beq_eq_false_iff_ne.2 (by omega)
      have HPE := Lib.hid hpe
      clear hpe
      go_wp2
      go_quiet (fail)
      have hnq : New w3 (w3.drewN nq) := (New.refl _).drewN _
      have hn5 : New w (w3.drewN nq) := hn3.trans hnq
      have hb5 := hb3.new hnq
      have e6 := hn5.cell HC.out.2.2.2.1
      clear hnq e4 e7 hpt
      generalize w3.drewN nq = w5 at *
      go_wp2_with fail
      clear e6
      refine (Fprintf_one (hb5.new ((New.refl w5).alloc (.cells #[.iface 9 (sv look)] 20))) (fmt_look look) (any_one w5 look w5.heap.size rfl) (by simp) (by simp [lqS, rqS]; omega) (by omega) (hn5.alloc _).size).mono ?_
      rintro e w6 ⟨⟨n6, rfl⟩, hb6, hbel6⟩
      have hn6 : New w w6 := Below.trans (hn5.alloc _) hbel6
      clear hb5 hn5 hbel6
      go_wp2_with fail
      refine (Tryz.Builder_String_any w.heap.size w.heap.size _ w6 hb6 hn6.size).mono ?_
      rintro e w7 ⟨rfl, hbel7⟩
      go_wp2
      go_ret
      refine ⟨ret_sv (show _ = strOf id l pos look from ?_), Below.trans hn6 hbel7⟩
      unfold strOf; rw [if_pos HL0.out, if_neg HPE.out, HA.out]; simp
  · have hpos0 : 0 < l.length := List.length_pos_iff.2 hl0
    have hz : ((l.length : Int) == 0) = false := beq_eq_false_iff_ne.2 (by omega)
    have HL0 := Lib.hid hl0
    have e3 := hn2.cell HC.out.2.1
    clear hl0
    go_wp2
    clear e7 e3 hz
    go_loopg [29] l.length (fun gk u29 wr => ∃ (k : Nat) (acc : Str), k ≤ l.length ∧ gk = l.length - k ∧ u29 = .int .i64 k ∧ Bld wr w.heap.size w.heap.size acc ∧ Hid (acc ++ bodyT pos l.length k (l.drop k) = (id ++ colS) ++ bodyT pos l.length 0 l) ∧ acc.length ≤ 1003 + k * 1010 ∧ New w wr)
    case atStart => exact ⟨0, id ++ colS, Nat.zero_le _, rfl, rfl, by simpa using H2.out.1, Lib.hid (by simp), by simp [colS]; omega, H2.out.2⟩
    case round =>
      clear H2 hn2 hB2
      obtain ⟨k, acc, hk, rfl, rfl, hbk, hacc, hal, hn⟩ := hrel
      have hB := hn.size
      by_cases hlt : k < l.length
      · obtain ⟨b, o, e, d1⟩ := (HL.out.1.new hn).elem hlt
        cases e
        have e4 := hn.cell HC.out.2.2.1
        have e7 := hn.cell HC.out.2.2.2.2
        have hsl := HL.out.2 _ (List.getElem_mem hlt)
        have hdrop := List.drop_eq_getElem_cons hlt
        have HD := Lib.hid hdrop
        clear hdrop
        by_cases hd : pos = k
        · have hdf : ((pos : Int) == (k : Int)) = true := by rw [hd]; simp
          have HDF := Lib.hid hd
          clear hd
          go_wp2_with fail
          refine (Fprintf_lit hbk (by decide) (by simp) (by omega) hB).mono ?_
          rintro e w2 ⟨⟨n2, rfl⟩, hb2, hbel2⟩
          have hn2 : New w w2 := Below.trans hn hbel2
          clear hbk hbel2 hn e4 d1
          go_wp2_with fail
          refine (Fprint_str hb2 (by simp; omega) hn2.size).mono ?_
          rintro e w3 ⟨⟨n, rfl⟩, hb3, hbel3⟩
          have hn3 : New w w3 := Below.trans hn2 hbel3
          have e7 := hn3.cell HC.out.2.2.2.2
          clear hb2 hbel3 hn2
          have hsub : ((k : Int) < (l.length : Int) - 1) ↔ k + 1 < l.length := by omega
          have hib : IntKind.i64.wrap ((l.length : Int) - 1) = (l.length : Int) - 1 := by rw [IntKind.wrap_i64]; omega
          by_cases hlast : k + 1 < l.length
          · have hlt2 : (k : Int) < (l.length : Int) - 1 := by omega
            have HLA := Lib.hid hlast
            clear hlast hsub
            go_wp2_with fail
            refine (Fprintf_lit hb3 (by decide) (by simp) (by simp; omega) hn3.size).mono ?_
            rintro e w4 ⟨⟨n4, rfl⟩, hb4, hbel4⟩
            have hn4 : New w w4 := Below.trans hn3 hbel4
            clear hbel4 hlt2 hib
            go_wp2
            go_roundg (l.length - (k + 1))
            case measure => omega
            case rel =>
              refine ⟨k + 1, _, by omega, rfl, by go_num, hb4, Lib.hid ?_, by simp; omega, hn4⟩
              rw [← hacc.out, HD.out, bodyT, if_pos HDF.out, if_pos HLA.out]
              simp [dotS]
          · have hlt2 : ¬ ((k : Int) < (l.length : Int) - 1) := by omega
            have HLA := Lib.hid hlast
            clear hlast hsub
            go_wp2
            go_roundg (l.length - (k + 1))
            case measure => omega
            case rel =>
              refine ⟨k + 1, _, by omega, rfl, by go_num, hb3, Lib.hid ?_, by simp; omega, hn3⟩
              rw [← hacc.out, HD.out, bodyT, if_pos HDF.out, if_neg HLA.out]
              simp [dotS]
        · have hdf : ((pos : Int) == (k : Int)) = false := beq_eq_false_iff_ne.2 (by omega)
          have HDF := Lib.hid hd
          clear hd
          go_wp2_with fail
          refine (Fprint_str hbk (by omega) hB).mono ?_
          rintro e w3 ⟨⟨n, rfl⟩, hb3, hbel3⟩
          have hn3 : New w w3 := Below.trans hn hbel3
          have H3 := Lib.hid (And.intro hb3 hn3)
          have e7 := hn3.cell HC.out.2.2.2.2
          clear hbk hb3 hbel3 hn hn3 e4 d1
          obtain ⟨hb3, hn3⟩ := H3.out
          have hsub : ((k : Int) < (l.length : Int) - 1) ↔ k + 1 < l.length := by omega
          have hib : IntKind.i64.wrap ((l.length : Int) - 1) = (l.length : Int) - 1 := by rw [IntKind.wrap_i64]; omega
          by_cases hlast : k + 1 < l.length
          · have hlt2 : (k : Int) < (l.length : Int) - 1 := by omega
            have HLA := Lib.hid hlast
            clear hlast hsub
            go_wp2_with fail
            refine (Fprintf_lit hb3 (by decide) (by simp) (by simp; omega) hn3.size).mono ?_
            rintro e w4 ⟨⟨n4, rfl⟩, hb4, hbel4⟩
            have hn4 : New w w4 := Below.trans hn3 hbel4
            clear hbel4 hlt2 hib
            go_wp2
            go_roundg (l.length - (k + 1))
            case measure => omega
            case rel =>
              refine ⟨k + 1, _, by omega, rfl, by go_num, hb4, Lib.hid ?_, by simp; omega, hn4⟩
              rw [← hacc.out, HD.out, bodyT, if_neg HDF.out, if_pos HLA.out]
              simp
          · have hlt2 : ¬ ((k : Int) < (l.length : Int) - 1) := by omega
            have HLA := Lib.hid hlast
            clear hlast hsub
            go_wp2
            go_roundg (l.length - (k + 1))
            case measure => omega
            case rel =>
              refine ⟨k + 1, _, by omega, rfl, by go_num, hb3, Lib.hid ?_, by simp; omega, hn3⟩
              rw [← hacc.out, HD.out, bodyT, if_neg HDF.out, if_neg HLA.out]
              simp
      · have hke : l.drop k = [] := List.drop_of_length_le (by omega)
        rw [hke] at hacc
        have HA := Lib.hid (show acc = (id ++ colS) ++ bodyT pos l.length 0 l by rw [← hacc.out]; simp [bodyT])
        have hal3 : acc.length ≤ 50000 := by omega
        clear hke hacc
        have e4 := hn.cell HC.out.2.2.1
        have e7 := hn.cell HC.out.2.2.2.2
        by_cases hpe : pos = l.length
        · have hpt : ((pos : Int) == (l.length : Int)) = true := by rw [hpe]; simp
          have HPE := Lib.hid hpe
          clear hpe
          go_wp2
          go_quiet (fail)
          go_wp2_with fail
          have hnq : New wr (wr.drewN nq) := (New.refl _).drewN _
          have hbq := hbk.new hnq
          refine (Fprintf_lit hbq (by decide) (by simp) (by omega) (hn.trans hnq).size).mono ?_
          rintro e w5 ⟨⟨n5, rfl⟩, hb5, hbel5⟩
          have hn5 : New w w5 := Below.trans (hn.trans hnq) hbel5
          have e6 := hn5.cell HC.out.2.2.2.1
          clear hbq hnq hbel5 e4 e7 hpt
          go_wp2_with fail
          clear e6
          refine (Fprintf_one (hb5.new ((New.refl w5).alloc (.cells #[.iface 9 (sv look)] 20))) (fmt_look look) (any_one w5 look w5.heap.size rfl) (by simp) (by simp [lqS, rqS]; omega) (by simp <;> omega) (hn5.alloc _).size).mono ?_
          rintro e w6 ⟨⟨n6, rfl⟩, hb6, hbel6⟩
          have hn6 : New w w6 := Below.trans (hn5.alloc _) hbel6
          clear hb5 hn5 hbel6
          go_wp2_with fail
          refine (Tryz.Builder_String_any w.heap.size w.heap.size _ w6 hb6 hn6.size).mono ?_
          rintro e w7 ⟨rfl, hbel7⟩
          go_wp2
          go_ret
          refine ⟨ret_sv (show _ = strOf id l pos look from ?_), Below.trans hn6 hbel7⟩
          unfold strOf; rw [if_neg HL0.out, if_pos HPE.out, HA.out]; simp [dotS]
        · have hpt : ((pos : Int) == (l.length : Int)) = false := beq_eq_false_iff_ne.2 (by omega)
          have HPE := Lib.hid hpe
          clear hpe
          go_wp2
          go_quiet (fail)
          have hnq : New wr (wr.drewN nq) := (New.refl _).drewN _
          have hn5 : New w (wr.drewN nq) := hn.trans hnq
          have hb5 := hbk.new hnq
          have e6 := hn5.cell HC.out.2.2.2.1
          clear hnq e4 e7 hpt
          generalize wr.drewN nq = w5 at *
          go_wp2_with fail
          clear e6
          refine (Fprintf_one (hb5.new ((New.refl w5).alloc (.cells #[.iface 9 (sv look)] 20))) (fmt_look look) (any_one w5 look w5.heap.size rfl) (by simp) (by simp [lqS, rqS]; omega) (by omega) (hn5.alloc _).size).mono ?_
          rintro e w6 ⟨⟨n6, rfl⟩, hb6, hbel6⟩
          have hn6 : New w w6 := Below.trans (hn5.alloc _) hbel6
          clear hb5 hn5 hbel6
          go_wp2_with fail
          refine (Tryz.Builder_String_any w.heap.size w.heap.size _ w6 hb6 hn6.size).mono ?_
          rintro e w7 ⟨rfl, hbel7⟩
          go_wp2
          go_ret
          refine ⟨ret_sv (show _ = strOf id l pos look from ?_), Below.trans hn6 hbel7⟩
          unfold strOf; rw [if_neg HL0.out, if_neg HPE.out, HA.out]; simp
end Go.Proofs.YtdejcdmgcckmoaaGreatDoor
