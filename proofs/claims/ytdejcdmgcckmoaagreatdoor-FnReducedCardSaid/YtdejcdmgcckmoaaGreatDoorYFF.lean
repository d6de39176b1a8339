/- The package: a state's action at a symbol. -/
import Derived.Shelf.Strconv.Itoa4
import Derived.Test.YtdejcdmgcckmoaaGreatDoorProg
import Derived.Test.YtdejcdmgcckmoaaGreatDoorYEE
import Derived.Lib.ItoaLen
import Derived.Lib.AppendIntMem
namespace Go.Proofs
open Go.Shelf
def Tryz.laysM173_ren : Go.Shelf.Ren := ⟨fun | 173 => 215 | 246 => 231 | 283 => 240 | 284 => 241 | 285 => 242 | 286 => 243 | 129 => 147 | 317 => 246 | 318 => 247 | 319 => 248 | 320 => 249 | 337 => 255 | 338 => 256 | n => n, fun | 2 => 2 | 3 => 3 | 9 => 9 | 4 => 4 | 171 => 315 | 0 => 0 | 53 => 227 | 37 => 287 | 5 => 5 | 173 => 317 | 212 => 328 | 51 => 225 | 20 => 20 | 213 => 329 | 46 => 160 | 232 => 340 | 233 => 341 | n => n, fun | 17 => 0 | 18 => 8 | 19 => 9 | n => n⟩
theorem Tryz.laysM173 : Go.Proofs.LaysM.n173 Tryz.prog Tryz.laysM173_ren := {
  mixed := by kernel_rfl
  f129 := Tryz.func147.trans (congrArg some (by kernel_rfl))
  f173 := Tryz.func215.trans (congrArg some (by kernel_rfl))
  f246 := Tryz.func231.trans (congrArg some (by kernel_rfl))
  f283 := Tryz.func240.trans (congrArg some (by kernel_rfl))
  f284 := Tryz.func241.trans (congrArg some (by kernel_rfl))
  f285 := Tryz.func242.trans (congrArg some (by kernel_rfl))
  f286 := Tryz.func243.trans (congrArg some (by kernel_rfl))
  f317 := Tryz.func246.trans (congrArg some (by kernel_rfl))
  f318 := Tryz.func247.trans (congrArg some (by kernel_rfl))
  f319 := Tryz.func248.trans (congrArg some (by kernel_rfl))
  f320 := Tryz.func249.trans (congrArg some (by kernel_rfl))
  f337 := Tryz.func255.trans (congrArg some (by kernel_rfl))
  f338 := Tryz.func256.trans (congrArg some (by kernel_rfl))
  t0 := Tryz.underlying0
  a0 := Tryz.isAgg0
  z0 := Tryz.sizeOf0
  v0 := Tryz.zeroValue0
  t2 := Tryz.underlying2
  a2 := Tryz.isAgg2
  z2 := Tryz.sizeOf2
  v2 := Tryz.zeroValue2
  t3 := Tryz.underlying3
  a3 := Tryz.isAgg3
  z3 := Tryz.sizeOf3
  v3 := Tryz.zeroValue3
  t4 := Tryz.underlying4
  a4 := Tryz.isAgg4
  z4 := Tryz.sizeOf4
  v4 := Tryz.zeroValue4
  t5 := Tryz.underlying5
  a5 := Tryz.isAgg5
  z5 := Tryz.sizeOf5
  v5 := Tryz.zeroValue5
  t9 := Tryz.underlying9
  a9 := Tryz.isAgg9
  z9 := Tryz.sizeOf9
  v9 := Tryz.zeroValue9
  t20 := Tryz.underlying20
  a20 := Tryz.isAgg20
  z20 := Tryz.sizeOf20
  v20 := Tryz.zeroValue20
  t37 := Tryz.underlying287
  a37 := Tryz.isAgg287
  z37 := Tryz.sizeOf287
  v37 := Tryz.zeroValue287
  t46 := Tryz.underlying160
  a46 := Tryz.isAgg160
  z46 := Tryz.sizeOf160
  v46 := Tryz.zeroValue160
  t51 := Tryz.underlying225
  a51 := Tryz.isAgg225
  z51 := Tryz.sizeOf225
  v51 := Tryz.zeroValue225
  t53 := Tryz.underlying227
  a53 := Tryz.isAgg227
  z53 := Tryz.sizeOf227
  v53 := Tryz.zeroValue227
  t171 := Tryz.underlying315
  a171 := Tryz.isAgg315
  z171 := Tryz.sizeOf315
  v171 := Tryz.zeroValue315
  t173 := Tryz.underlying317
  a173 := Tryz.isAgg317
  z173 := Tryz.sizeOf317
  v173 := Tryz.zeroValue317
  t212 := Tryz.underlying328
  a212 := Tryz.isAgg328
  z212 := Tryz.sizeOf328
  v212 := Tryz.zeroValue328
  t213 := Tryz.underlying329
  a213 := Tryz.isAgg329
  z213 := Tryz.sizeOf329
  t232 := Tryz.underlying340
  a232 := Tryz.isAgg340
  z232 := Tryz.sizeOf340
  v232 := Tryz.zeroValue340
  t233 := Tryz.underlying341
  a233 := Tryz.isAgg341
  z233 := Tryz.sizeOf341
  v233 := Tryz.zeroValue341
  g17 := by kernel_rfl
  g18 := by kernel_rfl
  g19 := by kernel_rfl
  i0 := by kernel_rfl
  i2 := by kernel_rfl
  i3 := by kernel_rfl
  i4 := by kernel_rfl
  i5 := by kernel_rfl
  i9 := by kernel_rfl
  i20 := by kernel_rfl
  i37 := by kernel_rfl
  i46 := by kernel_rfl
  i51 := by kernel_rfl
  i53 := by kernel_rfl
  i171 := by kernel_rfl
  i173 := by kernel_rfl
  i212 := by kernel_rfl
  i232 := by kernel_rfl
  i233 := by kernel_rfl
  m17 := by kernel_rfl
  m18 := by kernel_rfl
  m19 := by kernel_rfl }
open Go.RowKit Go.Sort Go.Lib in
/-- strconv.FormatInt at base 10: the decimal numeral, for every int64 (laid). -/
theorem Tryz.strconv_FormatInt_10 (n : Int) (h0 : -9223372036854775808 ≤ n) (h1 : n ≤ 9223372036854775807) (w : World) (htab : Lib.TabIs Tryz.prog w "internal/strconv.uint64pow10" .u64 Lib.pow10Tab) :
    Calls Tryz.prog 215 #[.int .i64 n, .int .i64 10] w fun e w' => e = .returned (.string ⟨(Lib.itoa n).toArray⟩) ∧ ∃ k os, w' = grow (w.drewN k) os := Any.strconv_FormatInt_10 Tryz.laysM173 n h0 h1 w htab
end Go.Proofs
namespace Go.Proofs.YtdejcdmgcckmoaaGreatDoor
open Go.RowKit Go.Sort Lr

/-- The table of powers of ten stands. -/
def TabW (w : World) : Prop := Lib.TabIs Tryz.prog w "internal/strconv.uint64pow10" .u64 Lib.pow10Tab
theorem TabW.new {w w' : World} (h : TabW w) (hn : New w w') : TabW w' := by
  have hgn : Tryz.prog.globalNamed "internal/strconv.uint64pow10" = some 0 := by kernel_rfl
  unfold TabW Lib.TabIs World.var? at h ⊢
  rw [hgn] at h ⊢
  simp only [Option.bind_some] at h ⊢
  have hlt : 0 < w.heap.size := by
    apply Nat.pos_of_ne_zero
    intro h0
    rw [Array.getElem?_eq_none (by omega)] at h
    simp at h
  rw [hn.block 0 hlt]
  exact h
/-- A number's text by the verb %d. -/
theorem one_d (n : Nat) (hnb : n ≤ 1000000) (w : World) (ht : TabW w) : Calls Tryz.prog 170 #[.int .u8 100, .iface 3 (.int .i64 (n : Int))] w fun e w' => e = .returned (sv (Lib.itoa n)) ∧ New w w' := by
  have HT := Lib.hid ht
  clear ht
  go_enter Tryz.func170, Tryz.ntmps170
  go_wp2_with (first
    | (go_at_call 214; refine (number_int _ _).mono ?_; rintro e w' ⟨rfl, rfl⟩)
    | (go_at_call 215; refine (Tryz.strconv_FormatInt_10 _ (by omega) (by omega) _ HT.out).mono ?_; rintro e w' ⟨rfl, k, os, rfl⟩))
  go_ret
  exact ⟨rfl, Lib.below_grow _ _ (Nat.le_refl _) _ _⟩
/-- An action's text. -/
def Actn.txt : Actn → Str
  | .err => [101, 114, 114, 111, 114]
  | .acc => [97, 99, 99, 101, 112, 116]
  | .red n => [82, 101, 100, 117, 99, 101, 40] ++ (Lib.itoa n ++ [41])
  | .sh n => [83, 104, 105, 102, 116, 40] ++ (Lib.itoa n ++ [41])
def Actn.sml : Actn → Prop
  | .err => True
  | .acc => True
  | .red n => n ≤ 1000000
  | .sh n => n ≤ 1000000
def agD (n : Nat) : Ag := ⟨100, .iface 3 (.int .i64 (n : Int)), Lib.itoa n⟩
theorem fmt_red (n : Nat) : FmtR [82, 101, 100, 117, 99, 101, 40, 37, 100, 41] [agD n] (Actn.red n).txt :=
  .lit (by decide) (.lit (by decide) (.lit (by decide) (.lit (by decide) (.lit (by decide) (.lit (by decide) (.lit (by decide) (.arg (a := agD n) (.inr rfl) (fmt_lit (by decide)))))))))
theorem fmt_sh (n : Nat) : FmtR [83, 104, 105, 102, 116, 40, 37, 100, 41] [agD n] (Actn.sh n).txt :=
  .lit (by decide) (.lit (by decide) (.lit (by decide) (.lit (by decide) (.lit (by decide) (.lit (by decide) (.arg (a := agD n) (.inr rfl) (fmt_lit (by decide))))))))
theorem any_oneD (w : World) (s : Nat) (n : Nat) (hn : n = w.heap.size) : AnyAt (w.alloc (.cells #[.iface 3 (.int .i64 (s : Int))] 20)) (.slice (some ⟨n, 0, none⟩) 1 1) [agD s] :=
  ⟨_, 1, rfl, Nat.le_refl _, fun _ => ⟨n, 0, rfl, fun j hj => by
    subst hn
    have : j = 0 := by simp at hj; omega
    subst this; simp [agD]⟩⟩
theorem one_agD (s : Nat) (hs : s ≤ 1000000) (w : World) (ht : TabW w) : ∀ a ∈ [agD s], ∀ W : World, New w W → Calls Tryz.prog 170 #[.int .u8 a.verb.toNat, a.val] W fun e w' => e = .returned (sv a.txt) ∧ New W w' := by
  intro a ha W hW
  simp at ha
  subst ha
  exact one_d s hs W (ht.new hW)
theorem itoa_le {n : Nat} (h : n ≤ 1000000) : (Lib.itoa (n : Int)).length ≤ 21 := Lib.itoa_length_le _ (by omega) (by omega)
theorem Str_red (n : Nat) (hnb : n ≤ 1000000) (w : World) (ht : TabW w) : Calls Tryz.prog 321 #[.int .i64 (n : Int)] w fun e w' => e = .returned (sv (Actn.red n).txt) ∧ New w w' := by
  have HT := Lib.hid ht
  clear ht
  go_enter Tryz.func321, Tryz.ntmps321
  have hn1 := (New.refl w).alloc (.cells #[.iface 3 (.int .i64 (n : Int))] 20)
  go_wp2_with (go_at_call 130; refine (Sprintf_any (fmt_red n) (any_oneD _ n _ rfl) (by decide) (by simp) (by have := itoa_le hnb; simp [Actn.txt]; omega) (one_agD n hnb _ (HT.out.new hn1))).mono ?_; rintro e w1 ⟨rfl, h1⟩)
  go_ret
  exact ⟨rfl, hn1.trans h1⟩
theorem Str_sh (n : Nat) (hnb : n ≤ 1000000) (w : World) (ht : TabW w) : Calls Tryz.prog 318 #[.int .i64 (n : Int)] w fun e w' => e = .returned (sv (Actn.sh n).txt) ∧ New w w' := by
  have HT := Lib.hid ht
  clear ht
  go_enter Tryz.func318, Tryz.ntmps318
  have hn1 := (New.refl w).alloc (.cells #[.iface 3 (.int .i64 (n : Int))] 20)
  go_wp2_with (go_at_call 130; refine (Sprintf_any (fmt_sh n) (any_oneD _ n _ rfl) (by decide) (by simp) (by have := itoa_le hnb; simp [Actn.txt]; omega) (one_agD n hnb _ (HT.out.new hn1))).mono ?_; rintro e w1 ⟨rfl, h1⟩)
  go_ret
  exact ⟨rfl, hn1.trans h1⟩
theorem Str_err (w : World) : Calls Tryz.prog 315 #[.bool true] w fun e w' => e = .returned (sv Actn.err.txt) ∧ New w w' := by
  go_enter Tryz.func315, Tryz.ntmps315
  go_wp2
  go_ret
  exact ⟨rfl, New.refl _⟩
theorem Str_acc (w : World) : Calls Tryz.prog 324 #[.bool true] w fun e w' => e = .returned (sv Actn.acc.txt) ∧ New w w' := by
  go_enter Tryz.func324, Tryz.ntmps324
  go_wp2
  go_ret
  exact ⟨rfl, New.refl _⟩
theorem Str_act (x : Actn) (hx : x.sml) (w : World) (ht : TabW w) : Calls Tryz.prog x.strF #[x.raw] w fun e w' => e = .returned (sv x.txt) ∧ New w w' := by
  cases x with
  | err => exact Str_err w
  | acc => exact Str_acc w
  | red m => exact Str_red m hx w ht
  | sh m => exact Str_sh m hx w ht
end Go.Proofs.YtdejcdmgcckmoaaGreatDoor
namespace Go.Proofs.YtdejcdmgcckmoaaGreatDoor
open Go.RowKit Go.Sort Lr

theorem T120 : SliceTy Tryz.prog 120 119 1 16 .nilIface := ⟨Tryz.underlying120, by kernel_rfl, rfl, by omega⟩
/-- The actions of a row of items at a symbol. -/
def actI (g : Gram) (s : Str) (n : Nat) (i : Itm) : Actn := actC (idxI i.prod) i.dot (Lr.body g i.prod).length ((Lr.body g i.prod).getD i.dot []) (untold i.look) s n
def actsI (g : Gram) (s : Str) (n : Nat) (l : List Itm) : List Actn := l.map (actI g s n)
def foldA (A : List Actn) : Actn × Bool := A.foldl stepA (.err, false)
theorem foldA_take {A : List Actn} {k : Nat} (h : k < A.length) : foldA (A.take (k + 1)) = stepA (foldA (A.take k)) A[k] := by
  unfold foldA
  rw [List.take_succ_eq_append_getElem h, List.foldl_append]; rfl
theorem foldA_met {A : List Actn} (hA : MeetA A) : ∀ {k : Nat}, k ≤ A.length → MetA (A.take k) (foldA (A.take k))
  | 0, _ => by simpa [foldA] using MetA.init
  | k + 1, h => by
    rw [foldA_take (by omega), List.take_succ_eq_append_getElem (by omega)]
    exact (foldA_met hA (k := k) (by omega)).step hA (fun x hx => List.mem_of_mem_take hx) (List.getElem_mem _)
/-- Each method at the cells of the interface. -/
theorem Eq_yes {x y : Actn} (h : x = y) (w : World) : Calls Tryz.prog x.eqF #[x.raw, .iface y.ty y.raw] w fun e w' => e = .returned (.bool true) ∧ w' = w := by
  have := Equal_act x y w
  rw [decide_eq_true h, Actn.val_iface] at this
  exact this
theorem Eq_no {x y : Actn} (h : ¬ x = y) (w : World) : Calls Tryz.prog x.eqF #[x.raw, .iface y.ty y.raw] w fun e w' => e = .returned (.bool false) ∧ w' = w := by
  have := Equal_act x y w
  rw [decide_eq_false h, Actn.val_iface] at this
  exact this
theorem Res_any {A : List Actn} (hA : MeetA A) {r a : Actn} (hr : r ∈ A) (ha : a ∈ A) (hr0 : r ≠ .err) (ha0 : a ≠ .err) (hne : r ≠ a) (w : World) :
    Calls Tryz.prog r.resF #[r.raw, .iface a.ty a.raw] w fun e w' => e = .returned (.iface (resA r a).ty (resA r a).raw) ∧ w' = w := by
  obtain ⟨_, _, _, h3, h4⟩ := resA_le hA hr ha hr0 ha0 hne
  rw [← Actn.val_iface, ← Actn.val_iface]
  cases r with
  | err => exact absurd rfl hr0
  | acc => exact absurd rfl h3
  | sh m => cases a with
    | err => exact absurd rfl ha0
    | acc => exact absurd rfl h4
    | sh n => exact absurd (by rw [hA.sh m n hr ha]) hne
    | red n => exact ResSh_red m n w
  | red m => cases a with
    | err => exact absurd rfl ha0
    | acc => exact absurd rfl h4
    | sh n => exact ResRed_sh m n w
    | red n => exact ResRed_red m n w
/-- What the map of conflicts holds. -/
structure CfM (f : Str → Option Value) (b : Bool) : Prop where
  no : b = false → ∀ t, f t = none
  yes : b = true → ∃ t, (f t).isSome = true
  val : ∀ t v, f t = some v → ∃ x : Actn, v = .iface x.ty x.raw ∧ x.sml
theorem CfM.put {f : Str → Option Value} {b : Bool} (h : CfM f b) {t : Str} {x : Actn} (hx : x.sml) : CfM (putF f t (.iface x.ty x.raw)) true := by
  refine ⟨(by intro h; cases h), fun _ => ⟨t, by simp [putF]⟩, fun u v hv => ?_⟩
  unfold putF at hv
  split at hv
  · injection hv with hv; exact ⟨x, hv.symm, hx⟩
  · exact h.val u v hv
theorem actF_sml {g : Gram} {s : Str} {n : Nat} {l : List Itm} (hn : n ≤ 1000000) (hl : ∀ i ∈ l, idxI i.prod ≤ 1000000) : ∀ x ∈ actsI g s n l, x.sml := by
  intro x hx
  obtain ⟨i, hi, rfl⟩ := List.mem_map.1 hx
  unfold actI actC
  split
  · trivial
  · split
    · exact hl i hi
    · split
      · exact hn
      · trivial
theorem resA_sml {r a : Actn} (hr : r.sml) (ha : a.sml) : (resA r a).sml := by
  cases r with
  | err => exact ha
  | acc => trivial
  | sh m => exact hr
  | red m => cases a with
    | err => exact hr
    | acc => exact hr
    | sh n => exact ha
    | red n => show Actn.sml (if m < n then .red m else .red n); split; exact hr; exact ha
theorem stepA_sml {st : Actn × Bool} {a : Actn} (hs : st.1.sml) (ha : a.sml) : (stepA st a).1.sml := by
  unfold stepA
  split
  · exact hs
  · split
    · exact ha
    · split
      · exact hs
      · exact resA_sml hs ha
theorem txt_le {x : Actn} (h : x.sml) : x.txt.length ≤ 100 := by
  cases x with
  | err => decide
  | acc => decide
  | red n => have := itoa_le h; simp [Actn.txt]; omega
  | sh n => have := itoa_le h; simp [Actn.txt]; omega
end Go.Proofs.YtdejcdmgcckmoaaGreatDoor
namespace Go.Proofs.YtdejcdmgcckmoaaGreatDoor
open Go.RowKit Go.Sort Lr

theorem cfm0 : CfM (fun _ => none) false := ⟨fun _ _ => rfl, (fun h => by cases h), (fun t v h => by cases h)⟩
set_option maxRecDepth 20000 in
set_option maxHeartbeats 4000000 in
theorem Action_any {g : Gram} {w0 w : World} {B p m1 m2 : Nat} {no : Int} {v e1 e2 e3 : Value} {L : List (Nat × Itm)} {n1 : Nat} (h : ISt g w0 w B p m1 m2 no v L n1 e1 e2 e3)
    {nt : Nat} {ft : Str → Option Value} (ht : MapF Tryz.prog 9 w m2 nt ft) {s : Str} {n : Nat} (hft : (ft s).getD (.int .i64 0) = .int .i64 (n : Int)) (hs : s ≠ invalidS) (hsl : s.length ≤ 1000000)
    (hA : MeetA (actsI g s n (L.map (·.2)))) (hsm : ∀ x ∈ actsI g s n (L.map (·.2)), x.sml) (hl : L.length ≤ 100000) (htab : TabW w) :
    Calls Tryz.prog 79 #[.pointer (some ⟨p, 0, none⟩), sv s] w fun e w' => ∃ (cv : Value) (l : List Actn), e = .returned (.tuple #[(foldA (actsI g s n (L.map (·.2)))).1.val, cv]) ∧ w'.ownsRow w.heap.size 119 1 cv l.length (l.map Actn.val) ∧ (l ≠ [] ↔ (foldA (actsI g s n (L.map (·.2)))).2 = true) ∧ (∀ x ∈ l, x.sml) ∧ l.length ≤ 2 * L.length ∧ New w w' := by
  have c2 : w.cell? ⟨p, 2, none⟩ = some v := (cell_of_blk h.blk 2).trans rfl
  have c3 : w.cell? ⟨p, 3, none⟩ = some (.map (some m2)) := (cell_of_blk h.blk 3).trans rfl
  obtain ⟨a, c, rfl⟩ := owns_slice h.row
  obtain ⟨A, hAe⟩ : ∃ A, A = actsI g s n (L.map (·.2)) := ⟨_, rfl⟩
  rw [← hAe] at hA hsm ⊢
  have hAl : L.length = A.length := by rw [hAe]; simp [actsI]
  have hmm := @run_makeMap Tryz.prog
  have HH := Lib.hid (And.intro h (And.intro ht (And.intro hft (And.intro hA (And.intro hsm (And.intro htab (And.intro hAe (And.intro hAl hs))))))))
  rw [hAl] at c2 hl
  clear h ht hft hA hsm htab hAe hAl hs
  have hm1 : MapF Tryz.prog 9 (w.alloc (.map #[] 0)) w.heap.size 0 (fun _ => none) := MapF.made w
  have hn1 : New w (w.alloc (.map #[] 0)) := (New.refl w).alloc _
  have H1 := Lib.hid (And.intro hm1 hn1)
  have c2 := hn1.cell c2
  clear hm1 hn1
  go_enter Tryz.func79, Tryz.ntmps79
  go_wp2
  go_loopg [4, 19] A.length (fun gk u4 u19 wr => ∃ (k : Nat) (st : Actn × Bool) (f : Str → Option Value) (nm : Nat), k ≤ A.length ∧ gk = A.length - k ∧ u19 = .int .i64 k ∧ u4 = .iface st.1.ty st.1.raw ∧ Hid (st = foldA (A.take k)) ∧ st.1.sml ∧ Hid (MapF Tryz.prog 9 wr w.heap.size nm f) ∧ nm ≤ 2 * k ∧ Hid (CfM f st.2) ∧ w.heap.size < wr.heap.size ∧ Hid (New w wr))
  case atStart => exact ⟨0, (.err, false), _, 0, Nat.zero_le _, rfl, rfl, rfl, Lib.hid rfl, trivial, Lib.hid H1.out.1, Nat.le_refl _, Lib.hid cfm0, by simp, Lib.hid H1.out.2⟩
  case round =>
    obtain ⟨k, st, f, nm, hk, rfl, rfl, rfl, hst, hss, hmp, hnm, hcf, hwl, hn⟩ := hrel
    by_cases hlt : k < A.length
    · have hltL : k < L.length := by rw [HH.out.2.2.2.2.2.2.2.1]; exact hlt
      obtain ⟨gb, cb, e, hgb, hgB, hcell⟩ := row_ptr HH.out.1.row (by omega)
      cases e
      have hrow := hn.out.cell (hcell k (.pointer (some ⟨L[k].1, 0, none⟩)) (by simp [hltL]))
      have hit := ((HH.out.1.its _ (List.getElem_mem hltL)).itc).new hn.out
      have hAk : A[k] = actI g s n L[k].2 := by simp [HH.out.2.2.2.2.2.2.1, actsI]
      have hak := action_any hit s HH.out.2.2.2.2.2.2.2.2 n
      have c3 := hn.out.cell c3
      have ht2 := HH.out.2.1.new hn.out
      have hsa := HH.out.2.2.2.2.1 _ (List.getElem_mem hlt)
      have hmet := foldA_met HH.out.2.2.2.1 (k := k) (by omega)
      rw [← hst.out] at hmet
      have hstep := foldA_take hlt
      rw [← hst.out] at hstep
      change Calls _ _ _ _ fun e w' => e = .returned (actI g s n L[k].2).val ∧ _ at hak
      rw [← hAk, Actn.val_iface] at hak
      have hak : Calls Tryz.prog 120 _ wr fun e w' => e = .returned (.iface A[k].ty A[k].raw) ∧ New wr w' := hak.mono fun e w' ⟨he, q, hq⟩ => ⟨he, by rw [hq]; exact (New.refl wr).drewN q⟩
      have haA : A[k] ∈ A := List.getElem_mem hlt
      have hrA : st.1 ≠ .err → st.1 ∈ A := fun h => List.mem_of_mem_take (hmet.mem h)
      have hL1 := HH.out.2.2.1
      generalize A[k] = x at *
      generalize L[k].1 = ib at *
      have HT := Lib.hid (And.intro hak (And.intro ht2 (And.intro hstep (And.intro haA (And.intro hrA (And.intro (HH.out.2.2.2.2.2.1.new hn.out) hL1))))))
      clear hak ht2 hstep haA hrA hmet hcell hAk hit hltL hL1 hst
      have hM := Lib.hid (And.intro hn.out hmp.out)
      clear hn hmp
      obtain ⟨r, cf⟩ := st
      simp only at hss hcf HT ⊢
      have hme := met_eq x
      have hee := ent_eq x
      by_cases h1 : x = .err
      · have HX := Lib.hid h1
        have hst2 : stepA (r, cf) x = (r, cf) := by unfold stepA; rw [if_pos h1]
        clear h1
        go_wp2_with (first | (at_lookup; refine wpList_look _ rfl _ _ 91 3 rfl Tryz.underlying9 Tryz.underlying91 (z3 _) m2 nt ft rfl HT.out.2.1 s rfl (by omega) ?_; rw [HT.out.2.2.2.2.2.2]) | (go_at_call 120; refine HT.out.1.mono ?_; rintro e wq ⟨rfl, hq⟩; have hwq : w.heap.size < wq.heap.size := Nat.lt_of_lt_of_le hwl hq.size; have HQ := Lib.hid hq; clear hq c3 hrow) | (go_at_fn (Actn.eqF x); refine (Eq_yes (y := .err) HX.out _).mono ?_; rintro e w' ⟨rfl, rfl⟩))
        go_roundg (A.length - (k + 1))
        case measure => omega
        case rel => exact ⟨k + 1, (r, cf), f, nm, by omega, rfl, by go_num, rfl, Lib.hid (by rw [HT.out.2.2.1]; exact hst2.symm), hss, Lib.hid (hM.out.2.new HQ.out), by omega, hcf, hwq, Lib.hid (hM.out.1.trans HQ.out)⟩
      · have HX := Lib.hid h1
        clear h1
        have hmr := met_eq r
        have her := ent_eq r
        by_cases h2 : r = .err
        · have HR := Lib.hid h2
          have hst2 : stepA (r, cf) x = (x, cf) := by unfold stepA; rw [if_neg HX.out, if_pos h2]
          clear h2
          go_wp2_with (first | (at_lookup; refine wpList_look _ rfl _ _ 91 3 rfl Tryz.underlying9 Tryz.underlying91 (z3 _) m2 nt ft rfl HT.out.2.1 s rfl (by omega) ?_; rw [HT.out.2.2.2.2.2.2]) | (go_at_call 120; refine HT.out.1.mono ?_; rintro e wq ⟨rfl, hq⟩; have hwq : w.heap.size < wq.heap.size := Nat.lt_of_lt_of_le hwl hq.size; have HQ := Lib.hid hq; clear hq c3 hrow) | (go_at_fn (Actn.eqF x); refine (Eq_no (y := .err) HX.out _).mono ?_; rintro e w' ⟨rfl, rfl⟩) | (go_at_fn (Actn.eqF r); refine (Eq_yes (y := .err) HR.out _).mono ?_; rintro e w' ⟨rfl, rfl⟩))
          go_roundg (A.length - (k + 1))
          case measure => omega
          case rel => exact ⟨k + 1, (x, cf), f, nm, by omega, rfl, by go_num, rfl, Lib.hid (by rw [HT.out.2.2.1]; exact hst2.symm), hsa, Lib.hid (hM.out.2.new HQ.out), by omega, hcf, hwq, Lib.hid (hM.out.1.trans HQ.out)⟩
        · have HR := Lib.hid h2
          clear h2
          by_cases h3 : r = x
          · have HE := Lib.hid h3
            have hst2 : stepA (r, cf) x = (r, cf) := by unfold stepA; rw [if_neg HX.out, if_neg HR.out, if_pos h3]
            clear h3
            go_wp2_with (first | (at_lookup; refine wpList_look _ rfl _ _ 91 3 rfl Tryz.underlying9 Tryz.underlying91 (z3 _) m2 nt ft rfl HT.out.2.1 s rfl (by omega) ?_; rw [HT.out.2.2.2.2.2.2]) | (go_at_call 120; refine HT.out.1.mono ?_; rintro e wq ⟨rfl, hq⟩; have hwq : w.heap.size < wq.heap.size := Nat.lt_of_lt_of_le hwl hq.size; have HQ := Lib.hid hq; clear hq c3 hrow) | (go_at_fn (Actn.eqF x); refine (Eq_no (y := .err) HX.out _).mono ?_; rintro e w' ⟨rfl, rfl⟩) | (go_at_fn (Actn.eqF r); first | (refine (Eq_no (y := .err) HR.out _).mono ?_; rintro e w' ⟨rfl, rfl⟩) | (refine (Eq_yes (y := x) HE.out _).mono ?_; rintro e w' ⟨rfl, rfl⟩)))
            go_roundg (A.length - (k + 1))
            case measure => omega
            case rel => exact ⟨k + 1, (r, cf), f, nm, by omega, rfl, by go_num, rfl, Lib.hid (by rw [HT.out.2.2.1]; exact hst2.symm), hss, Lib.hid (hM.out.2.new HQ.out), by omega, hcf, hwq, Lib.hid (hM.out.1.trans HQ.out)⟩
          · have HE := Lib.hid h3
            have hst2 : stepA (r, cf) x = (resA r x, true) := by unfold stepA; rw [if_neg HX.out, if_neg HR.out, if_neg h3]
            clear h3
            have hsr := met_str r
            have esr := ent_str r
            have hsx := met_str x
            have esx := ent_str x
            have hrr := met_res r
            have err := ent_res r
            have hlr := txt_le hss
            have hlx := txt_le hsa
            go_wp2_with (first | (at_lookup; refine wpList_look _ rfl _ _ 91 3 rfl Tryz.underlying9 Tryz.underlying91 (z3 _) m2 nt ft rfl HT.out.2.1 s rfl (by omega) ?_; rw [HT.out.2.2.2.2.2.2]) | (go_at_call 120; refine HT.out.1.mono ?_; rintro e wq ⟨rfl, hq⟩; have hwq : w.heap.size < wq.heap.size := Nat.lt_of_lt_of_le hwl hq.size; have HQ := Lib.hid hq; clear hq c3 hrow) | (go_at_fn (Actn.eqF x); refine (Eq_no (y := .err) HX.out _).mono ?_; rintro e w' ⟨rfl, rfl⟩) | (go_at_fn (Actn.eqF r); first | (refine (Eq_no (y := .err) HR.out _).mono ?_; rintro e w' ⟨rfl, rfl⟩) | (refine (Eq_no (y := x) HE.out _).mono ?_; rintro e w' ⟨rfl, rfl⟩)) | (go_at_fn (Actn.strF r); refine (Str_act r hss _ (HT.out.2.2.2.2.2.1.new HQ.out)).mono ?_; rintro e w4 ⟨rfl, h4⟩) | (at_mapUpdate; go_must (refine wpList_mstore _ rfl _ _ _ _ _ rfl Tryz.underlying9 Tryz.underlying174 w.heap.size nm f rfl (hM.out.2.new (HQ.out.trans h4)) (by omega) r.txt rfl (by omega) _ rfl ?_)))
            intro w5 hm5 hg5
            have hn5 : New w w5 := Below.grown ((hM.out.1.trans HQ.out).trans h4) hg5 (((hM.out.1.trans HQ.out).trans h4).size) (fun k hk => by injection hk with hk; omega)
            have H5 := Lib.hid (And.intro hm5 hn5)
            clear hm5 hg5 hn5
            go_wp2_with (first | (go_at_fn (Actn.strF x); refine (Str_act x hsa _ (HH.out.2.2.2.2.2.1.new H5.out.2)).mono ?_; rintro e w6 ⟨rfl, h6⟩) | (at_mapUpdate; go_must (refine wpList_mstore _ rfl _ _ _ _ _ rfl Tryz.underlying9 Tryz.underlying174 w.heap.size (nm + 1) _ rfl (H5.out.1.new h6) (by omega) x.txt rfl (by omega) _ rfl ?_)))
            intro w7 hm7 hg7
            have hn7 : New w w7 := Below.grown (H5.out.2.trans h6) hg7 (H5.out.2.trans h6).size (fun k hk => by injection hk with hk; omega)
            have H7 := Lib.hid (And.intro hm7 hn7)
            have hw7 : w.heap.size < w7.heap.size := by have := hg7.size; have := h6.size; have := H5.out.1.lt; omega
            clear hm7 hg7 hn7 h6
            go_wp2_with (go_at_fn (Actn.resF r); refine (Res_any HH.out.2.2.2.1 (HT.out.2.2.2.2.1 HR.out) HT.out.2.2.2.1 HR.out HX.out HE.out _).mono ?_; rintro e w' ⟨rfl, rfl⟩)
            go_roundg (A.length - (k + 1))
            case measure => omega
            case rel => exact ⟨k + 1, (resA r x, true), _, nm + 2, by omega, rfl, by go_num, rfl, Lib.hid (by rw [HT.out.2.2.1]; exact hst2.symm), resA_sml hss hsa, Lib.hid H7.out.1, by omega, Lib.hid ((hcf.out.put hss).put hsa), hw7, Lib.hid H7.out.2⟩
    · have e : A.take k = A := List.take_of_length_le (by omega)
      rw [e] at hst
      have hrest := hst.out
      have HST := Lib.hid hrest
      clear hrest hst
      obtain ⟨r, cf⟩ := st
      simp only at hss hcf HST ⊢
      have hml := hmp.out.lt
      have hnmb : nm ≤ 2 * A.length := by omega
      go_wp2_with (first | (at_range; refine wpList_vrange _ rfl _ 174 119 rfl Tryz.underlying9 Tryz.underlying174 (.map (some w.heap.size)) nm f rfl (.inr ⟨w.heap.size, rfl, hmp.out⟩) ?_; intro w5 cnt0 hrg0 hg0))
      have hsz5 : wr.heap.size < w5.heap.size := hrg0.lt
      have hn5 : New w w5 := hn.out.trans ⟨hg0.os, hg0.tape, hg0.output, hg0.size, fun k hk => hg0.block k hk (by simp)⟩
      have H5 := Lib.hid hn5
      clear hn5 hg0 hmp hn
      generalize hr0 : wr.heap.size = r0 at *
      go_frame
      go_loopg [5] nm (fun gj u5 wr => ∃ (cnt : Nat) (K : Str → Bool) (l : List Actn), RangeV Tryz.prog 9 wr (.map (some w.heap.size)) r0 nm f K cnt ∧ cnt ≤ gj ∧ wr.ownsRow w.heap.size 119 1 u5 l.length (l.map Actn.val) ∧ Hid (u5.ownBlock ≠ some r0 ∧ u5.ownBlock ≠ some w.heap.size) ∧ l.length + cnt ≤ nm ∧ Hid ((l = [] → ∀ t, (f t).isSome = true → K t = true) ∧ (l ≠ [] → ∃ t, (f t).isSome = true) ∧ ∀ x ∈ l, x.sml) ∧ New w wr)
      case atStart => exact ⟨cnt0, _, [], hrg0, hrg0.cnt_le, World.ownsRow_nil _ _ _ _, Lib.hid ⟨by simp [Value.ownBlock], by simp [Value.ownBlock]⟩, by simpa using hrg0.cnt_le, Lib.hid ⟨fun _ _ h => h, fun h => absurd rfl h, fun _ h => by cases h⟩, H5.out⟩
      case round =>
        clear hrg0
        obtain ⟨cnt, K, l, hrg, hc, hown, hne, hll, hM, hn⟩ := hrel
        go_wp2_with (first | (at_next; refine wpList_vnext _ rfl _ rfl Tryz.underlying9 (.map (some w.heap.size)) r0 nm f K cnt rfl hrg ?_ ?_))
        · intro hl
          have hcl : l ≠ [] ↔ cf = true := by
            constructor
            · intro h
              obtain ⟨t, ht⟩ := hM.out.2.1 h
              cases cf with
              | true => rfl
              | false => rw [hcf.out.no rfl t] at ht; cases ht
            · intro h h0
              obtain ⟨t, ht⟩ := hcf.out.yes h
              have := hM.out.1 h0 t ht
              rw [hl t] at this; cases this
          have HC := Lib.hid hcl
          have HO := Lib.hid hown
          clear hcl hl hown
          obtain ⟨a5, c5, rfl⟩ := owns_slice HO.out
          go_wp2_with fail
          go_ret2
          refine ⟨.slice a5 l.length c5, l, (by rw [← HST.out]; show _ = Ending.returned (.tuple #[r.val, _]); rw [Actn.val_iface]; rfl), HO.out, by rw [← HST.out]; exact HC.out, hM.out.2.2, by rw [HH.out.2.2.2.2.2.2.2.1]; omega, hn⟩
        · intro t u w6 cnt6 htl hKt hft hrg6 hlt6 hg6 hsz6 hent
          obtain ⟨x, rfl, hx⟩ := hcf.out.val t u hft
          have hown6 := World.ownsRow.kept hown hg6 (.inr hne.out.1)
          have hn6 : New w w6 := Below.grown hn hg6 hn.size (fun k hk => by injection hk with hk; omega)
          have hr6 := hrg6.lt
          have hK2 : (l ++ [x] = [] → ∀ t', (f t').isSome = true → (K t' && !decide (t' = t)) = true) ∧ (l ++ [x] ≠ [] → ∃ t, (f t).isSome = true) ∧ ∀ y ∈ l ++ [x], y.sml :=
            ⟨fun h => by simp at h, fun _ => ⟨t, by rw [hft]; rfl⟩, fun y hy => by rcases List.mem_append.1 hy with h | h; exact hM.out.2.2 y h; simp at h; rw [h]; exact hx⟩
          have HK := Lib.hid hK2
          have H6 := Lib.hid (And.intro hown6 hn6)
          clear hft hKt hown hg6 hrg hn hK2 hsz6 hn6 hM
          go_wp2_with (first | (at_builtin; go_must (refine wpList_push _ rfl _ _ _ _ rfl T120 w.heap.size _ _ _ rfl H6.out.1 [.iface x.ty x.raw] rfl rfl _ _ rfl (by simp) (by omega) (by omega) H6.out.2.size ?_)))
          intro v' w8 hown8 hgrow hne8 hat
          have hown6 := H6.out.1
          have hn8 : New w w8 := Below.push H6.out.2 hown6 hgrow H6.out.2.size
          have hml6 : w.heap.size < w6.heap.size := by rcases hrg6 with ⟨h, _⟩ | ⟨b, h, h2⟩; cases h; injection h with h; injection h with h; rw [h]; exact h2.map.lt
          have hrg8 : RangeV Tryz.prog 9 w8 (.map (some w.heap.size)) r0 nm f (fun t' => K t' && !decide (t' = t)) cnt6 :=
            hrg6.same (hgrow.block _ (by omega) (fun e => hne.out.1 e.symm)) (fun b e => by injection e with e; injection e with e; subst e; exact hgrow.block _ hml6 (fun e2 => hne.out.2 e2.symm))
          have hnev : v'.ownBlock ≠ some r0 ∧ v'.ownBlock ≠ some w.heap.size := by
            rcases hat with e | ⟨b, e, hb⟩
            · rw [e]; exact hne.out
            · rw [e]; exact ⟨by intro e2; injection e2 with e2; omega, by intro e2; injection e2 with e2; omega⟩
          have hown9 : w8.ownsRow w.heap.size 119 1 v' (l ++ [x]).length ((l ++ [x]).map Actn.val) := by
            rw [List.length_append, List.map_append, List.map_singleton, Actn.val_iface]; exact hown8
          have HX := Lib.hid (And.intro hn8 (And.intro hrg8 (And.intro hnev hown9)))
          obtain ⟨a10, c10, rfl⟩ := owns_slice hown8
          clear hn8 hrg8 hgrow hne8 hat hown8 hown6 hnev hown9
          go_wp2
          go_roundg cnt6
          case measure => omega
          case rel => exact ⟨cnt6, _, _, HX.out.2.1, Nat.le_refl _, HX.out.2.2.2, Lib.hid HX.out.2.2.1, by simp; omega, HK, HX.out.1⟩
end Go.Proofs.YtdejcdmgcckmoaaGreatDoor
namespace Go.Proofs.YtdejcdmgcckmoaaGreatDoor
open Go.RowKit Go.Sort Lr

theorem actI_sh {g : Gram} {s : Str} {n m : Nat} {i : Itm} (h : actI g s n i = .sh m) : m = n := by
  unfold actI actC at h
  split at h
  · cases h
  · split at h
    · cases h
    · split at h
      · injection h with h; exact h.symm
      · cases h
/-- Where the package does not stop, the actions of a state may meet. -/
theorem meet_of {g : Gram} {l : List Itm} (hb : ∀ i ∈ l, ∀ x ∈ Lr.body g i.prod, x ≠ eofS) (hd : ∀ i ∈ l, i.dot ≤ (Lr.body g i.prod).length) (hst : (stopA g l && decide (0 < stopO g l)) = false) (s : Str) (n : Nat) : MeetA (actsI g s n l) := by
  refine ⟨fun a b ha hb => ?_, fun ha x hx hx0 => ?_⟩
  · obtain ⟨i, _, hi⟩ := List.mem_map.1 ha
    obtain ⟨j, _, hj⟩ := List.mem_map.1 hb
    rw [actI_sh hi, actI_sh hj]
  · obtain ⟨i, hi, hie⟩ := List.mem_map.1 ha
    obtain ⟨j, hj, rfl⟩ := List.mem_map.1 hx
    have h1 : idxI i.prod = 0 ∧ (Lr.body g i.prod).length ≤ i.dot ∧ untold i.look = eofS ∧ s = eofS := by
      unfold actI actC at hie
      split at hie
      · assumption
      · split at hie
        · cases hie
        · split at hie <;> cases hie
    obtain ⟨h0, h2, h3, rfl⟩ := h1
    have hA : stopA g l = true := by
      unfold stopA atEndB
      rw [List.any_eq_true]
      exact ⟨i, hi, by simp [h0, h3, Nat.le_antisymm (hd i hi) h2]⟩
    rw [hA] at hst
    have hO : stopO g l = 0 := by
      have : ¬ 0 < stopO g l := by simpa using hst
      omega
    unfold stopO at hO
    rw [List.countP_eq_zero] at hO
    have hj0 := hO j hj
    unfold actI actC at hx0 ⊢
    by_cases c1 : (Lr.body g j.prod).length ≤ j.dot ∧ untold j.look = eofS
    · have : idxI j.prod = 0 := by
        apply Classical.byContradiction
        intro hne
        apply hj0
        simp [atEndB, hne, c1.2, Nat.le_antisymm (hd j hj) c1.1]
      rw [if_pos ⟨this, c1.1, c1.2, rfl⟩]
    · rw [if_neg (fun h => c1 ⟨h.2.1, h.2.2.1⟩), if_neg c1] at hx0 ⊢
      by_cases c2 : eofS = (Lr.body g j.prod).getD j.dot []
      · exfalso
        by_cases c3 : j.dot < (Lr.body g j.prod).length
        · rw [List.getD, List.getElem?_eq_getElem c3] at c2
          exact hb j hj _ (List.getElem_mem c3) c2.symm
        · rw [List.getD, List.getElem?_eq_none (by omega)] at c2
          exact absurd c2 (by decide)
      · rw [if_neg c2] at hx0; exact absurd rfl hx0
end Go.Proofs.YtdejcdmgcckmoaaGreatDoor
