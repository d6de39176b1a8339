/- The package: actions, what an item says, which action stands. -/
import Derived.Test.YtdejcdmgcckmoaaGreatDoorYG
import Derived.Test.YtdejcdmgcckmoaaGreatDoorYU
import Derived.Test.YtdejcdmgcckmoaaGreatDoorYW
namespace Go.Proofs.YtdejcdmgcckmoaaGreatDoor
open Go.RowKit Go.Sort Lr

/-- An action of the package. -/
inductive Actn where
  | err
  | acc
  | red (n : Nat)
  | sh (n : Nat)
  deriving DecidableEq
def Actn.val : Actn → Value
  | .err => .iface 175 (.bool true)
  | .acc => .iface 182 (.bool true)
  | .red n => .iface 181 (.int .i64 (n : Int))
  | .sh n => .iface 180 (.int .i64 (n : Int))
/-- An action as data: its kind, and where it goes, or by what it reduces. -/
def Actn.kd : Actn → Int × Int
  | .err => (0, 0)
  | .acc => (3, 0)
  | .red n => (2, (n : Int) - 1)
  | .sh n => (1, (n : Int))
theorem taS_sh (n : Int) (w : World) : (Instr.typeAssert (.iface 180 (.int .i64 n)) 119 180 true).run Tryz.prog w = .ok (.tuple #[.int .i64 n, .bool true]) w := by kernel_rfl
theorem taS_red (n : Int) (w : World) : (Instr.typeAssert (.iface 181 (.int .i64 n)) 119 180 true).run Tryz.prog w = .ok (.tuple #[.int .i64 0, .bool false]) w := by kernel_rfl
theorem taS_acc (w : World) : (Instr.typeAssert (.iface 182 (.bool true)) 119 180 true).run Tryz.prog w = .ok (.tuple #[.int .i64 0, .bool false]) w := by kernel_rfl
theorem taS_err (w : World) : (Instr.typeAssert (.iface 175 (.bool true)) 119 180 true).run Tryz.prog w = .ok (.tuple #[.int .i64 0, .bool false]) w := by kernel_rfl
theorem taR_red (n : Int) (w : World) : (Instr.typeAssert (.iface 181 (.int .i64 n)) 119 181 true).run Tryz.prog w = .ok (.tuple #[.int .i64 n, .bool true]) w := by kernel_rfl
theorem taR_acc (w : World) : (Instr.typeAssert (.iface 182 (.bool true)) 119 181 true).run Tryz.prog w = .ok (.tuple #[.int .i64 0, .bool false]) w := by kernel_rfl
theorem taR_err (w : World) : (Instr.typeAssert (.iface 175 (.bool true)) 119 181 true).run Tryz.prog w = .ok (.tuple #[.int .i64 0, .bool false]) w := by kernel_rfl
theorem taA_acc (w : World) : (Instr.typeAssert (.iface 182 (.bool true)) 119 182 true).run Tryz.prog w = .ok (.tuple #[.bool true, .bool true]) w := by kernel_rfl
theorem taA_err (w : World) : (Instr.typeAssert (.iface 175 (.bool true)) 119 182 true).run Tryz.prog w = .ok (.tuple #[.bool false, .bool false]) w := by kernel_rfl
set_option maxRecDepth 20000 in
set_option maxHeartbeats 400000 in
theorem kind_any (x : Actn) (hx : ∀ n, x = .red n → n ≤ 1000000) (w : World) : Calls Tryz.prog 80 #[x.val] w fun e w' => e = .returned (.tuple #[.int .i64 x.kd.1, .int .i64 x.kd.2]) ∧ w' = w := by
  cases x with
  | err =>
    have h1 := taS_err
    have h2 := taR_err
    have h3 := taA_err
    simp only [Actn.val, Actn.kd]
    go_enter Tryz.func80, Tryz.ntmps80
    go_wp2_with fail
    go_ret2
    exact ⟨rfl, rfl⟩
  | acc =>
    have h1 := taS_acc
    have h2 := taR_acc
    have h3 := taA_acc
    simp only [Actn.val, Actn.kd]
    go_enter Tryz.func80, Tryz.ntmps80
    go_wp2_with fail
    go_ret2
    exact ⟨rfl, rfl⟩
  | red n =>
    have hn := hx n rfl
    have h1 := taS_red (n : Int)
    have h2 := taR_red (n : Int)
    have hw : IntKind.i64.wrap ((n : Int) - 1) = (n : Int) - 1 := by rw [IntKind.wrap_i64]; omega
    simp only [Actn.val, Actn.kd]
    clear hx
    go_enter Tryz.func80, Tryz.ntmps80
    go_wp2_with fail
    go_ret2
    exact ⟨rfl, rfl⟩
  | sh n =>
    have h1 := taS_sh (n : Int)
    simp only [Actn.val, Actn.kd]
    go_enter Tryz.func80, Tryz.ntmps80
    go_wp2_with fail
    go_ret2
    exact ⟨rfl, rfl⟩
end Go.Proofs.YtdejcdmgcckmoaaGreatDoor
namespace Go.Proofs.YtdejcdmgcckmoaaGreatDoor
open Go.RowKit Go.Sort Lr

/-- The cells of an item that its action looks at. -/
structure ItC (w : World) (p : Nat) (idx pos len : Nat) (ex look : Str) : Prop where
  c0 : w.cell? ⟨p, 0, none⟩ = some (.int .i64 (idx : Int))
  c4 : w.cell? ⟨p, 4, none⟩ = some (.int .i64 (pos : Int))
  c5 : w.cell? ⟨p, 5, none⟩ = some (sv ex)
  c6 : w.cell? ⟨p, 6, none⟩ = some (sv look)
  c7 : w.cell? ⟨p, 7, none⟩ = some (.int .i64 (len : Int))
theorem ItC.new {w w' : World} {p idx pos len : Nat} {ex look : Str} (h : ItC w p idx pos len ex look) (hn : New w w') : ItC w' p idx pos len ex look := ⟨hn.cell h.c0, hn.cell h.c4, hn.cell h.c5, hn.cell h.c6, hn.cell h.c7⟩
theorem ItAt.itc {g : Gram} {w0 w : World} {b : Nat} {i : Itm} (h : ItAt g w0 w b i) : ItC w b (idxI i.prod) i.dot (Lr.body g i.prod).length ((Lr.body g i.prod).getD i.dot []) (untold i.look) := by
  obtain ⟨pr, ⟨rb, arr, h1, _, _⟩, _⟩ := h
  exact ⟨(cell_of_blk h1 0).trans rfl, (cell_of_blk h1 4).trans rfl, (cell_of_blk h1 5).trans rfl, (cell_of_blk h1 6).trans rfl, (cell_of_blk h1 7).trans rfl⟩
set_option maxRecDepth 20000 in
set_option maxHeartbeats 1000000 in
theorem accept_any {w : World} {p idx pos len : Nat} {ex look : Str} (h : ItC w p idx pos len ex look) (s : Str) :
    Calls Tryz.prog 166 #[.pointer (some ⟨p, 0, none⟩), sv s] w fun e w' => e = .returned (.bool (decide (idx = 0 ∧ len ≤ pos ∧ look = eofS ∧ s = eofS))) ∧ ∃ n, w' = w.drewN n := by
  obtain ⟨c0, c4, c5, c6, c7⟩ := h
  have key : ∀ s : Str, (s == [226, 144, 154]) = decide (s = eofS) := fun s => by
    by_cases e : s = eofS
    · rw [e]; decide
    · rw [decide_eq_false e, beq_eq_false_iff_ne]; exact e
  have k1 := key look
  have k2 := key s
  clear key c5
  by_cases h1 : idx = 0
  · subst h1
    by_cases h2 : len ≤ pos
    · have h2b : decide (len ≤ pos) = true := decide_eq_true h2
      by_cases h3 : look = eofS
      · rw [decide_eq_true h3] at k1
        by_cases h4 : s = eofS
        · rw [decide_eq_true h4] at k2
          rw [show decide (0 = 0 ∧ len ≤ pos ∧ look = eofS ∧ s = eofS) = true from decide_eq_true ⟨rfl, h2, h3, h4⟩]
          clear h3 h4
          go_enter Tryz.func166, Tryz.ntmps166
          go_wp2_with fail
          go_quiet (fail)
          go_wp2
          go_ret
          exact ⟨rfl, nq, rfl⟩
        · rw [decide_eq_false h4] at k2
          rw [show decide (0 = 0 ∧ len ≤ pos ∧ look = eofS ∧ s = eofS) = false from decide_eq_false fun h => h4 h.2.2.2]
          clear h3 h4
          go_enter Tryz.func166, Tryz.ntmps166
          go_wp2_with fail
          go_quiet (fail)
          go_wp2
          go_ret
          exact ⟨rfl, nq, rfl⟩
      · rw [decide_eq_false h3] at k1
        rw [show decide (0 = 0 ∧ len ≤ pos ∧ look = eofS ∧ s = eofS) = false from decide_eq_false fun h => h3 h.2.2.1]
        clear h3 k2
        go_enter Tryz.func166, Tryz.ntmps166
        go_wp2_with fail
        go_quiet (fail)
        go_wp2
        go_ret
        exact ⟨rfl, nq, rfl⟩
    · have h2b : decide (len ≤ pos) = false := decide_eq_false h2
      rw [show decide (0 = 0 ∧ len ≤ pos ∧ look = eofS ∧ s = eofS) = false from decide_eq_false fun h => h2 h.2.1]
      clear k1 k2
      go_enter Tryz.func166, Tryz.ntmps166
      go_wp2_with fail
      go_quiet (fail)
      go_wp2
      go_ret
      exact ⟨rfl, nq, rfl⟩
  · have h1b : ((idx : Int) == 0) = false := by rw [beq_eq_false_iff_ne]; omega
    rw [show decide (idx = 0 ∧ len ≤ pos ∧ look = eofS ∧ s = eofS) = false from decide_eq_false fun h => h1 h.1]
    clear k1 k2
    go_enter Tryz.func166, Tryz.ntmps166
    go_wp2_with fail
    go_quiet (fail)
    go_wp2
    go_ret
    exact ⟨rfl, nq, rfl⟩
set_option maxRecDepth 20000 in
set_option maxHeartbeats 1000000 in
theorem reduce_any {w : World} {p idx pos len : Nat} {ex look : Str} (h : ItC w p idx pos len ex look) :
    Calls Tryz.prog 167 #[.pointer (some ⟨p, 0, none⟩)] w fun e w' => e = .returned (.bool (decide (len ≤ pos))) ∧ ∃ n, w' = w.drewN n := by
  obtain ⟨c0, c4, c5, c6, c7⟩ := h
  clear c5 c6
  by_cases h1 : len = 0
  · subst h1
    rw [show decide (0 ≤ pos) = true from decide_eq_true (Nat.zero_le _)]
    go_enter Tryz.func167, Tryz.ntmps167
    go_wp2_with fail
    go_quiet (fail)
    go_wp2
    go_ret
    exact ⟨rfl, nq, rfl⟩
  · have h1b : ((len : Int) == 0) = false := by rw [beq_eq_false_iff_ne]; omega
    by_cases h2 : len ≤ pos
    · have h2b : decide (len ≤ pos) = true := decide_eq_true h2
      rw [h2b]
      go_enter Tryz.func167, Tryz.ntmps167
      go_wp2_with fail
      go_quiet (fail)
      go_wp2
      go_ret
      exact ⟨rfl, nq, rfl⟩
    · have h2b : decide (len ≤ pos) = false := decide_eq_false h2
      rw [h2b]
      go_enter Tryz.func167, Tryz.ntmps167
      go_wp2_with fail
      go_quiet (fail)
      go_wp2
      go_ret
      exact ⟨rfl, nq, rfl⟩
end Go.Proofs.YtdejcdmgcckmoaaGreatDoor
namespace Go.Proofs.YtdejcdmgcckmoaaGreatDoor
open Go.RowKit Go.Sort Lr

/-- What an item says at a symbol. -/
def actC (idx pos len : Nat) (ex look s : Str) (n : Nat) : Actn :=
  if idx = 0 ∧ len ≤ pos ∧ look = eofS ∧ s = eofS then .acc else if len ≤ pos ∧ look = s then .red idx else if s = ex then .sh n else .err
theorem beqS (x y : Str) : (x == y) = decide (x = y) := by
  by_cases h : x = y
  · rw [decide_eq_true h, h]; simp
  · rw [decide_eq_false h, beq_eq_false_iff_ne]; exact h
theorem ItC.drew {w : World} {p idx pos len : Nat} {ex look : Str} (h : ItC w p idx pos len ex look) (q : Nat) : ItC (w.drewN q) p idx pos len ex look := h.new ((New.refl w).drewN q)
set_option maxRecDepth 20000 in
set_option maxHeartbeats 1000000 in
theorem action_any {w : World} {p idx pos len : Nat} {ex look : Str} (h : ItC w p idx pos len ex look) (s : Str) (hs : s ≠ invalidS) (n : Nat) :
    Calls Tryz.prog 120 #[.pointer (some ⟨p, 0, none⟩), sv s, .int .i64 (n : Int)] w fun e w' => e = .returned (actC idx pos len ex look s n).val ∧ ∃ q, w' = w.drewN q := by
  have HC := Lib.hid h
  have k0 : (s == [73, 78, 86, 65, 76, 73, 68]) = false := by rw [beq_eq_false_iff_ne]; exact hs
  have c0 := fun q => (h.drew q).c0
  have c5 := fun q => (h.drew q).c5
  have c6 := fun q => (h.drew q).c6
  clear h
  by_cases h1 : idx = 0 ∧ len ≤ pos ∧ look = eofS ∧ s = eofS
  · have hq := accept_any HC.out s
    rw [decide_eq_true h1] at hq
    have HQ := Lib.hid hq
    rw [show actC idx pos len ex look s n = .acc from if_pos h1]
    clear hq h1 c0 c5 c6
    simp only [Actn.val]
    go_enter Tryz.func120, Tryz.ntmps120
    go_wp2_with (go_at_call 166; refine HQ.out.mono ?_; rintro e w' ⟨rfl, q, rfl⟩)
    go_ret
    exact ⟨rfl, q, rfl⟩
  · have hq := accept_any HC.out s
    rw [decide_eq_false h1] at hq
    have HQ := Lib.hid hq
    by_cases h2 : len ≤ pos
    · have hq2 := fun q => reduce_any (HC.out.drew q)
      simp only [decide_eq_true h2] at hq2
      have HQ2 := Lib.hid hq2
      by_cases h3 : look = s
      · rw [show actC idx pos len ex look s n = .red idx by unfold actC; rw [if_neg h1, if_pos ⟨h2, h3⟩]]
        have k3 : (look == s) = true := by rw [beqS]; exact decide_eq_true h3
        clear hq hq2 h1 h3 c5
        simp only [Actn.val]
        go_enter Tryz.func120, Tryz.ntmps120
        go_wp2_with (first | (go_at_call 166; refine HQ.out.mono ?_; rintro e w' ⟨rfl, q, rfl⟩; have c6 := c6 q) | (go_at_call 167; refine (HQ2.out q).mono ?_; rintro e w' ⟨rfl, q2, rfl⟩; have c6 := ((New.refl (w.drewN q)).drewN q2).cell c6; have c0 := ((New.refl (w.drewN q)).drewN q2).cell (c0 q)))
        go_ret
        exact ⟨rfl, q + q2, rfl⟩
      · have k3 : (look == s) = false := by rw [beqS]; exact decide_eq_false h3
        by_cases h4 : s = ex
        · rw [show actC idx pos len ex look s n = .sh n by unfold actC; rw [if_neg h1, if_neg (fun h => h3 h.2), if_pos h4]]
          have k4 : (s == ex) = true := by rw [beqS]; exact decide_eq_true h4
          clear hq hq2 h1 h3 h4 c0
          simp only [Actn.val]
          go_enter Tryz.func120, Tryz.ntmps120
          go_wp2_with (first | (go_at_call 166; refine HQ.out.mono ?_; rintro e w' ⟨rfl, q, rfl⟩; have c6 := c6 q) | (go_at_call 167; refine (HQ2.out q).mono ?_; rintro e w' ⟨rfl, q2, rfl⟩; have c6 := ((New.refl (w.drewN q)).drewN q2).cell c6; have c5 := ((New.refl (w.drewN q)).drewN q2).cell (c5 q)))
          go_ret
          exact ⟨rfl, q + q2, rfl⟩
        · rw [show actC idx pos len ex look s n = .err by unfold actC; rw [if_neg h1, if_neg (fun h => h3 h.2), if_neg h4]]
          have k4 : (s == ex) = false := by rw [beqS]; exact decide_eq_false h4
          clear hq hq2 h1 h3 h4 c0
          simp only [Actn.val]
          go_enter Tryz.func120, Tryz.ntmps120
          go_wp2_with (first | (go_at_call 166; refine HQ.out.mono ?_; rintro e w' ⟨rfl, q, rfl⟩; have c6 := c6 q) | (go_at_call 167; refine (HQ2.out q).mono ?_; rintro e w' ⟨rfl, q2, rfl⟩; have c6 := ((New.refl (w.drewN q)).drewN q2).cell c6; have c5 := ((New.refl (w.drewN q)).drewN q2).cell (c5 q)))
          go_ret
          exact ⟨rfl, q + q2, rfl⟩
    · have hq2 := fun q => reduce_any (HC.out.drew q)
      simp only [decide_eq_false h2] at hq2
      have HQ2 := Lib.hid hq2
      by_cases h4 : s = ex
      · rw [show actC idx pos len ex look s n = .sh n by unfold actC; rw [if_neg h1, if_neg (fun h => h2 h.1), if_pos h4]]
        have k4 : (s == ex) = true := by rw [beqS]; exact decide_eq_true h4
        clear hq hq2 h1 h4 c0 c6
        simp only [Actn.val]
        go_enter Tryz.func120, Tryz.ntmps120
        go_wp2_with (first | (go_at_call 166; refine HQ.out.mono ?_; rintro e w' ⟨rfl, q, rfl⟩) | (go_at_call 167; refine (HQ2.out q).mono ?_; rintro e w' ⟨rfl, q2, rfl⟩; have c5 := ((New.refl (w.drewN q)).drewN q2).cell (c5 q)))
        go_ret
        exact ⟨rfl, q + q2, rfl⟩
      · rw [show actC idx pos len ex look s n = .err by unfold actC; rw [if_neg h1, if_neg (fun h => h2 h.1), if_neg h4]]
        have k4 : (s == ex) = false := by rw [beqS]; exact decide_eq_false h4
        clear hq hq2 h1 h4 c0 c6
        simp only [Actn.val]
        go_enter Tryz.func120, Tryz.ntmps120
        go_wp2_with (first | (go_at_call 166; refine HQ.out.mono ?_; rintro e w' ⟨rfl, q, rfl⟩) | (go_at_call 167; refine (HQ2.out q).mono ?_; rintro e w' ⟨rfl, q2, rfl⟩; have c5 := ((New.refl (w.drewN q)).drewN q2).cell (c5 q)))
        go_ret
        exact ⟨rfl, q + q2, rfl⟩
end Go.Proofs.YtdejcdmgcckmoaaGreatDoor
namespace Go.Proofs.YtdejcdmgcckmoaaGreatDoor
open Go.RowKit Go.Sort Lr

/-- The value inside an action, and the functions that its methods are. -/
def Actn.raw : Actn → Value
  | .err => .bool true
  | .acc => .bool true
  | .red n => .int .i64 (n : Int)
  | .sh n => .int .i64 (n : Int)
theorem taE_sh (n : Int) (w : World) : (Instr.typeAssert (.iface 180 (.int .i64 n)) 119 175 true).run Tryz.prog w = .ok (.tuple #[.bool false, .bool false]) w := by kernel_rfl
theorem taE_red (n : Int) (w : World) : (Instr.typeAssert (.iface 181 (.int .i64 n)) 119 175 true).run Tryz.prog w = .ok (.tuple #[.bool false, .bool false]) w := by kernel_rfl
theorem taE_acc (w : World) : (Instr.typeAssert (.iface 182 (.bool true)) 119 175 true).run Tryz.prog w = .ok (.tuple #[.bool false, .bool false]) w := by kernel_rfl
theorem taE_err (w : World) : (Instr.typeAssert (.iface 175 (.bool true)) 119 175 true).run Tryz.prog w = .ok (.tuple #[.bool true, .bool true]) w := by kernel_rfl
theorem taA_sh (n : Int) (w : World) : (Instr.typeAssert (.iface 180 (.int .i64 n)) 119 182 true).run Tryz.prog w = .ok (.tuple #[.bool false, .bool false]) w := by kernel_rfl
theorem taA_red (n : Int) (w : World) : (Instr.typeAssert (.iface 181 (.int .i64 n)) 119 182 true).run Tryz.prog w = .ok (.tuple #[.bool false, .bool false]) w := by kernel_rfl
theorem taR_sh (n : Int) (w : World) : (Instr.typeAssert (.iface 180 (.int .i64 n)) 119 181 true).run Tryz.prog w = .ok (.tuple #[.int .i64 0, .bool false]) w := by kernel_rfl

/-- Each method `Equal`. -/
theorem EqErr_any (y : Actn) (w : World) : Calls Tryz.prog 313 #[.bool true, y.val] w fun e w' => e = .returned (.bool (decide (Actn.err = y))) ∧ w' = w := by
  cases y with
  | err => have h := taE_err; simp only [Actn.val]; go_enter Tryz.func313, Tryz.ntmps313; go_wp2; go_ret; exact ⟨rfl, rfl⟩
  | acc => have h := taE_acc; simp only [Actn.val]; go_enter Tryz.func313, Tryz.ntmps313; go_wp2; go_ret; exact ⟨rfl, rfl⟩
  | red n => have h := taE_red (n : Int); simp only [Actn.val]; go_enter Tryz.func313, Tryz.ntmps313; go_wp2; go_ret; exact ⟨rfl, rfl⟩
  | sh n => have h := taE_sh (n : Int); simp only [Actn.val]; go_enter Tryz.func313, Tryz.ntmps313; go_wp2; go_ret; exact ⟨rfl, rfl⟩
theorem EqAcc_any (y : Actn) (w : World) : Calls Tryz.prog 322 #[.bool true, y.val] w fun e w' => e = .returned (.bool (decide (Actn.acc = y))) ∧ w' = w := by
  cases y with
  | err => have h := taA_err; simp only [Actn.val]; go_enter Tryz.func322, Tryz.ntmps322; go_wp2; go_ret; exact ⟨rfl, rfl⟩
  | acc => have h := taA_acc; simp only [Actn.val]; go_enter Tryz.func322, Tryz.ntmps322; go_wp2; go_ret; exact ⟨rfl, rfl⟩
  | red n => have h := taA_red (n : Int); simp only [Actn.val]; go_enter Tryz.func322, Tryz.ntmps322; go_wp2; go_ret; exact ⟨rfl, rfl⟩
  | sh n => have h := taA_sh (n : Int); simp only [Actn.val]; go_enter Tryz.func322, Tryz.ntmps322; go_wp2; go_ret; exact ⟨rfl, rfl⟩
theorem dec_red (m n : Nat) : decide (Actn.red m = Actn.red n) = ((m : Int) == (n : Int)) := by
  by_cases h : m = n
  · subst h; simp
  · rw [decide_eq_false (by intro e; injection e; contradiction), eq_comm, beq_eq_false_iff_ne]; omega
theorem dec_sh (m n : Nat) : decide (Actn.sh m = Actn.sh n) = ((m : Int) == (n : Int)) := by
  by_cases h : m = n
  · subst h; simp
  · rw [decide_eq_false (by intro e; injection e; contradiction), eq_comm, beq_eq_false_iff_ne]; omega
theorem EqSh_any (m : Nat) (y : Actn) (w : World) : Calls Tryz.prog 316 #[.int .i64 (m : Int), y.val] w fun e w' => e = .returned (.bool (decide (Actn.sh m = y))) ∧ w' = w := by
  cases y with
  | err => have h := taS_err; simp only [Actn.val]; go_enter Tryz.func316, Tryz.ntmps316; go_wp2; go_ret; exact ⟨rfl, rfl⟩
  | acc => have h := taS_acc; simp only [Actn.val]; go_enter Tryz.func316, Tryz.ntmps316; go_wp2; go_ret; exact ⟨rfl, rfl⟩
  | red n => have h := taS_red (n : Int); simp only [Actn.val]; go_enter Tryz.func316, Tryz.ntmps316; go_wp2; go_ret; exact ⟨rfl, rfl⟩
  | sh n => have h := taS_sh (n : Int); rw [dec_sh]; simp only [Actn.val]; go_enter Tryz.func316, Tryz.ntmps316; go_wp2; go_ret; exact ⟨rfl, rfl⟩
theorem EqRed_any (m : Nat) (y : Actn) (w : World) : Calls Tryz.prog 319 #[.int .i64 (m : Int), y.val] w fun e w' => e = .returned (.bool (decide (Actn.red m = y))) ∧ w' = w := by
  cases y with
  | err => have h := taR_err; simp only [Actn.val]; go_enter Tryz.func319, Tryz.ntmps319; go_wp2; go_ret; exact ⟨rfl, rfl⟩
  | acc => have h := taR_acc; simp only [Actn.val]; go_enter Tryz.func319, Tryz.ntmps319; go_wp2; go_ret; exact ⟨rfl, rfl⟩
  | red n => have h := taR_red (n : Int); rw [dec_red]; simp only [Actn.val]; go_enter Tryz.func319, Tryz.ntmps319; go_wp2; go_ret; exact ⟨rfl, rfl⟩
  | sh n => have h := taR_sh (n : Int); simp only [Actn.val]; go_enter Tryz.func319, Tryz.ntmps319; go_wp2; go_ret; exact ⟨rfl, rfl⟩
end Go.Proofs.YtdejcdmgcckmoaaGreatDoor
namespace Go.Proofs.YtdejcdmgcckmoaaGreatDoor
open Go.RowKit Go.Sort Lr

/-- An action's type, and the numbers of its methods. -/
def Actn.ty : Actn → Nat
  | .err => 175
  | .acc => 182
  | .red _ => 181
  | .sh _ => 180
def Actn.eqF : Actn → Nat
  | .err => 313
  | .acc => 322
  | .red _ => 319
  | .sh _ => 316
def Actn.strF : Actn → Nat
  | .err => 315
  | .acc => 324
  | .red _ => 321
  | .sh _ => 318
def Actn.resF : Actn → Nat
  | .err => 314
  | .acc => 323
  | .red _ => 320
  | .sh _ => 317
theorem Actn.val_iface (x : Actn) : x.val = .iface x.ty x.raw := by cases x <;> rfl
theorem met_eq (x : Actn) (w : World) : (method 481 x.ty x.raw "Equal").run Tryz.prog w = .ok (x.eqF, x.raw) w := by cases x <;> kernel_rfl
theorem met_str (x : Actn) (w : World) : (method 481 x.ty x.raw "String").run Tryz.prog w = .ok (x.strF, x.raw) w := by cases x <;> kernel_rfl
theorem met_res (x : Actn) (w : World) : (method 481 x.ty x.raw "ResolveConflict").run Tryz.prog w = .ok (x.resF, x.raw) w := by cases x <;> kernel_rfl
theorem ent_eq (x : Actn) : ∀ args w, (callFunc x.eqF args).run Tryz.prog w = .ok (.enter x.eqF args) w := by
  cases x
  · exact enters_of Tryz.func313 (by kernel_rfl) rfl
  · exact enters_of Tryz.func322 (by kernel_rfl) rfl
  · exact enters_of Tryz.func319 (by kernel_rfl) rfl
  · exact enters_of Tryz.func316 (by kernel_rfl) rfl
theorem ent_str (x : Actn) : ∀ args w, (callFunc x.strF args).run Tryz.prog w = .ok (.enter x.strF args) w := by
  cases x
  · exact enters_of Tryz.func315 (by kernel_rfl) rfl
  · exact enters_of Tryz.func324 (by kernel_rfl) rfl
  · exact enters_of Tryz.func321 (by kernel_rfl) rfl
  · exact enters_of Tryz.func318 (by kernel_rfl) rfl
theorem ent_res (x : Actn) : ∀ args w, (callFunc x.resF args).run Tryz.prog w = .ok (.enter x.resF args) w := by
  cases x
  · exact enters_of Tryz.func314 (by kernel_rfl) rfl
  · exact enters_of Tryz.func323 (by kernel_rfl) rfl
  · exact enters_of Tryz.func320 (by kernel_rfl) rfl
  · exact enters_of Tryz.func317 (by kernel_rfl) rfl
theorem Equal_act (x y : Actn) (w : World) : Calls Tryz.prog x.eqF #[x.raw, y.val] w fun e w' => e = .returned (.bool (decide (x = y))) ∧ w' = w := by
  cases x with
  | err => exact EqErr_any y w
  | acc => exact EqAcc_any y w
  | red m => exact EqRed_any m y w
  | sh m => exact EqSh_any m y w
/-- Which action stands at a conflict. -/
def resA : Actn → Actn → Actn
  | .err, y => y
  | .acc, _ => .acc
  | .sh m, _ => .sh m
  | .red _, .sh n => .sh n
  | .red m, .err => .red m
  | .red m, .acc => .red m
  | .red m, .red n => if m < n then .red m else .red n
theorem ResSh_red (m n : Nat) (w : World) : Calls Tryz.prog 317 #[.int .i64 (m : Int), (Actn.red n).val] w fun e w' => e = .returned (Actn.sh m).val ∧ w' = w := by
  have h1 := taA_red (n : Int)
  have h2 := taS_red (n : Int)
  have h3 := taE_red (n : Int)
  have h4 := taR_red (n : Int)
  simp only [Actn.val]
  go_enter Tryz.func317, Tryz.ntmps317
  go_wp2
  go_ret
  exact ⟨rfl, rfl⟩
theorem ResRed_sh (m n : Nat) (w : World) : Calls Tryz.prog 320 #[.int .i64 (m : Int), (Actn.sh n).val] w fun e w' => e = .returned (Actn.sh n).val ∧ w' = w := by
  have h1 := taA_sh (n : Int)
  have h2 := taS_sh (n : Int)
  simp only [Actn.val]
  go_enter Tryz.func320, Tryz.ntmps320
  go_wp2
  go_ret
  exact ⟨rfl, rfl⟩
theorem ResRed_red (m n : Nat) (w : World) : Calls Tryz.prog 320 #[.int .i64 (m : Int), (Actn.red n).val] w fun e w' => e = .returned (resA (.red m) (.red n)).val ∧ w' = w := by
  have h1 := taA_red (n : Int)
  have h2 := taS_red (n : Int)
  have h3 := taE_red (n : Int)
  have h4 := taR_red (n : Int)
  by_cases h : m < n
  · have hz : (m : Int) < (n : Int) := by omega
    rw [show resA (.red m) (.red n) = .red m from if_pos h]
    simp only [Actn.val]
    go_enter Tryz.func320, Tryz.ntmps320
    go_wp2
    go_ret
    exact ⟨rfl, rfl⟩
  · have hz : ¬ (m : Int) < (n : Int) := by omega
    rw [show resA (.red m) (.red n) = .red n from if_neg h]
    simp only [Actn.val]
    go_enter Tryz.func320, Tryz.ntmps320
    go_wp2
    go_ret
    exact ⟨rfl, rfl⟩
end Go.Proofs.YtdejcdmgcckmoaaGreatDoor
namespace Go.Proofs.YtdejcdmgcckmoaaGreatDoor
open Go.RowKit Go.Sort Lr

/-- One item's action met: what stands, and whether there was a conflict. -/
def stepA (st : Actn × Bool) (a : Actn) : Actn × Bool :=
  if a = .err then st else if st.1 = .err then (a, st.2) else if st.1 = a then st else (resA st.1 a, true)
/-- Which action stands ahead of which. -/
def leA : Actn → Actn → Prop
  | .sh m, .sh n => m = n
  | .sh _, .red _ => True
  | .red m, .red n => m ≤ n
  | .acc, .acc => True
  | _, _ => False
/-- Actions that may meet in a state. -/
structure MeetA (A : List Actn) : Prop where
  sh : ∀ m n, .sh m ∈ A → .sh n ∈ A → m = n
  acc : .acc ∈ A → ∀ x ∈ A, x ≠ .err → x = .acc
/-- What has been met so far. -/
structure MetA (P : List Actn) (st : Actn × Bool) : Prop where
  err : st.1 = .err ↔ ∀ x ∈ P, x = .err
  mem : st.1 ≠ .err → st.1 ∈ P
  le : ∀ x ∈ P, x ≠ .err → leA st.1 x
  cf : st.2 = true ↔ ∃ x ∈ P, ∃ y ∈ P, x ≠ .err ∧ y ≠ .err ∧ x ≠ y
theorem MetA.init : MetA [] (.err, false) := ⟨by simp, by simp, by simp, by simp⟩
theorem leA_refl {x : Actn} (h : x ≠ .err) : leA x x := by
  cases x with
  | err => exact absurd rfl h
  | acc => trivial
  | red n => exact Nat.le_refl n
  | sh n => exact rfl
/-- Two actions that may meet: the one that stands is ahead of both. -/
theorem resA_le {A : List Actn} (hA : MeetA A) {r a : Actn} (hr : r ∈ A) (ha : a ∈ A) (hr0 : r ≠ .err) (ha0 : a ≠ .err) (hne : r ≠ a) :
    (resA r a = r ∨ resA r a = a) ∧ leA (resA r a) a ∧ (∀ x, leA r x → leA (resA r a) x) ∧ r ≠ .acc ∧ a ≠ .acc := by
  cases r with
  | err => exact absurd rfl hr0
  | acc => exact absurd (hA.acc hr a ha ha0).symm hne
  | sh m =>
    cases a with
    | err => exact absurd rfl ha0
    | acc => exact absurd (hA.acc ha _ hr hr0) (by simp)
    | sh n => exact absurd (by rw [hA.sh m n hr ha]) hne
    | red n => exact ⟨.inl rfl, trivial, fun x h => h, by simp, by simp⟩
  | red m =>
    cases a with
    | err => exact absurd rfl ha0
    | acc => exact absurd (hA.acc ha _ hr hr0) (by simp)
    | sh n =>
      refine ⟨.inr rfl, rfl, fun x h => ?_, by simp, by simp⟩
      cases x <;> first | exact h.elim | trivial
    | red n =>
      by_cases h : m < n
      · have e : resA (.red m) (.red n) = .red m := if_pos h
        rw [e]
        exact ⟨.inl rfl, Nat.le_of_lt h, fun x h => h, by simp, by simp⟩
      · have e : resA (.red m) (.red n) = .red n := if_neg h
        rw [e]
        refine ⟨.inr rfl, Nat.le_refl n, fun x hx => ?_, by simp, by simp⟩
        cases x with
        | err => exact hx.elim
        | acc => exact hx.elim
        | sh k => exact hx.elim
        | red k => exact Nat.le_trans (Nat.le_of_not_lt h) hx
theorem MetA.step {A P : List Actn} (hA : MeetA A) {st : Actn × Bool} (h : MetA P st) {a : Actn} (hP : ∀ x ∈ P, x ∈ A) (ha : a ∈ A) : MetA (P ++ [a]) (stepA st a) := by
  have hmem : ∀ x, x ∈ P ++ [a] ↔ x ∈ P ∨ x = a := fun x => by simp
  unfold stepA
  by_cases h1 : a = .err
  · rw [if_pos h1]
    subst h1
    refine ⟨?_, fun h0 => (hmem _).2 (.inl (h.mem h0)), fun x hx h0 => ?_, ?_⟩
    · rw [h.err]
      constructor
      · intro k x hx; rcases (hmem x).1 hx with hx | hx; exact k x hx; exact hx
      · intro k x hx; exact k x ((hmem x).2 (.inl hx))
    · rcases (hmem x).1 hx with hx | hx
      · exact h.le x hx h0
      · exact absurd hx h0
    · rw [h.cf]
      constructor
      · rintro ⟨x, hx, y, hy, k⟩; exact ⟨x, (hmem x).2 (.inl hx), y, (hmem y).2 (.inl hy), k⟩
      · rintro ⟨x, hx, y, hy, k1, k2, k3⟩
        rcases (hmem x).1 hx with hx | hx
        · rcases (hmem y).1 hy with hy | hy
          · exact ⟨x, hx, y, hy, k1, k2, k3⟩
          · exact absurd hy k2
        · exact absurd hx k1
  · rw [if_neg h1]
    by_cases h2 : st.1 = .err
    · rw [if_pos h2]
      have hall := h.err.1 h2
      have hno : st.2 = false := by
        cases hb : st.2 with
        | false => rfl
        | true =>
          obtain ⟨x, hx, _, _, k, _⟩ := h.cf.1 hb
          exact absurd (hall x hx) k
      refine ⟨?_, fun _ => (hmem _).2 (.inr rfl), fun x hx h0 => ?_, ?_⟩
      · constructor
        · intro k; exact absurd k h1
        · intro k; exact k a ((hmem a).2 (.inr rfl))
      · rcases (hmem x).1 hx with hx | hx
        · exact absurd (hall x hx) h0
        · rw [hx]; exact leA_refl h1
      · simp only [hno]
        constructor
        · intro k; cases k
        · rintro ⟨x, hx, y, hy, k1, k2, k3⟩
          rcases (hmem x).1 hx with hx | hx
          · exact absurd (hall x hx) k1
          · rcases (hmem y).1 hy with hy | hy
            · exact absurd (hall y hy) k2
            · exact absurd (hx.trans hy.symm) k3
    · rw [if_neg h2]
      by_cases h3 : st.1 = a
      · rw [if_pos h3]
        refine ⟨?_, fun h0 => (hmem _).2 (.inl (h.mem h0)), fun x hx h0 => ?_, ?_⟩
        · constructor
          · intro k; exact absurd k h2
          · intro k; exact absurd (k _ ((hmem _).2 (.inl (h.mem h2)))) h2
        · rcases (hmem x).1 hx with hx | hx
          · exact h.le x hx h0
          · rw [hx, ← h3]; exact leA_refl h2
        · rw [h.cf]
          constructor
          · rintro ⟨x, hx, y, hy, k⟩; exact ⟨x, (hmem x).2 (.inl hx), y, (hmem y).2 (.inl hy), k⟩
          · rintro ⟨x, hx, y, hy, k⟩
            have hm : ∀ z, z ∈ P ++ [a] → z ∈ P := fun z hz => by
              rcases (hmem z).1 hz with hz | hz
              · exact hz
              · rw [hz, ← h3]; exact h.mem h2
            exact ⟨x, hm x hx, y, hm y hy, k⟩
      · rw [if_neg h3]
        have hr := h.mem h2
        obtain ⟨e1, e2, e3, _, _⟩ := resA_le hA (hP _ hr) ha h2 h1 h3
        have hne : resA st.1 a ≠ .err := by rcases e1 with e | e <;> rw [e]; exact h2; exact h1
        refine ⟨?_, fun _ => ?_, fun x hx h0 => ?_, ?_⟩
        · constructor
          · intro k; exact absurd k hne
          · intro k; exact absurd (k a ((hmem a).2 (.inr rfl))) h1
        · rcases e1 with e | e
          · simp only [e]; exact (hmem _).2 (.inl hr)
          · simp only [e]; exact (hmem _).2 (.inr rfl)
        · rcases (hmem x).1 hx with hx | hx
          · exact e3 x (h.le x hx h0)
          · rw [hx]; exact e2
        · constructor
          · intro _; exact ⟨st.1, (hmem _).2 (.inl hr), a, (hmem a).2 (.inr rfl), h2, h1, h3⟩
          · intro _; rfl
end Go.Proofs.YtdejcdmgcckmoaaGreatDoor
namespace Go.Proofs.YtdejcdmgcckmoaaGreatDoor
open Go.RowKit Go.Sort Lr

/-- An item whose dot stands at the end, the end behind it. -/
def atEndB (g : Gram) (i : Itm) : Bool := decide (i.dot = (Lr.body g i.prod).length) && decide (untold i.look = eofS)
def stopA (g : Gram) (l : List Itm) : Bool := l.any fun i => atEndB g i && decide (idxI i.prod = 0)
def stopO (g : Gram) (l : List Itm) : Nat := l.countP fun i => atEndB g i && !decide (idxI i.prod = 0)
theorem stopA_take {g : Gram} {l : List Itm} {k : Nat} (h : k < l.length) : stopA g (l.take (k + 1)) = (stopA g (l.take k) || (atEndB g l[k] && decide (idxI l[k].prod = 0))) := by
  unfold stopA
  rw [List.take_succ_eq_append_getElem h, List.any_append]; simp
theorem stopO_take {g : Gram} {l : List Itm} {k : Nat} (h : k < l.length) : stopO g (l.take (k + 1)) = stopO g (l.take k) + (if atEndB g l[k] && !decide (idxI l[k].prod = 0) then 1 else 0) := by
  unfold stopO
  rw [List.take_succ_eq_append_getElem h, List.countP_append]
  simp [List.countP_cons]
set_option maxRecDepth 20000 in
set_option maxHeartbeats 1000000 in
theorem stops_any {g : Gram} {w0 w : World} {B p m1 m2 : Nat} {no : Int} {v e1 e2 e3 : Value} {L : List (Nat × Itm)} {n1 : Nat} (h : ISt g w0 w B p m1 m2 no v L n1 e1 e2 e3) (hl : L.length ≤ 100000) :
    Calls Tryz.prog 78 #[.pointer (some ⟨p, 0, none⟩)] w fun e w' => e = .returned (.bool (stopA g (L.map (·.2)) && decide (0 < stopO g (L.map (·.2))))) ∧ New w w' := by
  have c2 : w.cell? ⟨p, 2, none⟩ = some v := (cell_of_blk h.blk 2).trans rfl
  obtain ⟨a, c, rfl⟩ := owns_slice h.row
  obtain ⟨M, hM⟩ : ∃ M, M = L.map (·.2) := ⟨_, rfl⟩
  have hMl : L.length = M.length := by rw [hM, List.length_map]
  have HM := Lib.hid hM
  have HH := Lib.hid h
  rw [← hM]
  rw [hMl] at c2
  have HML := Lib.hid hMl
  clear h hM hMl
  go_enter Tryz.func78, Tryz.ntmps78
  go_wp2
  have hMb : M.length ≤ 100000 := by rw [← HML.out]; exact hl
  go_loopg [3, 4, 12] M.length (fun gk u3 u4 u12 wr => ∃ k : Nat, k ≤ M.length ∧ gk = M.length - k ∧ u12 = .int .i64 k ∧ u3 = .bool (stopA g (M.take k)) ∧ u4 = .int .i64 (stopO g (M.take k) : Int) ∧ stopO g (M.take k) ≤ k ∧ New w wr)
  case atStart => exact ⟨0, Nat.zero_le _, rfl, rfl, rfl, rfl, Nat.zero_le _, New.refl _⟩
  case round =>
    obtain ⟨k, hk, rfl, rfl, rfl, rfl, hO, hn⟩ := hrel
    by_cases hlt : k < M.length
    · have hltL : k < L.length := by rw [HML.out]; exact hlt
      obtain ⟨gb, cb, e, hgb, hgB, hcell⟩ := row_ptr HH.out.row (by omega)
      cases e
      have hMk : M[k] = L[k].2 := by simp [HM.out]
      have hrow := hn.cell (hcell k (.pointer (some ⟨L[k].1, 0, none⟩)) (by simp [hltL]))
      have hit := ((HH.out.its _ (List.getElem_mem hltL)).itc).new hn
      rw [← hMk] at hit
      obtain ⟨c0, c4, c5, c6, c7⟩ := hit
      have hA := stopA_take (g := g) hlt
      have hOt := stopO_take (g := g) hlt
      generalize M[k] = i at *
      generalize L[k].1 = ib at *
      have hidx : idxI i.prod = 0 ∨ idxI i.prod ≠ 0 := by omega
      have HT := Lib.hid (And.intro hA hOt)
      clear hA hOt hcell hMk c5 hltL
      unfold atEndB at HT
      generalize hx1 : (Lr.body g i.prod).length = len at *
      generalize hx2 : untold i.look = lk at *
      generalize hx3 : idxI i.prod = ix at *
      have hn1 : New wr (wr.drewN 1) := (New.refl wr).drewN 1
      by_cases hd : i.dot = len
      · subst hd
        by_cases hlk : lk = eofS
        · subst hlk
          have kk : (eofS == [226, 144, 154]) = true := by decide
          rcases hidx with hz | hz
          · subst hz
            go_wp2_with fail
            go_quiet (fail)
            go_wp2
            go_roundg (M.length - (k + 1))
            case measure => omega
            case rel => exact ⟨k + 1, by omega, rfl, by go_num, by rw [HT.out.1]; simp, by rw [HT.out.2]; simp, by rw [HT.out.2]; simp; omega, hn.drewN nq⟩
          · have hzb : ((ix : Int) == 0) = false := by rw [beq_eq_false_iff_ne]; omega
            go_wp2_with fail
            go_quiet (fail)
            go_wp2
            go_roundg (M.length - (k + 1))
            case measure => omega
            case rel => exact ⟨k + 1, by omega, rfl, by go_num, by rw [HT.out.1]; simp [hz], by rw [HT.out.2]; simp [hz], by rw [HT.out.2]; simp [hz]; omega, hn.drewN nq⟩
        · have kk : (lk == [226, 144, 154]) = false := by rw [beq_eq_false_iff_ne]; exact hlk
          go_wp2_with fail
          go_quiet (fail)
          go_wp2
          go_roundg (M.length - (k + 1))
          case measure => omega
          case rel => exact ⟨k + 1, by omega, rfl, by go_num, by rw [HT.out.1]; simp [hlk], by rw [HT.out.2]; simp [hlk], by rw [HT.out.2]; simp [hlk]; omega, hn.drewN nq⟩
      · have hdb : ((i.dot : Int) == (len : Int)) = false := by rw [beq_eq_false_iff_ne]; omega
        go_wp2_with fail
        go_quiet (fail)
        go_wp2
        go_roundg (M.length - (k + 1))
        case measure => omega
        case rel => exact ⟨k + 1, by omega, rfl, by go_num, by rw [HT.out.1]; simp [hd], by rw [HT.out.2]; simp [hd], by rw [HT.out.2]; simp [hd]; omega, hn.drewN nq⟩
    · have e : M.take k = M := List.take_of_length_le (by omega)
      rw [e]
      by_cases h0 : 0 < stopO g M
      · have hz : (0 : Int) < (stopO g M : Int) := by omega
        have hzb : decide ((0 : Int) < (stopO g M : Int)) = true := decide_eq_true hz
        cases hb : stopA g M with
        | true =>
          go_wp2_with fail
          go_ret
          exact ⟨ret_bool (by simp [hb, h0]), hn⟩
        | false =>
          go_wp2_with fail
          go_ret
          exact ⟨ret_bool (by simp [hb]), hn⟩
      · have hz : ¬ (0 : Int) < (stopO g M : Int) := by omega
        cases hb : stopA g M with
        | true =>
          go_wp2_with fail
          go_ret
          exact ⟨ret_bool (by simp []), hn⟩
        | false =>
          go_wp2_with fail
          go_ret
          exact ⟨ret_bool (by simp []), hn⟩
end Go.Proofs.YtdejcdmgcckmoaaGreatDoor
