/- A part of the proofs about gocc: S0. -/
import Derived.Test.YtdejcdmgcckmoaaGreatDoorXW11
namespace Go.Proofs.YtdejcdmgcckmoaaGreatDoor
open Go.RowKit Lr

/-- A symbol of the package's syntax. -/
inductive Sy where
  | nt (s : Str)
  | tk (s : Str)
  | em
  deriving DecidableEq
def emptyS : Str := [101, 109, 112, 116, 121]
def Sy.str : Sy → Str
  | .nt s => s
  | .tk s => s
  | .em => emptyS
def Sy.val : Sy → Value
  | .nt s => .iface 142 (sv s)
  | .tk s => .iface 143 (sv s)
  | .em => .iface 144 (.int .i64 0)
abbrev AP := Str × List Sy

def SysAt (w : World) (v : Value) (l : List Sy) : Prop := SlcAt w v l.length l.length fun j => (l.getD j .em).val
theorem SysAt.new {w w' : World} {v : Value} {l : List Sy} (h : SysAt w v l) (hn : New w w') : SysAt w' v l := SlcAt.new h hn
theorem SysAt.elem {w : World} {a : Option Addr} {n cap : Nat} {l : List Sy} (h : SysAt w (.slice a n cap) l) {k : Nat} (hk : k < l.length) :
    ∃ b o, a = some ⟨b, o, none⟩ ∧ w.cell? ⟨b, o + k, none⟩ = some l[k].val := by
  obtain ⟨a1, cap1, e, _, hc⟩ := h
  cases e
  obtain ⟨b, o, rfl, hcc⟩ := hc (by omega)
  have h1 := hcc k hk
  have eg : l.getD k .em = l[k] := by simp [List.getD, hk]
  simp only [eg] at h1
  exact ⟨b, o, rfl, h1⟩
theorem SysAt.slice {w : World} {v : Value} {l : List Sy} (h : SysAt w v l) : ∃ a cap, v = .slice a l.length cap := by
  obtain ⟨a, cap, rfl, _, _⟩ := h
  exact ⟨a, cap, rfl⟩

/-- A production of the package's syntax, behind its pointer. -/
def ProdPtr (w : World) (v : Value) (p : AP) : Prop :=
  ∃ b q a c, v = .pointer (some ⟨b, 0, none⟩) ∧ w.cell? ⟨b, 0, none⟩ = some (sv p.1) ∧ w.cell? ⟨b, 1, none⟩ = some (.pointer (some ⟨q, 0, none⟩)) ∧
    w.cell? ⟨q, 1, none⟩ = some (.slice a p.2.length c) ∧ SysAt w (.slice a p.2.length c) p.2
theorem ProdPtr.new {w w' : World} {v : Value} {p : AP} (h : ProdPtr w v p) (hn : New w w') : ProdPtr w' v p := by
  obtain ⟨b, q, a, c, rfl, h1, h2, h3, h4⟩ := h
  exact ⟨b, q, a, c, rfl, hn.cell h1, hn.cell h2, hn.cell h3, h4.new hn⟩

/-- A list of productions. -/
def ProdsAt (w : World) (v : Value) (L : List AP) : Prop :=
  ∃ a cap, v = .slice a L.length cap ∧ L.length ≤ cap ∧ (0 < L.length → ∃ b o, a = some ⟨b, o, none⟩ ∧ ∀ j, (hj : j < L.length) → ∃ pv, w.cell? ⟨b, o + j, none⟩ = some pv ∧ ProdPtr w pv L[j])
theorem ProdsAt.new {w w' : World} {v : Value} {L : List AP} (h : ProdsAt w v L) (hn : New w w') : ProdsAt w' v L := by
  obtain ⟨a, cap, rfl, hcap, hc⟩ := h
  refine ⟨a, cap, rfl, hcap, fun hne => ?_⟩
  obtain ⟨b, o, rfl, hcc⟩ := hc hne
  refine ⟨b, o, rfl, fun j hj => ?_⟩
  obtain ⟨pv, h1, h2⟩ := hcc j hj
  exact ⟨pv, hn.cell h1, h2.new hn⟩
theorem ProdsAt.slice {w : World} {v : Value} {L : List AP} (h : ProdsAt w v L) : ∃ a cap, v = .slice a L.length cap := by
  obtain ⟨a, cap, rfl, _, _⟩ := h
  exact ⟨a, cap, rfl⟩
/-- One of its productions, opened. -/
theorem ProdsAt.elem {w : World} {a : Option Addr} {n cap : Nat} {L : List AP} (h : ProdsAt w (.slice a n cap) L) {k : Nat} (hk : k < L.length) :
    ∃ b o pb q sa sc, a = some ⟨b, o, none⟩ ∧ w.cell? ⟨b, o + k, none⟩ = some (.pointer (some ⟨pb, 0, none⟩)) ∧ w.cell? ⟨pb, 0, none⟩ = some (sv L[k].1) ∧ w.cell? ⟨pb, 1, none⟩ = some (.pointer (some ⟨q, 0, none⟩)) ∧
      w.cell? ⟨q, 1, none⟩ = some (.slice sa L[k].2.length sc) ∧ SysAt w (.slice sa L[k].2.length sc) L[k].2 := by
  obtain ⟨a1, cap1, e, _, hc⟩ := h
  cases e
  obtain ⟨b, o, rfl, hcc⟩ := hc (by omega)
  obtain ⟨pv, h1, pb, q, sa, sc, rfl, h2, h3, h4, h5⟩ := hcc k hk
  exact ⟨b, o, pb, q, sa, sc, rfl, h1, h2, h3, h4, h5⟩

/-- The package's grammar, behind its pointer. -/
def GrmAt (w : World) (v : Value) (L : List AP) : Prop :=
  ∃ x y z, v = .pointer (some ⟨x, 0, none⟩) ∧ w.cell? ⟨x, 0, none⟩ = some (.pointer (some ⟨y, 0, none⟩)) ∧ w.cell? ⟨y, 1, none⟩ = some z ∧ ProdsAt w z L
theorem GrmAt.new {w w' : World} {v : Value} {L : List AP} (h : GrmAt w v L) (hn : New w w') : GrmAt w' v L := by
  obtain ⟨x, y, z, rfl, h1, h2, h3⟩ := h
  exact ⟨x, y, z, rfl, hn.cell h1, hn.cell h2, h3.new hn⟩

/-- The augmented grammar of plain productions. -/
def bodyS (g : Gram) (b : List Str) : List Sy := if b = [] then [.em] else b.map fun s => if isHead g s then .nt s else .tk s
def startS : Str := [83, 39]
def augP (g : Gram) : List AP := (startS, [.nt (Lr.start g)]) :: g.map fun p => (p.1, bodyS g p.2)

/-! methods of the symbols -/
theorem SymStr_nt (s : Str) (w : World) : Calls Tryz.prog 302 #[sv s] w fun e w' => e = .returned (sv s) ∧ w = w' := by
  go_enter Tryz.func302, Tryz.ntmps302
  go_wp2
  go_ret
  exact ⟨rfl, rfl⟩
theorem SymStr_tk (s : Str) (w : World) : Calls Tryz.prog 305 #[sv s] w fun e w' => e = .returned (sv s) ∧ w = w' := by
  go_enter Tryz.func305, Tryz.ntmps305
  go_wp2
  go_ret
  exact ⟨rfl, rfl⟩
theorem SymStr_em (n : Int) (w : World) : Calls Tryz.prog 308 #[.int .i64 n] w fun e w' => e = .returned (sv emptyS) ∧ w = w' := by
  go_enter Tryz.func308, Tryz.ntmps308
  go_wp2
  go_ret
  exact ⟨rfl, rfl⟩

theorem met142 (s : Str) (w : World) : (method 481 142 (sv s) "SymbolString").run Tryz.prog w = .ok (302, sv s) w := by kernel_rfl
theorem met143 (s : Str) (w : World) : (method 481 143 (sv s) "SymbolString").run Tryz.prog w = .ok (305, sv s) w := by kernel_rfl
theorem met144 (w : World) : (method 481 144 (.int .i64 0) "SymbolString").run Tryz.prog w = .ok (308, .int .i64 0) w := by kernel_rfl

theorem ta142 (s : Str) (w : World) : (Instr.typeAssert (.iface 142 (sv s)) 207 208 true).run Tryz.prog w = .ok (.tuple #[.string ByteArray.empty, .bool false]) w := by kernel_rfl
theorem ta143 (s : Str) (w : World) : (Instr.typeAssert (.iface 143 (sv s)) 207 208 true).run Tryz.prog w = .ok (.tuple #[.string ByteArray.empty, .bool false]) w := by kernel_rfl
theorem ta144 (w : World) : (Instr.typeAssert (.iface 144 (.int .i64 0)) 207 208 true).run Tryz.prog w = .ok (.tuple #[.string ByteArray.empty, .bool false]) w := by kernel_rfl

set_option maxHeartbeats 400000 in
theorem ZZBody_any (a : Option Addr) (n c : Nat) (w : World) :
    Calls Tryz.prog 96 #[.slice a n c] w fun e w' => e = .returned (.pointer (some ⟨w.heap.size, 0, none⟩)) ∧ w.alloc (.cells #[.bool false, .slice a n c, sv []] 192) = w' := by
  go_enter Tryz.func96, Tryz.ntmps96
  go_wp2
  go_ret
  exact ⟨rfl, rfl⟩
end Go.Proofs.YtdejcdmgcckmoaaGreatDoor
