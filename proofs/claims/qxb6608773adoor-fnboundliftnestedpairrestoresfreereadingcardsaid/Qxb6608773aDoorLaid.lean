/-
  What stands behind the laws' common opening: two copies of the bytes, a fresh Decoder.
-/
import Derived.Test.Qxb6608773aDoorClone
import Derived.LaidMore
import Derived.Stop.Joined
import Derived.MakeChecks
import Derived.LaidHandle
namespace Go.Proofs.Qxb6608773aDoor.Hess
open Go.ChangeShapes Go.WideShapes Go.ChangeAt Go.RowKit
set_option linter.unusedVariables false

/-- What stands behind 'bp := zzCloneBytesB1(b); d := hessian.NewDecoder(bp)'. -/
structure Laid (w w' : World) (D : Nat) (ab a : Option Addr) (n : Nat) (zs : List Int) (u : TypeId) (x : Value) : Prop where
  dec : Dec w' D a n 0 false 0
  bytes : Bytes w' D a n zs
  bytes2 : Bytes w' D ab n zs
  eof : Eof w' u x
  ne : 0 ≠ D
  below : Below w.heap.size w w'
  le : w.heap.size ≤ D
  lt : w.heap.size ≤ w'.heap.size

theorem laid_of {w w1 w2 w3 : World} {a1 a2 : Option Addr} {n : Nat} {zs : List Int} {u : TypeId} {x : Value} (he : Eof w u x) (o1 : Own w1 a1 n zs) (b1 : Below w.heap.size w w1) (o2 : Own w2 a2 n zs) (b2 : Below w1.heap.size w1 w2)
    (d3 : Dec w3 w2.heap.size a2 n 0 false 0) (o3 : Only w2.heap.size w2 w3) : Laid w w3 w2.heap.size a1 a2 n zs u x := by
  have s1 := b1.size
  have s2 := b2.size
  have h0 := he.lt
  have b02 : Below w.heap.size w w2 := b1.trans (b2.mono s1)
  refine ⟨d3, o2.bytes o3, (o1.kept b2).bytes o3, ?_, by omega, o3.below b02 (by omega) (by omega), by omega, by have := o3.size; omega⟩
  have e2 : Eof w2 u x := by
    unfold Eof
    rw [World.cell?_of_block (w := w) (b02.block 0 h0)]
    exact he
  exact e2.kept o3 (by omega)

theorem dec_off {w : World} {D : Nat} {a : Option Addr} {n k : Nat} {bd : Bool} {lf : Int} (h : Dec w D a n k bd lf) : w.cell? ⟨D, 2, none⟩ = some (.int .i64 k) := by
  obtain ⟨C, h0, _, _, h3, _⟩ := h
  rw [cell_of h0, h3]


/-! ### From the frame's words to the walks' -/
theorem own : ownKnob Tryd.prog.godebug = none := by kernel_rfl
theorem laidOut : laidOutB Tryd.prog = true := by kernel_rfl
theorem gEof : Tryd.prog.globalNamed "io.ErrUnexpectedEOF" = some 0 := by kernel_rfl
theorem tEof : (Tryd.prog.globals[0]?).map (·.type) = some 49 := by kernel_rfl

/-- The variable's list, as every row of this seat has it. -/
def listed : List (String × DataW Unit) := [("io.ErrUnexpectedEOF", Rows.laid_io_ErrUnexpectedEOF)]

/-- The door's own heap meets the condition. -/
theorem door_met (os : Os) (args : Array Value) : laidMetH Tryd.prog listed ((World.doorLaid Tryd.prog 400 os).forCall (fun _ _ => 0) ⟨#[], args, []⟩).memory :=
  laidMetH_of_parts3 (fuel := 8) (laidMet_of_run' 8 (by kernel_rfl) (by kernel_rfl)) (by kernel_rfl) (by kernel_rfl)

/-- What the condition gives the walks: the variable holds an error. -/
theorem eof_of_laid {W : World} (h : laidMetH Tryd.prog listed W) : ∃ u x, Eof W u x := by
  rw [MakeChecks.laidMetH_plain _ _ _ (by kernel_rfl)] at h
  obtain ⟨ps, ⟨g0, t0, cs0, f0, p0, q0, hg0, ht0, hv0, hd0, _⟩, _⟩ := h
  obtain rfl := Option.some.inj (gEof.symm.trans hg0)
  obtain rfl := Option.some.inj (tEof.symm.trans ht0)
  obtain ⟨_, u, v, hcs, _⟩ := iface_of_trod Tryd.underlying49 hd0
  refine ⟨u, v, ?_⟩
  have := World.var?_cell hg0 hv0 0
  rw [Array.eq_one_of_toList hcs] at this
  unfold Eof
  simpa using this

/-- What the walk is told of the slice that came in: it is nil; or it leads to a row of 'cap' cells, the numbers 'zs' (the first 'len' are its elements, the rest its spare room), each fitting its kind. -/
def IsRow (k : IntKind) (w : World) (a : Option Addr) (len cap : Nat) (zs : List Int) : Prop :=
  (a = none ∧ len = 0 ∧ cap = 0 ∧ zs = []) ∨
  ∃ x, a = some x ∧ len ≤ cap ∧ cap ≤ maxLen ∧ zs.length = cap ∧ (∀ i, i < zs.length → w.cell? (x.add i) = some (.int k (zs.getD i 0))) ∧ ∀ n ∈ zs, (Lit.int k n).wf = true

theorem given_of {w : World} {a : Option Addr} {n c : Nat} {zs : List Int} (h : IsRow .u8 w a n c zs) : n ≤ maxLen ∧ Given w a n c (zs.take n) := by
  rcases h with ⟨rfl, rfl, rfl, rfl⟩ | ⟨x, rfl, hl, hm, hz, hc, _⟩
  · exact ⟨Nat.zero_le _, rfl, .inl ⟨rfl, rfl, rfl⟩⟩
  · refine ⟨Nat.le_trans hl hm, by simp; omega, .inr ⟨x, rfl, fun i hi => ?_⟩⟩
    rw [hc i (by omega)]
    simp [List.getD, hi]

theorem row_of {H : Type} {enc : TypeId × Value → H} {W : World} {a : Option Addr} {len cap : Nat} {d : DataW H} {p : List MemPlace} (h : DataW.Trod enc Tryd.prog W 0 (fun _ => true) true 22 (.slice a len cap) d p) : ∃ zs, IsRow .u8 W a len cap zs := by
  obtain ⟨fuel, hf⟩ := h
  rcases open_ints Tryd.underlying22 Tryd.underlying5 (by kernel_rfl) hf with ⟨hcs, _⟩ | ⟨x, l, c, zs, hcs, _, hl, hm, hz, _, hcell, hwz⟩
  · simp [Value.cells] at hcs
    obtain ⟨rfl, rfl, rfl⟩ := hcs
    exact ⟨[], .inl ⟨rfl, rfl, rfl, rfl⟩⟩
  · simp [Value.cells] at hcs
    obtain ⟨rfl, rfl, rfl⟩ := hcs
    exact ⟨zs, .inr ⟨_, rfl, hl, hm, by simpa using hz, hcell, hwz⟩⟩
end Go.Proofs.Qxb6608773aDoor.Hess
