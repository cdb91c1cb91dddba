import Derived.Test.Qxb6608773aDoorRows
import Derived.WalkKit
import Derived.ProofKit
import Derived.OpenShut
import Derived.ShutString
import Derived.ChangeOld
import Derived.Below
import Derived.Deep.QuietTactic
import Derived.BigQuiet
import Derived.StillTactics
import Derived.Laws.Pointers
import Derived.RegionTactic
import Derived.BigRegion
import Derived.WideLaws
import Derived.LoopTactic
import Derived.Deep.OwnRows
import Derived.Laws.Cover3
namespace Go.Proofs.Qxb6608773aDoor.Hess
open Go.ChangeShapes Go.WideShapes Go.ChangeAt Go.RowKit
set_option linter.unusedVariables false
/-- A Decoder's cells before anything is laid in them. -/
def decZero : Array Value := (([.slice none 0 0, .pointer none, .int .i64 0, .int .i64 0, .bool false, .int .i64 0, .slice none 0 0, .int .i64 0, .slice none 0 0, .int .i64 0, .slice none 0 0, .int .i64 0, .int .i64 0, .slice none 0 0,
  .slice none 0 0, .int .i64 0, .slice none 0 0, .int .i64 0, .slice none 0 0, .int .i64 0, .slice none 0 0, .int .i64 0] : List Value) ++ List.replicate 64 (Value.int .u8 0) ++ [Value.bool false, Value.int .i64 0]).toArray
theorem zero47 (w : World) : (zeroValue 47).run Tryd.prog w = .ok (.agg decZero) w := by kernel_rfl
theorem decZero_ne : ¬ (decZero = #[]) := by
  intro h
  have : decZero.size = 88 := by kernel_rfl
  rw [h] at this
  simp at this

theorem cell_of {w : World} {b : Nat} {c : Array Value} {t : TypeId} {f : Nat × Nat} (h : w.heap[b]? = some (.cells c t f)) (o : Nat) : w.cell? ⟨b, o, none⟩ = c[o]? := by
  simp [World.cell?, h]
theorem unfrozen_of {w : World} {b : Nat} {c : Array Value} {t : TypeId} (h : w.heap[b]? = some (.cells c t (0, 0))) (o : Nat) : w.frozen? ⟨b, o, none⟩ = false := by
  simp [World.frozen?, h]
theorem lt_of_block {w : World} {b : Nat} {o : Obj} (h : w.heap[b]? = some o) : b < w.heap.size := (Array.getElem?_eq_some_iff.1 h).1

/-- Block D is a Decoder: its bytes are the slice a of n; its own reader stands at k; a Bound holds it (bd) to lf bytes more. -/
def Dec (w : World) (D : Nat) (a : Option Addr) (n : Nat) (k : Nat) (bd : Bool) (lf : Int) : Prop :=
  ∃ C : Array Value, w.heap[D]? = some (.cells C 47 (0, 0)) ∧ C[0]? = some (.slice a n n) ∧ C[1]? = some (.pointer (some ⟨D, 0, none⟩)) ∧ C[2]? = some (.int .i64 k) ∧ C[86]? = some (.bool bd) ∧ C[87]? = some (.int .i64 lf)

/-- The cells of the bytes zs. -/
def row (zs : List Int) : Array Value := (zs.map (Value.int .u8)).toArray
theorem row_get (l : List Int) (k : Nat) (h : k < l.length) : (row l)[k]? = some (.int .u8 (l.getD k 0)) := by
  simp [row, h, List.getD]


/-- w' is w with new blocks, and with writes to block D alone. -/
structure Only (D : Nat) (w w' : World) : Prop where
  os : w'.os = w.os
  tape : w'.tape = w.tape
  output : w'.output = w.output
  size : w.heap.size ≤ w'.heap.size
  others : ∀ b, b < w.heap.size → b ≠ D → w'.heap[b]? = w.heap[b]?

theorem Only.refl (D : Nat) (w : World) : Only D w w := ⟨rfl, rfl, rfl, Nat.le_refl _, fun _ _ _ => rfl⟩
theorem Only.trans {D : Nat} {a b c : World} (h : Only D a b) (k : Only D b c) : Only D a c :=
  ⟨k.os.trans h.os, k.tape.trans h.tape, k.output.trans h.output, Nat.le_trans h.size k.size, fun i hi hD => (k.others i (Nat.lt_of_lt_of_le hi h.size) hD).trans (h.others i hi hD)⟩
theorem Only.drew {D : Nat} {a b : World} (h : Only D a b) (nq : Nat) : Only D a (b.drewN nq) := ⟨h.os, h.tape, h.output, h.size, h.others⟩
theorem Only.set {D : Nat} {a b : World} (h : Only D a b) (o : Nat) (v : Value) : Only D a (b.setCell ⟨D, o, none⟩ v) :=
  ⟨h.os, h.tape, h.output, by simpa [World.setCell] using h.size, fun i hi hD => (Below.heap_setCell _ _ _ _ hD).trans (h.others i hi hD)⟩
theorem Only.alloc {D : Nat} {a b : World} (h : Only D a b) (o : Obj) : Only D a (b.alloc o) :=
  ⟨h.os, h.tape, h.output, Nat.le_trans h.size (by simp), fun i hi hD => (Below.heap_alloc _ _ _ (Nat.lt_of_lt_of_le hi h.size)).trans (h.others i hi hD)⟩
theorem Only.kept {D : Nat} {w w' : World} (h : Only D w w') {b : Nat} {o : Obj} (hb : w.heap[b]? = some o) (hne : b ≠ D) : w'.heap[b]? = some o := by
  rw [h.others b (lt_of_block hb) hne, hb]
theorem Only.below {D B : Nat} {w0 w w' : World} (h : Only D w w') (hb : Below B w0 w) (hD : B ≤ D) (hB : B ≤ w.heap.size) : Below B w0 w' :=
  hb.trans ⟨h.os, h.tape, h.output, h.size, fun i hi => h.others i (by omega) (by omega)⟩

/-- A cell of the Decoder written. -/
theorem set_block {w : World} {D : Nat} {C : Array Value} {t : TypeId} (h : w.heap[D]? = some (.cells C t (0, 0))) (o : Nat) (v : Value) : (w.setCell ⟨D, o, none⟩ v).heap[D]? = some (.cells (C.setIfInBounds o v) t (0, 0)) := by
  simp only [World.setCell, Array.getElem?_modify, h]
  simp
theorem get_set {C : Array Value} {i j : Nat} {u v : Value} (h : C[i]? = some u) : (C.setIfInBounds j v)[i]? = some (if j = i then v else u) := by
  have hi := (Array.getElem?_eq_some_iff.1 h).1
  rw [Array.getElem?_setIfInBounds]
  by_cases e : j = i
  · subst e; simp [hi]
  · simp [e, h]

theorem Dec.drew {w : World} {D : Nat} {a : Option Addr} {n k : Nat} {bd : Bool} {lf : Int} (h : Dec w D a n k bd lf) (nq : Nat) : Dec (w.drewN nq) D a n k bd lf := h
theorem Dec.setOff {w : World} {D : Nat} {a : Option Addr} {n k : Nat} {bd : Bool} {lf : Int} (h : Dec w D a n k bd lf) (k' : Nat) : Dec (w.setCell ⟨D, 2, none⟩ (.int .i64 k')) D a n k' bd lf := by
  obtain ⟨C, h0, h1, h2, h3, h4, h5⟩ := h
  exact ⟨_, set_block h0 _ _, by rw [get_set h1]; rfl, by rw [get_set h2]; rfl, by rw [get_set h3]; rfl, by rw [get_set h4]; rfl, by rw [get_set h5]; rfl⟩
theorem Dec.setLeft {w : World} {D : Nat} {a : Option Addr} {n k : Nat} {bd : Bool} {lf : Int} (h : Dec w D a n k bd lf) (lf' : Int) : Dec (w.setCell ⟨D, 87, none⟩ (.int .i64 lf')) D a n k bd lf' := by
  obtain ⟨C, h0, h1, h2, h3, h4, h5⟩ := h
  exact ⟨_, set_block h0 _ _, by rw [get_set h1]; rfl, by rw [get_set h2]; rfl, by rw [get_set h3]; rfl, by rw [get_set h4]; rfl, by rw [get_set h5]; rfl⟩
theorem Dec.setBounded {w : World} {D : Nat} {a : Option Addr} {n k : Nat} {bd : Bool} {lf : Int} (h : Dec w D a n k bd lf) (bd' : Bool) : Dec (w.setCell ⟨D, 86, none⟩ (.bool bd')) D a n k bd' lf := by
  obtain ⟨C, h0, h1, h2, h3, h4, h5⟩ := h
  exact ⟨_, set_block h0 _ _, by rw [get_set h1]; rfl, by rw [get_set h2]; rfl, by rw [get_set h3]; rfl, by rw [get_set h4]; rfl, by rw [get_set h5]; rfl⟩
theorem Dec.kept {w w' : World} {D E : Nat} {a : Option Addr} {n k : Nat} {bd : Bool} {lf : Int} (h : Dec w D a n k bd lf) (ho : Only E w w') (hne : D ≠ E) : Dec w' D a n k bd lf := by
  obtain ⟨C, h0, r⟩ := h
  exact ⟨C, ho.kept h0 hne, r⟩

set_option maxRecDepth 100000 in
set_option maxHeartbeats 1000000 in
theorem rb_free (D g n k : Nat) (x : Int) (lf : Int) (w : World) (hk : k < n) (hn : n ≤ 1048576)
    (c0 : w.cell? ⟨D, 0, none⟩ = some (.slice (some ⟨g, 0, none⟩) n n)) (c1 : w.cell? ⟨D, 1, none⟩ = some (.pointer (some ⟨D, 0, none⟩))) (c2 : w.cell? ⟨D, 2, none⟩ = some (.int .i64 k)) (c86 : w.cell? ⟨D, 86, none⟩ = some (.bool false)) (c87 : w.cell? ⟨D, 87, none⟩ = some (.int .i64 lf))
    (f2 : w.frozen? ⟨D, 2, none⟩ = false) (hgD : g ≠ D) (cg : w.cell? ⟨g, k, none⟩ = some (.int .u8 x)) :
    Calls Tryd.prog 18 #[.pointer (some ⟨D, 1, none⟩)] w fun e w' => e = .returned (.tuple #[.int .u8 x, .nilIface]) ∧ ∃ nq, w' = (w.drewN nq).setCell ⟨D, 2, none⟩ (.int .i64 ((k : Int) + 1)) := by
  have hk2 : (k : Int) ≤ (n : Int) := by omega
  go_enter Tryd.func18, Tryd.ntmps18
  go_wp2
  go_quiet (fail)
  go_wp2
  go_end0
  go_wp2
  go_ret2
  exact ⟨rfl, nq, rfl⟩

set_option maxRecDepth 100000 in
set_option maxHeartbeats 1000000 in
theorem rb_bound (D g n k : Nat) (x : Int) (lf : Int) (w : World) (hk : k < n) (hn : n ≤ 1048576) (hl : 1 ≤ lf) (hl2 : lf ≤ 9223372036854775807)
    (c0 : w.cell? ⟨D, 0, none⟩ = some (.slice (some ⟨g, 0, none⟩) n n)) (c1 : w.cell? ⟨D, 1, none⟩ = some (.pointer (some ⟨D, 0, none⟩))) (c2 : w.cell? ⟨D, 2, none⟩ = some (.int .i64 k)) (c86 : w.cell? ⟨D, 86, none⟩ = some (.bool true)) (c87 : w.cell? ⟨D, 87, none⟩ = some (.int .i64 lf))
    (f2 : w.frozen? ⟨D, 2, none⟩ = false) (f87 : w.frozen? ⟨D, 87, none⟩ = false) (hgD : g ≠ D) (cg : w.cell? ⟨g, k, none⟩ = some (.int .u8 x)) :
    Calls Tryd.prog 18 #[.pointer (some ⟨D, 1, none⟩)] w fun e w' => e = .returned (.tuple #[.int .u8 x, .nilIface]) ∧ ∃ nq, w' = ((w.drewN nq).setCell ⟨D, 2, none⟩ (.int .i64 ((k : Int) + 1))).setCell ⟨D, 87, none⟩ (.int .i64 (lf - 1)) := by
  have hk2 : (k : Int) ≤ (n : Int) := by omega
  go_enter Tryd.func18, Tryd.ntmps18
  go_wp2
  go_quiet (fail)
  go_wp2
  go_end0
  go_wp2
  go_ret2
  exact ⟨rfl, nq, rfl⟩

set_option maxRecDepth 100000 in
set_option maxHeartbeats 1000000 in
/-- Nothing is left: the bytes are a nil slice. -/
theorem rb_nil (D : Nat) (u : TypeId) (x : Value) (w : World)
    (c0 : w.cell? ⟨D, 0, none⟩ = some (.slice none 0 0)) (c1 : w.cell? ⟨D, 1, none⟩ = some (.pointer (some ⟨D, 0, none⟩))) (c2 : w.cell? ⟨D, 2, none⟩ = some (.int .i64 0)) (ce : w.cell? ⟨0, 0, none⟩ = some (.iface u x)) :
    Calls Tryd.prog 18 #[.pointer (some ⟨D, 1, none⟩)] w fun e w' => e = .returned (.tuple #[.int .u8 0, .iface u x]) ∧ ∃ nq, w' = w.drewN nq := by
  go_enter Tryd.func18, Tryd.ntmps18
  go_wp2
  go_quiet (fail)
  go_wp2
  go_quiet (fail)
  go_wp2
  go_ret2
  exact ⟨rfl, _, rfl⟩

set_option maxRecDepth 100000 in
set_option maxHeartbeats 1000000 in
/-- Nothing is left: the reader stands at the end. -/
theorem rb_end (D g n : Nat) (u : TypeId) (x : Value) (w : World) (hn : n ≤ 1048576)
    (c0 : w.cell? ⟨D, 0, none⟩ = some (.slice (some ⟨g, 0, none⟩) n n)) (c1 : w.cell? ⟨D, 1, none⟩ = some (.pointer (some ⟨D, 0, none⟩))) (c2 : w.cell? ⟨D, 2, none⟩ = some (.int .i64 n)) (ce : w.cell? ⟨0, 0, none⟩ = some (.iface u x)) :
    Calls Tryd.prog 18 #[.pointer (some ⟨D, 1, none⟩)] w fun e w' => e = .returned (.tuple #[.int .u8 0, .iface u x]) ∧ ∃ nq, w' = w.drewN nq := by
  go_enter Tryd.func18, Tryd.ntmps18
  go_wp2
  go_quiet (fail)
  go_wp2
  go_quiet (fail)
  go_wp2
  go_ret2
  exact ⟨rfl, _, rfl⟩

set_option maxRecDepth 100000 in
set_option maxHeartbeats 1000000 in
/-- A Bound holds the reader, and it has read its fill. -/
theorem rb_held (D g n k : Nat) (lf : Int) (u : TypeId) (x : Value) (w : World) (hk : k < n) (hn : n ≤ 1048576) (hl : lf < 1)
    (c0 : w.cell? ⟨D, 0, none⟩ = some (.slice (some ⟨g, 0, none⟩) n n)) (c1 : w.cell? ⟨D, 1, none⟩ = some (.pointer (some ⟨D, 0, none⟩))) (c2 : w.cell? ⟨D, 2, none⟩ = some (.int .i64 k)) (c86 : w.cell? ⟨D, 86, none⟩ = some (.bool true)) (c87 : w.cell? ⟨D, 87, none⟩ = some (.int .i64 lf)) (ce : w.cell? ⟨0, 0, none⟩ = some (.iface u x)) :
    Calls Tryd.prog 18 #[.pointer (some ⟨D, 1, none⟩)] w fun e w' => e = .returned (.tuple #[.int .u8 0, .iface u x]) ∧ ∃ nq, w' = w.drewN nq := by
  have hk2 : (k : Int) ≤ (n : Int) := by omega
  go_enter Tryd.func18, Tryd.ntmps18
  go_wp2
  go_quiet (fail)
  go_wp2
  go_quiet (fail)
  go_wp2
  go_ret2
  exact ⟨rfl, _, rfl⟩
end Go.Proofs.Qxb6608773aDoor.Hess
