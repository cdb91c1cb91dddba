/-
  The contracts of reading, Bound and Lift over ONE word for the world between two calls ('St'); the variable that keeps a Bound ('Keep').
-/
import Derived.Test.Qxb6608773aDoorLaid
import Derived.Laws.Cover1
namespace Go.Proofs.Qxb6608773aDoor.Hess
open Go.ChangeShapes Go.WideShapes Go.ChangeAt Go.RowKit
set_option linter.unusedVariables false

/-- The world w, grown out of w0: block D is the Decoder, its own reader at k, held (bd) to lf bytes more; both copies of the bytes and the error stand. -/
structure St (w0 w : World) (D : Nat) (ab a : Option Addr) (n : Nat) (zs : List Int) (u : TypeId) (x : Value) (k : Nat) (bd : Bool) (lf : Int) : Prop where
  dec : Dec w D a n k bd lf
  bytes : Bytes w D a n zs
  bytes2 : Bytes w D ab n zs
  eof : Eof w u x
  ne : 0 ≠ D
  below : Below w0.heap.size w0 w
  le : w0.heap.size ≤ D
  lt : w0.heap.size ≤ w.heap.size

theorem St.next {w0 w w' : World} {D : Nat} {ab a : Option Addr} {n : Nat} {zs : List Int} {u : TypeId} {x : Value} {k k' : Nat} {bd bd' : Bool} {lf lf' : Int} (s : St w0 w D ab a n zs u x k bd lf) (d : Dec w' D a n k' bd' lf') (o : Only D w w') : St w0 w' D ab a n zs u x k' bd' lf' :=
  ⟨d, s.bytes.kept o, s.bytes2.kept o, s.eof.kept o s.ne, s.ne, o.below s.below s.le s.lt, s.le, Nat.le_trans s.lt o.size⟩

theorem St.of_laid {w0 w : World} {D : Nat} {ab a : Option Addr} {n : Nat} {zs : List Int} {u : TypeId} {x : Value} (l : Laid w0 w D ab a n zs u x) : St w0 w D ab a n zs u x 0 false 0 :=
  ⟨l.dec, l.bytes, l.bytes2, l.eof, l.ne, l.below, l.le, l.lt⟩

theorem st_read (D n k0 : Nat) (a ab : Option Addr) (bd : Bool) (lf : Int) (zs : List Int) (u : TypeId) (x : Value) (k : Int) (w0 w : World) (s : St w0 w D ab a n zs u x k0 bd lf) (hn : n ≤ 1048576) (hl : lf ≤ 9223372036854775807)
    (hk0 : k0 ≤ n) (hlo : -9223372036854775808 ≤ lf) (T : Nat) (hT : T = min k.toNat (room n k0 bd lf)) :
    Calls Tryd.prog 11 #[.pointer (some ⟨D, 1, none⟩), .slice ab n n, .int .i64 k0, .int .i64 k] w fun e w' => e = .returned (.tuple #[.int .i64 T, .bool true]) ∧ Hid (St w0 w' D ab a n zs u x (k0 + T) bd (aft bd lf T)) ∧ Hid (Only D w w') :=
  (read_up D n k0 a ab bd lf zs u x k w s.dec s.bytes s.bytes2 hn hl hk0 s.eof s.ne hlo T hT).mono fun e w' ⟨he, hd, ho⟩ => ⟨he, s.next hd.out ho.out, ho⟩

theorem st_bound (D n k : Nat) (a ab : Option Addr) (bd : Bool) (lf q : Int) (zs : List Int) (u : TypeId) (x : Value) (w0 w : World) (s : St w0 w D ab a n zs u x k bd lf) (hlf : bd = true → 0 ≤ lf) (Q : Int) (hQ : hold bd lf q = Q) :
    Calls Tryd.prog 14 #[.pointer (some ⟨D, 1, none⟩), .int .i64 q] w fun e w' => e = .returned (.agg #[.pointer (some ⟨D, 0, none⟩), .int .i64 lf, .int .i64 Q, .bool bd]) ∧ Hid (St w0 w' D ab a n zs u x k true Q) ∧ Hid (Only D w w') := by
  subst hQ
  exact (bound_any D n k a bd lf q w s.dec hlf).mono fun e w' ⟨he, hd, ho⟩ => ⟨he, s.next hd.out ho.out, ho⟩

theorem st_lift (D n k : Nat) (a ab : Option Addr) (ou nn lf : Int) (ob bd : Bool) (zs : List Int) (u : TypeId) (x : Value) (w0 w : World) (s : St w0 w D ab a n zs u x k bd lf)
   (h1 : 0 ≤ nn - lf) (h2 : nn - lf ≤ 9223372036854775807) (h3 : -9223372036854775808 ≤ ou - (nn - lf)) (h4 : ou - (nn - lf) ≤ 9223372036854775807) (R : Int) (hR : ou - (nn - lf) = R) :
    Calls Tryd.prog 16 #[.agg #[.pointer (some ⟨D, 0, none⟩), .int .i64 ou, .int .i64 nn, .bool ob]] w fun e w' => e = .returned (.tuple #[]) ∧ Hid (St w0 w' D ab a n zs u x k ob R) ∧ Hid (Only D w w') := by
  subst hR
  exact (lift_any D n k a ou nn lf ob bd w s.dec h1 h2 h3 h4).mono fun e w' ⟨he, hd, ho⟩ => ⟨he, s.next hd.out ho.out, ho⟩

/-- A Bound's variable at g: (d, outer, n, outerBounded). -/
structure Keep (w : World) (D g : Nat) (ou nn : Int) (ob : Bool) : Prop where
  ne : g ≠ D
  block : w.heap[g]? = some (.cells #[.pointer (some ⟨D, 0, none⟩), .int .i64 ou, .int .i64 nn, .bool ob] 34 (0, 0))

theorem Keep.kept {w w' : World} {D g : Nat} {ou nn : Int} {ob : Bool} (h : Keep w D g ou nn ob) (o : Only D w w') : Keep w' D g ou nn ob := ⟨h.ne, o.kept h.block h.ne⟩

/-- 'inner := r.Bound(n)': the variable's block is laid behind the call. -/
theorem st_var {w0 w : World} {D : Nat} {ab a : Option Addr} {n : Nat} {zs : List Int} {u : TypeId} {x : Value} {k : Nat} {bd : Bool} {lf : Int} (s : St w0 w D ab a n zs u x k bd lf) (ou nn : Int) (ob : Bool) :
    St w0 (w.alloc (.cells #[.pointer (some ⟨D, 0, none⟩), .int .i64 ou, .int .i64 nn, .bool ob] 34)) D ab a n zs u x k bd lf ∧ Only D w (w.alloc (.cells #[.pointer (some ⟨D, 0, none⟩), .int .i64 ou, .int .i64 nn, .bool ob] 34)) ∧
      Keep (w.alloc (.cells #[.pointer (some ⟨D, 0, none⟩), .int .i64 ou, .int .i64 nn, .bool ob] 34)) D w.heap.size ou nn ob := by
  have hD : D < w.heap.size := by obtain ⟨C, h0, _⟩ := s.dec; exact lt_of_block h0
  exact ⟨s.next (s.dec.alloc _) ((Only.refl D w).alloc _), (Only.refl D w).alloc _, by omega, (MapKept.heap_alloc w _).1⟩

theorem Keep.cell0 {w : World} {D g : Nat} {ou nn : Int} {ob : Bool} (h : Keep w D g ou nn ob) : w.cell? ⟨g, 0, none⟩ = some (.pointer (some ⟨D, 0, none⟩)) := by rw [cell_of h.block]; rfl
theorem Keep.cell1 {w : World} {D g : Nat} {ou nn : Int} {ob : Bool} (h : Keep w D g ou nn ob) : w.cell? ⟨g, 1, none⟩ = some (.int .i64 ou) := by rw [cell_of h.block]; rfl
theorem Keep.cell2 {w : World} {D g : Nat} {ou nn : Int} {ob : Bool} (h : Keep w D g ou nn ob) : w.cell? ⟨g, 2, none⟩ = some (.int .i64 nn) := by rw [cell_of h.block]; rfl
theorem Keep.cell3 {w : World} {D g : Nat} {ou nn : Int} {ob : Bool} (h : Keep w D g ou nn ob) : w.cell? ⟨g, 3, none⟩ = some (.bool ob) := by rw [cell_of h.block]; rfl

theorem room_held (n k : Nat) (lf : Int) : room n k true lf = min lf.toNat (n - k) := by simp [room]
theorem room_free (n k : Nat) (lf : Int) : room n k false lf = n - k := by simp [room]
theorem aft_held (lf : Int) (c : Nat) : aft true lf c = lf - c := by simp [aft]
theorem aft_free (lf : Int) (c : Nat) : aft false lf c = lf := by simp [aft]
theorem hold_free (lf q : Int) : hold false lf q = max q 0 := by simp [hold]
theorem hold_held (lf q : Int) : hold true lf q = min (max q 0) lf := by simp [hold]
end Go.Proofs.Qxb6608773aDoor.Hess
