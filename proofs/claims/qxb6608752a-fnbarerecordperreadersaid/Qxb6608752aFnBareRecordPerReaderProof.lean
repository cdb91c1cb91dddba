/-
  'Rows.FnBareRecordPerReaderSaid' PROVED. The frame (from 'lifted' on) is the seat's shell, written by program; the walk is this seat's own.
  The walk: ZZnewReader, bareRecord (asked for the first time: 'Made'; asked again: the same world), ZZbareRecord, then the law.
-/
import Derived.Test.Qxb6608752aRows
import Derived.WalkKit
import Derived.ProofKit
import Derived.OpenShut
import Derived.ShutString
import Derived.StillTactics
import Derived.Laws.Pointers
import Derived.LaidEql
import Derived.Laws.Cover3
namespace Go.Proofs.Qxb6608752a.fnBareRecordPerReader
open Go.ChangeShapes Go.WideShapes Go.ChangeAt Go.RowKit Go.MapKept
open Go.ChangeMaps (setBlock open_string shut_string)
set_option linter.unusedVariables false      -- a walk need not use every 'w<i>' (that an integer argument fits its kind)

theorem own : ownKnob Try.prog.godebug = none := by kernel_rfl

theorem look_none (p : Addr) (w : World) : (Instr.lookup 69 (.map none) (.pointer (some p)) true).run Try.prog w = .ok (.tuple #[.nilIface, .bool false]) w := by
  kernel_rfl

theorem size44 : (Try.prog.info? 44).map (fun i => i.size) = some 4 := by kernel_rfl
theorem size51 : (Try.prog.info? 51).map (fun i => i.size) = some 2 := by kernel_rfl

theorem eqIn_ptr_same (d : Nat) {tp te : TypeId} {n : Nat} (a : Addr) (w : World)
    (hp : Try.prog.underlying tp = some (.pointer te)) (hte : (Try.prog.info? te).map (fun i => i.size) = some (n + 1)) :
    (Op.equalIn (d + 1) tp (.pointer (some a)) (.pointer (some a))).run Try.prog w = .ok true w := by
  obtain ⟨j, hj, hs⟩ := Option.map_eq_some_iff.1 hte
  simp [Op.equalIn, run_underlying hp, sizeOf, typeInfo, hj, run_sameAddr_same]

theorem eqIn_ptr_other (d : Nat) {tp te : TypeId} {n : Nat} {a b : Addr} {ca cb : Array Value} {ta tb : TypeId} (w : World)
    (hp : Try.prog.underlying tp = some (.pointer te)) (hte : (Try.prog.info? te).map (fun i => i.size) = some (n + 1))
    (hne : a ≠ b) (ha : w.heap[a.block]? = some (.cells ca ta (0, 0))) (hb : w.heap[b.block]? = some (.cells cb tb (0, 0))) :
    (Op.equalIn (d + 1) tp (.pointer (some a)) (.pointer (some b))).run Try.prog w = .ok false w := by
  obtain ⟨j, hj, hs⟩ := Option.map_eq_some_iff.1 hte
  simp [Op.equalIn, run_underlying hp, sizeOf, typeInfo, hj, hs, run_sameAddr_other w hne ha hb]

theorem checkPtr (em : Bool) (n : Nat) (p : Option Addr) (w : World) : (Instr.checkKey em (n + 1) 40 (.pointer p)).run Try.prog w = .ok () w := by
  unfold Instr.checkKey
  simp [run_underlying Try.underlying40]

theorem look_one (b c : Nat) (p : Addr) (v : Value) (w : World) (h : w.heap[b]? = some (.map #[⟨.pointer (some p), v, 0⟩] c)) :
   (Instr.lookup 69 (.map (some b)) (.pointer (some p)) true).run Try.prog w = .ok (.tuple #[v, .bool true]) w := by
  unfold Instr.lookup
  simp [run_underlying Try.underlying69, Go.MapKept.run_getObj_map h, checkPtr _ 9999, Instr.findKey, run_underlying Try.underlying40, Instr.findNow, Instr.sameNow, Instr.findAsking, Op.equal, Op.maxDepth, eqIn_ptr_same 9999 p w Try.underlying40 size44]

theorem upd_new (b : Nat) (p : Addr) (v : Value) (w : World) (h : w.heap[b]? = some (.map #[] 0)) :
   (Instr.mapUpdate 69 (.map (some b)) (.pointer (some p)) v).run Try.prog w = .ok () (setBlock w b (.map #[⟨.pointer (some p), v, 0⟩] 1)) := by
  unfold Instr.mapUpdate
  simp [run_underlying Try.underlying69, Go.MapKept.run_getObj_map h, checkPtr _ 9999, Instr.findKey, run_underlying Try.underlying40, Instr.findNow, run_setObj_map _ h, setBlock]

theorem eql47_same (p : Addr) (w : World) : (binOp .eql 47 (.pointer (some p)) (.pointer (some p))).run Try.prog w = .ok (.bool true) w := by
  simp only [binOp]
  simp [Op.equal, Op.maxDepth, eqIn_ptr_same 9999 p w Try.underlying47 size51]
theorem eql40_same (p : Addr) (w : World) : (binOp .eql 40 (.pointer (some p)) (.pointer (some p))).run Try.prog w = .ok (.bool true) w := by
  simp only [binOp]
  simp [Op.equal, Op.maxDepth, eqIn_ptr_same 9999 p w Try.underlying40 size44]
theorem neq47_other {p q : Addr} {ca cb : Array Value} {ta tb : TypeId} (w : World) (hne : p ≠ q) (ha : w.heap[p.block]? = some (.cells ca ta (0, 0))) (hb : w.heap[q.block]? = some (.cells cb tb (0, 0))) :
    (binOp .neq 47 (.pointer (some p)) (.pointer (some q))).run Try.prog w = .ok (.bool true) w := by
  simp only [binOp]
  simp [Op.equal, Op.maxDepth, eqIn_ptr_other 9999 w Try.underlying47 size51 hne ha hb]


theorem eql69 (m : Option Nat) (w : World) : (binOp .eql 69 (.map m) (.map none)).run Try.prog w = .ok (.bool m.isNone) w := by
  simp only [binOp]
  simp [run_equal_map_nil w 69 40 74 m Try.underlying69]


/-- The reader at block r has been asked for the record q for the first time. -/
structure Made (r : Nat) (q : Addr) (w w' : World) : Prop where
  os : w'.os = w.os
  output : w'.output = w.output
  size : w'.heap.size = w.heap.size + 2
  bare : w'.cell? ⟨r, 25, none⟩ = some (.map (some w.heap.size))
  ent : w'.heap[w.heap.size]? = some (.map #[⟨.pointer (some q), .iface 47 (.pointer (some ⟨w.heap.size + 1, 0, none⟩)), 0⟩] 1)
  cells : w'.heap[w.heap.size + 1]? = some (.cells #[.pointer (some q), .slice none 0 0] 51 (0, 0))
  others : ∀ b, b < w.heap.size → b ≠ r → w'.heap[b]? = w.heap[b]?
  frozen : ∀ a, w'.frozen? a = w.frozen? a

theorem made_mk (r : Nat) (q : Addr) (w : World) (hr : r < w.heap.size) (hm : w.cell? ⟨r, 25, none⟩ = some (.map none)) :
    Made r q w (setBlock (((w.setCell ⟨r, 25, none⟩ (.map (some w.heap.size))).alloc (.map #[] 0)).alloc (.cells #[.pointer (some q), .slice none 0 0] 51)) w.heap.size (.map #[⟨.pointer (some q), .iface 47 (.pointer (some ⟨w.heap.size + 1, 0, none⟩)), 0⟩] 1)) := by
  have hs : (w.setCell ⟨r, 25, none⟩ (.map (some w.heap.size))).heap.size = w.heap.size := by simp [World.setCell]
  have e : ∀ o1 o2 o3 : Obj, (setBlock (((w.setCell ⟨r, 25, none⟩ (.map (some w.heap.size))).alloc o1).alloc o2) w.heap.size o3).heap = (((w.setCell ⟨r, 25, none⟩ (.map (some w.heap.size))).heap.push o1).push o2).setIfInBounds w.heap.size o3 := fun _ _ _ => rfl
  have old : ∀ b, b < w.heap.size → (setBlock (((w.setCell ⟨r, 25, none⟩ (.map (some w.heap.size))).alloc (.map #[] 0)).alloc (.cells #[.pointer (some q), .slice none 0 0] 51)) w.heap.size (.map #[⟨.pointer (some q), .iface 47 (.pointer (some ⟨w.heap.size + 1, 0, none⟩)), 0⟩] 1)).heap[b]? = (w.setCell ⟨r, 25, none⟩ (.map (some w.heap.size))).heap[b]? := by
    intro b hb
    rw [e, Array.getElem?_setIfInBounds, if_neg (by omega), Array.getElem?_push, if_neg (by simp [hs]; omega), Array.getElem?_push, if_neg (by rw [hs]; omega)]
  refine ⟨rfl, rfl, by rw [e]; simp [hs], ?_, ?_, ?_, ?_, ?_⟩
  · rw [World.cell?_of_block (w := w.setCell ⟨r, 25, none⟩ (.map (some w.heap.size))) (old r hr)]
    exact World.cell?_setCell_same _ _ _ (by rw [hm])
  · rw [e, Array.getElem?_setIfInBounds, if_pos rfl, if_pos (by simp only [Array.size_push, hs]; omega)]
  · rw [e, Array.getElem?_setIfInBounds, if_neg (by omega), Array.getElem?_push, if_pos (by simp [hs])]
  · intro b hb hbr
    rw [old b hb, Below.heap_setCell _ _ _ _ (by simpa using hbr)]
  · intro a
    by_cases ha : a.block < w.heap.size
    · rw [World.frozen?_of_block (w := w.setCell ⟨r, 25, none⟩ (.map (some w.heap.size))) (old a.block ha), World.frozen?_setCell]
    · have h0 : w.frozen? a = false := by simp [World.frozen?, Array.getElem?_eq_none (Nat.not_lt.1 ha)]
      rw [h0]
      by_cases h1 : a.block = w.heap.size
      · have : (setBlock (((w.setCell ⟨r, 25, none⟩ (.map (some w.heap.size))).alloc (.map #[] 0)).alloc (.cells #[.pointer (some q), .slice none 0 0] 51)) w.heap.size (.map #[⟨.pointer (some q), .iface 47 (.pointer (some ⟨w.heap.size + 1, 0, none⟩)), 0⟩] 1)).heap[a.block]? = some (.map #[⟨.pointer (some q), .iface 47 (.pointer (some ⟨w.heap.size + 1, 0, none⟩)), 0⟩] 1) := by
          rw [h1, e, Array.getElem?_setIfInBounds, if_pos rfl, if_pos (by simp only [Array.size_push, hs]; omega)]
        simp [World.frozen?, this]
      · rw [World.frozen?, e, Array.getElem?_setIfInBounds, if_neg (by omega), Array.getElem?_push]
        by_cases h2 : a.block = w.heap.size + 1
        · rw [if_pos (by simp [hs, h2])]; simp
        · rw [if_neg (by simp [hs]; omega), Array.getElem?_push, if_neg (by rw [hs]; omega), Array.getElem?_eq_none (by rw [hs]; omega)]

theorem bare_fresh (r : Nat) (q : Addr) (w : World) (hr : r < w.heap.size) (hm : w.cell? ⟨r, 25, none⟩ = some (.map none)) (hf : w.frozen? ⟨r, 25, none⟩ = false) :
    Calls Try.prog 25 #[.pointer (some ⟨r, 0, none⟩), .pointer (some q)] w fun e w' => e = .returned (.iface 47 (.pointer (some ⟨w.heap.size + 1, 0, none⟩))) ∧ Made r q w w' := by
  have l0 := look_none q w
  have e0 := eql69 none w
  have hmm := @run_makeMap Try.prog
  have u0 := upd_new w.heap.size q (.iface 47 (.pointer (some ⟨w.heap.size + 1, 0, none⟩))) (((w.setCell { block := r, off := 25 } (Value.map (some w.heap.size))).alloc (Obj.map #[] 0)).alloc
          (Obj.cells #[Value.pointer (some q), Value.slice none 0 0] 51)) (by
    show (((w.setCell _ _).heap.push _).push _)[_]? = _
    have hs : (w.setCell ⟨r, 25, none⟩ (.map (some w.heap.size))).heap.size = w.heap.size := by simp [World.setCell]
    rw [Array.getElem?_push, if_neg (by simp [hs]), Array.getElem?_push, if_pos (by rw [hs])])
  have M := made_mk r q w hr hm
  have HM : Hid (Made r q w (setBlock (((w.setCell ⟨r, 25, none⟩ (.map (some w.heap.size))).alloc (.map #[] 0)).alloc (.cells #[.pointer (some q), .slice none 0 0] 51)) w.heap.size (.map #[⟨.pointer (some q), .iface 47 (.pointer (some ⟨w.heap.size + 1, 0, none⟩)), 0⟩] 1))) := M
  clear M
  go_enter Try.func25, Try.ntmps25
  go_wp2
  go_ret
  exact ⟨rfl, HM.out⟩

theorem bare_again (r b c : Nat) (q : Addr) (v : Value) (w : World) (hm : w.cell? ⟨r, 25, none⟩ = some (.map (some b))) (hb : w.heap[b]? = some (.map #[⟨.pointer (some q), v, 0⟩] c)) :
    Calls Try.prog 25 #[.pointer (some ⟨r, 0, none⟩), .pointer (some q)] w fun e w' => e = .returned v ∧ w' = w := by
  have l0 := look_one b c q v w hb
  clear hb
  go_enter Try.func25, Try.ntmps25
  go_wp2
  go_ret
  exact ⟨rfl, rfl⟩

theorem asserted (v : Value) (w : World) : (Instr.typeAssert (.iface 47 v) 74 47 true).run Try.prog w = .ok (.tuple #[v, .bool true]) w := by kernel_rfl

theorem zz_fresh (r : Nat) (q : Addr) (w : World) (hr : r < w.heap.size) (hm : w.cell? ⟨r, 25, none⟩ = some (.map none)) (hf : w.frozen? ⟨r, 25, none⟩ = false) :
    Calls Try.prog 22 #[.pointer (some ⟨r, 0, none⟩), .pointer (some q)] w fun e w' => e = .returned (.pointer (some ⟨w.heap.size + 1, 0, none⟩)) ∧ Made r q w w' := by
  have ha := asserted
  go_enter Try.func22, Try.ntmps22
  go_wp2_with (go_at_call 25; refine (bare_fresh r q w hr hm hf).mono ?_; rintro e w' ⟨rfl, hM⟩)
  go_ret
  exact ⟨rfl, hM⟩

theorem zz_again (r b c : Nat) (q p : Addr) (w : World) (hm : w.cell? ⟨r, 25, none⟩ = some (.map (some b))) (hb : w.heap[b]? = some (.map #[⟨.pointer (some q), .iface 47 (.pointer (some p)), 0⟩] c)) :
    Calls Try.prog 22 #[.pointer (some ⟨r, 0, none⟩), .pointer (some q)] w fun e w' => e = .returned (.pointer (some p)) ∧ w' = w := by
  have ha := asserted
  go_enter Try.func22, Try.ntmps22
  go_wp2_with (go_at_call 25; refine (bare_again r b c q _ w hm hb).mono ?_; rintro e w' ⟨rfl, rfl⟩)
  go_ret
  exact ⟨rfl, rfl⟩


theorem zz_fresh' (r N : Nat) (q : Addr) (w : World) (hN : w.heap.size = N) (hr : r < N) (hm : w.cell? ⟨r, 25, none⟩ = some (.map none)) (hf : w.frozen? ⟨r, 25, none⟩ = false) :
    Calls Try.prog 22 #[.pointer (some ⟨r, 0, none⟩), .pointer (some q)] w fun e w' => e = .returned (.pointer (some ⟨N + 1, 0, none⟩)) ∧ Hid (Made r q w w') := by
  subst hN
  exact zz_fresh r q w hr hm hf

/-- What a fresh reader holds. -/
def readerCells : Array Value := #[Value.string { data := #[] }, Value.slice none 0 0, Value.int IntKind.i64 0, Value.int IntKind.i64 0,
            Value.int IntKind.i64 0, Value.nilIface, Value.int IntKind.i64 0, Value.bool false, Value.int IntKind.i64 0,
            Value.int IntKind.i64 0, Value.int IntKind.i64 0, Value.slice none 0 0, Value.slice none 0 0,
            Value.slice none 0 0, Value.int IntKind.i64 0, Value.int IntKind.i64 0, Value.slice none 0 0,
            Value.slice none 0 0, Value.slice none 0 0, Value.bool false, Value.slice none 0 0, Value.slice none 0 0,
            Value.slice none 0 0, Value.slice none 0 0, Value.map none, Value.map none]

theorem new_reader (w : World) :
    Calls Try.prog 21 #[] w fun e w' => e = .returned (.pointer (some ⟨w.heap.size, 0, none⟩)) ∧ w' = w.alloc (.cells readerCells 71) := by
  unfold readerCells
  go_enter Try.func21, Try.ntmps21
  go_wp2
  go_ret
  exact ⟨rfl, rfl⟩

theorem Made.grown {W w w' : World} {r : Nat} {q : Addr} (h : Made r q w w') (g : Grown W w) (hr : W.heap.size ≤ r) : Grown W w' := by
  obtain ⟨⟨h1, h2, h3⟩, hf, hs⟩ := g
  refine ⟨⟨h.os.trans h1, h.output.trans h2, fun i hi => ?_⟩, fun x => (h.frozen x).trans (hf x), by rw [h.size]; omega⟩
  rw [h.others i (by omega) (by omega)]
  exact h3 i hi

theorem cell_of {w : World} {b : Nat} {c : Array Value} {t : TypeId} {f : Nat × Nat} (h : w.heap[b]? = some (.cells c t f)) (o : Nat) : w.cell? ⟨b, o, none⟩ = c[o]? := by
  simp [World.cell?, h]

set_option maxHeartbeats 400000 in
theorem walk (a0 : ByteArray) (a1 : Int) (w0 : a0.size ≤ maxLen) (w1 : (Lit.int .i64 a1).wf = true) (w : World) :
    Calls Try.prog 7 #[.string a0, .int .i64 a1] w fun e w' => e = .returned (.bool true) ∧ Grown w w' := by
  unfold maxLen at w0
  by_cases hn : a0.size ≤ 1048576
  · -- the world behind the two readers
    obtain ⟨W3, hW3⟩ : ∃ W3, W3 = ((w.alloc (Obj.cells #[Value.string a0, Value.pointer none, Value.slice none 0 0, Value.int IntKind.i64 a1] 44)).alloc (.cells readerCells 71)).alloc (.cells readerCells 71) := ⟨_, rfl⟩
    have g3 : Hid (Grown w W3) := by rw [hW3]; exact (((Grown.refl _).alloc _ _).alloc _ _).alloc _ _
    have s3 : W3.heap.size = w.heap.size + 3 := by rw [hW3]; simp
    have b1 : W3.heap[w.heap.size + 1]? = some (.cells readerCells 71) := by
      rw [hW3]; show (((w.heap.push _).push _).push _)[_]? = _
      rw [Array.getElem?_push, if_neg (by simp), Array.getElem?_push, if_pos (by simp)]
    have b2 : W3.heap[w.heap.size + 2]? = some (.cells readerCells 71) := by
      rw [hW3]; show (((w.heap.push _).push _).push _)[_]? = _
      rw [Array.getElem?_push, if_pos (by simp)]
    have c1 : W3.cell? ⟨w.heap.size + 1, 25, none⟩ = some (.map none) := by rw [cell_of b1]; rfl
    have f1 : W3.frozen? ⟨w.heap.size + 1, 25, none⟩ = false := by simp [World.frozen?, b1]
    have f2 : W3.frozen? ⟨w.heap.size + 2, 25, none⟩ = false := by simp [World.frozen?, b2]
    have HW3 : Hid (W3 = ((w.alloc (Obj.cells #[Value.string a0, Value.pointer none, Value.slice none 0 0, Value.int IntKind.i64 a1] 44)).alloc (.cells readerCells 71)).alloc (.cells readerCells 71)) := hW3
    clear hW3
    go_enter Try.func7, Try.ntmps7
    go_wp2_with (first | (go_at_call 20; go_in) | (go_at_call 21; refine (new_reader _).mono ?_; rintro e w' ⟨rfl, rfl⟩))
    rw [← HW3.out]
    refine (zz_fresh' (w.heap.size + 1) (w.heap.size + 3) ⟨w.heap.size, 0, none⟩ W3 s3 (by omega) c1 f1).mono ?_
    rintro e w4 ⟨rfl, M4⟩
    have s4 : w4.heap.size = w.heap.size + 5 := by rw [M4.out.size, s3]
    have b24 : w4.heap[w.heap.size + 2]? = some (.cells readerCells 71) := by rw [M4.out.others _ (by omega) (by omega), b2]
    have c24 : w4.cell? ⟨w.heap.size + 2, 25, none⟩ = some (.map none) := by rw [cell_of b24]; rfl
    have f24 : w4.frozen? ⟨w.heap.size + 2, 25, none⟩ = false := by simp [World.frozen?, b24]
    go_wp2_with fail
    refine (zz_fresh' (w.heap.size + 2) (w.heap.size + 5) ⟨w.heap.size, 0, none⟩ w4 s4 (by omega) c24 f24).mono ?_
    rintro e w5 ⟨rfl, M5⟩
    have s5 : w5.heap.size = w.heap.size + 7 := by rw [M5.out.size, s4]
    have c15 : w5.cell? ⟨w.heap.size + 1, 25, none⟩ = some (.map (some (w.heap.size + 3))) := by
      rw [World.cell?_of_block (w := w4) (M5.out.others (w.heap.size + 1) (by omega) (by omega)), M4.out.bare, s3]
    have m5 : w5.heap[w.heap.size + 3]? = some (.map #[⟨.pointer (some ⟨w.heap.size, 0, none⟩), .iface 47 (.pointer (some ⟨w.heap.size + 4, 0, none⟩)), 0⟩] 1) := by
      have := M4.out.ent
      rw [s3] at this
      rw [M5.out.others _ (by omega) (by omega), this]
    have r4 : w5.heap[w.heap.size + 4]? = some (.cells #[.pointer (some ⟨w.heap.size, 0, none⟩), .slice none 0 0] 51 (0, 0)) := by
      have := M4.out.cells
      rw [s3] at this
      rw [M5.out.others _ (by omega) (by omega), this]
    have r6 : w5.heap[w.heap.size + 6]? = some (.cells #[.pointer (some ⟨w.heap.size, 0, none⟩), .slice none 0 0] 51 (0, 0)) := by
      have := M5.out.cells
      rw [s4] at this
      exact this
    have d40 : w5.cell? ⟨w.heap.size + 4, 0, none⟩ = some (.pointer (some ⟨w.heap.size, 0, none⟩)) := by rw [cell_of r4]; rfl
    have d41 : w5.cell? ⟨w.heap.size + 4, 1, none⟩ = some (.slice none 0 0) := by rw [cell_of r4]; rfl
    have d60 : w5.cell? ⟨w.heap.size + 6, 0, none⟩ = some (.pointer (some ⟨w.heap.size, 0, none⟩)) := by rw [cell_of r6]; rfl
    have d61 : w5.cell? ⟨w.heap.size + 6, 1, none⟩ = some (.slice none 0 0) := by rw [cell_of r6]; rfl
    have q1 := eql40_same ⟨w.heap.size, 0, none⟩ w5
    have q2 := eql47_same ⟨w.heap.size + 4, 0, none⟩ w5
    have q3 := neq47_other (p := ⟨w.heap.size + 4, 0, none⟩) (q := ⟨w.heap.size + 6, 0, none⟩) w5 (by simp) r4 r6
    have G : Hid (Grown w w5) := (M5.out.grown (M4.out.grown g3.out (by omega)) (by omega))
    go_wp2_with fail
    refine (zz_again (w.heap.size + 1) (w.heap.size + 3) 1 ⟨w.heap.size, 0, none⟩ ⟨w.heap.size + 4, 0, none⟩ w5 c15 m5).mono ?_
    rintro e w6 ⟨rfl, rfl⟩
    go_wp2
    go_ret
    exact ⟨rfl, G.out⟩
  · go_enter Try.func7, Try.ntmps7
    go_wp2
    go_ret
    exact ⟨rfl, Grown.refl _⟩

/-! ### THE ROW's STEP: WRITTEN OUT: LEAVE IT -/
set_option maxRecDepth 100000 in
theorem lifted (os : Os) (started : os.Started) (H : Type) (enc : TypeId × Value → H) :
    ReturnsInHanded {} Try.checked os 7 .any (Rows.fnBareRecordPerReaderSpec.pre6 enc Try.prog Try.f7 Rows.fnBareRecordPerReaderRow.domain false) (Rows.fnBareRecordPerReaderSpec.post enc Try.prog Try.f7 false true false false) := by
  refine returnsInHanded_of_change (C := Try.checked) own started (by kernel_rfl) Try.func7
    (ChangeSpec.witness6 (enc := enc) (C := Try.checked) false ⟨#[], #[.string ByteArray.empty, .int .i64 0], []⟩ 8 (by kernel_rfl) (by kernel_rfl) (by kernel_rfl) (by kernel_rfl)) ?_
  intro W base args ds gs before hval0 hW hcnd _
  have hval : ∀ (j : Nat) t v, Try.f7.params[j]? = some t → args[j]? = some v → Value.okWide Try.prog W .any base t v := hval0
  have hW' := hW
  obtain ⟨p, q, hA0, hV, rfl, hfz, hnd⟩ := hW
  have hA : DataW.TrodAll enc Try.prog W 0 (fun _ => true) true Try.f7.params.toList args.toList ds p := hA0
  rw [Try.params7] at hA hval
  obtain ⟨v0, vs0, d0, ds0, p0, q0, hargs, rfl, rfl, h0, r0⟩ := trodAll_cons hA
  obtain ⟨v1, vs1, d1, ds1, p1, q1, rfl, rfl, rfl, h1, r1⟩ := trodAll_cons r0
  obtain ⟨rfl, rfl, rfl⟩ := trodAll_nil r1
  obtain rfl : args = #[v0, v1] := by cases args; simp_all
  obtain ⟨rfl, rfl⟩ := trodVars_none hV
  obtain ⟨a0, rfl, rfl, rfl, w0⟩ := open_string Try.underlying9 (hval 0 9 v0 rfl rfl) h0
  obtain ⟨a1, rfl, rfl, rfl, w1⟩ := open_int Try.underlying3 (hval 1 3 v1 rfl rfl) h1
  clear hA0 hval0
  simp only [List.append_nil] at hW'
  refine (walk a0 a1 w0 w1 W).mono fun e W' ⟨he, hg⟩ => ?_
  subst he
  exact ⟨_, rfl, post_of_same (pa := []) (pv := []) hW' (fun _ _ _ => (trodAll_cons_mk (shut_bool Try.underlying4 _) trodAll_mk0)) (fun sp _ => (trodAll_cons_mk (shut_string Try.underlying9 w0) (trodAll_cons_mk (shut_int Try.underlying3 w1) trodAll_mk0))) (fun _ _ => rfl) rfl
    (hg.frame _) hg.2.1 (ok_one (by kernel_rfl) rfl (okWide_bool_mk Try.underlying4 _))⟩

theorem over : Rows.fnBareRecordPerReaderRow.holds Try.pinned (OpenSpec.ofChange Rows.fnBareRecordPerReaderSpec) :=
  OpenClaim.holds_of_wide 7 Try.f7 rfl rfl rfl rfl rfl rfl rfl ⟨rfl, rfl, rfl, rfl, rfl⟩ rfl rfl rfl rfl rfl (by kernel_rfl) Try.func7 (by kernel_rfl)
    (of_decide_eq_true (by kernel_rfl)) (by unfold Func.isWrapper; first | (rw [if_pos (by decide +kernel)]; kernel_rfl) | (rw [if_neg (by decide +kernel)]; exact ⟨rfl, rfl⟩))
    (fun os started H enc _ => lifted os started H enc)

/-- ████ THE STATEMENT ████ -/
theorem proved : Rows.FnBareRecordPerReaderSaid :=
  over
#print axioms proved
end Go.Proofs.Qxb6608752a.fnBareRecordPerReader
