/-
  The library's contracts at this dump's numbers; what a call keeps; a Writer's state.
-/
import Derived.Test.Qxb6613954aFmtRows
import Derived.Test.Qxb6613954aFmtShelf
import Derived.Lib.EndianMore
import Derived.WalkKit
import Derived.WalkSpells
import Derived.WalkLawsBesides
import Derived.Deep.DeepCutAuto
import Derived.Deep.QuietTactic
import Derived.BigQuiet
import Derived.RegionTactic
import Derived.Deep.RegionWith
namespace Go.Proofs.Qxb6613954aFmt
open Go.RowKit

theorem be_append (B n v : Nat) (hv : v < 18446744073709551616) (sv : Value) (xs : List Value) (w : World) (hown : w.ownsRow B 5 1 sv n xs) (hBw : B ≤ w.heap.size) (hlim : n + 8 ≤ 140737488355328) :
    Calls Tryf.prog 44 #[.agg #[], sv, .int .u64 (v : Int)] w fun e w' => ∃ v', e = .returned v' ∧ w'.ownsRow B 5 1 v' (n + 8) (xs ++ Lib.byteCells (Lib.beBytes 8 v)) ∧ Below B w w' :=
  Any.binary_BE_AppendUint64 Tryf.lays44 B n v hv sv xs w hown hBw hlim
theorem uv_append (B n x : Nat) (hx : x < 18446744073709551616) (sv : Value) (xs : List Value) (w : World) (hown : w.ownsRow B 5 1 sv n xs) (hBw : B ≤ w.heap.size) (hlim : n + 10 ≤ 140737488355328) :
    Calls Tryf.prog 34 #[sv, .int .u64 (x : Int)] w fun e w' => ∃ v', e = .returned v' ∧ w'.ownsRow B 5 1 v' (n + (Lib.uvarint x).length) (xs ++ Lib.byteCells (Lib.uvarint x)) ∧ Below B w w' :=
  Any.binary_AppendUvarint Tryf.lays47 B n x hx sv xs w hown hBw hlim
theorem zz_append (B n : Nat) (x : Int) (h0 : -9223372036854775808 ≤ x) (h1 : x ≤ 9223372036854775807) (sv : Value) (xs : List Value) (w : World) (hown : w.ownsRow B 5 1 sv n xs) (hBw : B ≤ w.heap.size) (hlim : n + 10 ≤ 140737488355328) :
    Calls Tryf.prog 35 #[sv, .int .i64 x] w fun e w' => ∃ v', e = .returned v' ∧ w'.ownsRow B 5 1 v' (n + (Lib.uvarint (Lib.zigzag x)).length) (xs ++ Lib.byteCells (Lib.uvarint (Lib.zigzag x))) ∧ Below B w w' :=
  Any.binary_AppendVarint Tryf.lays50 B n x h0 h1 sv xs w hown hBw hlim
theorem uv_read (g o n c : Nat) (l : List UInt8) (w : World) (hl : l.length = n) (hcell : ∀ j (hj : j < l.length), w.cell? ⟨g, o + j, none⟩ = some (.int .u8 (l[j]).toNat)) :
    Calls Tryf.prog 45 #[.slice (some ⟨g, o, none⟩) n c] w fun e w' => e = .returned (.tuple #[.int .u64 ((Lib.uvarintDec l).1 : Int), .int .i64 (Lib.uvarintDec l).2]) ∧ w' = w :=
  Any.binary_Uvarint Tryf.lays45 g o n c l w hl hcell
theorem zz_read (g o n c : Nat) (l : List UInt8) (w : World) (hl : l.length = n) (hcell : ∀ j (hj : j < l.length), w.cell? ⟨g, o + j, none⟩ = some (.int .u8 (l[j]).toNat)) :
    Calls Tryf.prog 47 #[.slice (some ⟨g, o, none⟩) n c] w fun e w' => e = .returned (.tuple #[.int .i64 (Lib.varintDec l).1, .int .i64 (Lib.varintDec l).2]) ∧ w' = w :=
  Any.binary_Varint Tryf.lays48 g o n c l w hl hcell
theorem be_read (g o n c : Nat) (b0 b1 b2 b3 b4 b5 b6 b7 : UInt8) (w : World) (hn : 8 ≤ n)
    (c0 : w.cell? ⟨g, o, none⟩ = some (.int .u8 b0.toNat)) (c1 : w.cell? ⟨g, o + 1, none⟩ = some (.int .u8 b1.toNat)) (c2 : w.cell? ⟨g, o + 2, none⟩ = some (.int .u8 b2.toNat)) (c3 : w.cell? ⟨g, o + 3, none⟩ = some (.int .u8 b3.toNat)) (c4 : w.cell? ⟨g, o + 4, none⟩ = some (.int .u8 b4.toNat)) (c5 : w.cell? ⟨g, o + 5, none⟩ = some (.int .u8 b5.toNat)) (c6 : w.cell? ⟨g, o + 6, none⟩ = some (.int .u8 b6.toNat)) (c7 : w.cell? ⟨g, o + 7, none⟩ = some (.int .u8 b7.toNat)) :
    Calls Tryf.prog 20 #[.agg #[], .slice (some ⟨g, o, none⟩) n c] w fun e w' => e = .returned (.int .u64 (Lib.beNat [b0, b1, b2, b3, b4, b5, b6, b7] : Int)) ∧ Below w.heap.size w w' :=
  Any.binary_BE_Uint64 Tryf.lays42 g o n c b0 b1 b2 b3 b4 b5 b6 b7 w hn c0 c1 c2 c3 c4 c5 c6 c7

theorem lt_of_cell {w : World} {b o : Nat} {v : Value} (h : w.cell? ⟨b, o, none⟩ = some v) : b < w.heap.size := by
  rcases Nat.lt_or_ge b w.heap.size with h' | h'
  · exact h'
  · simp [World.cell?, Array.getElem?_eq_none h'] at h

/-- Below block number N the world w' is as w was, but for block b. -/
structure Kept (b N : Nat) (w w' : World) : Prop where
  os : w'.os = w.os
  tape : w'.tape = w.tape
  output : w'.output = w.output
  size : w.heap.size ≤ w'.heap.size
  block : ∀ k, k < N → k ≠ b → w'.heap[k]? = w.heap[k]?

theorem Kept.refl (b N : Nat) (w : World) : Kept b N w w := ⟨rfl, rfl, rfl, Nat.le_refl _, fun _ _ _ => rfl⟩
theorem Kept.trans {b N : Nat} {w w1 w2 : World} (h : Kept b N w w1) (k : Kept b N w1 w2) : Kept b N w w2 :=
  ⟨k.os.trans h.os, k.tape.trans h.tape, k.output.trans h.output, Nat.le_trans h.size k.size, fun i hi hb => (k.block i hi hb).trans (h.block i hi hb)⟩
theorem Kept.mono {b N N' : Nat} {w w' : World} (h : Kept b N w w') (hN : N' ≤ N) : Kept b N' w w' := ⟨h.os, h.tape, h.output, h.size, fun k hk => h.block k (by omega)⟩
theorem Kept.ofBelow {b N : Nat} {w w' : World} (h : Below N w w') : Kept b N w w' := ⟨h.os, h.tape, h.output, h.size, fun k hk _ => h.block k hk⟩
theorem Kept.toBelow {b N : Nat} {w w' : World} (h : Kept b N w w') (hb : N ≤ b) : Below N w w' := ⟨h.os, h.tape, h.output, h.size, fun k hk => h.block k hk (by omega)⟩
theorem Kept.setCell {b N : Nat} {w w' : World} (h : Kept b N w w') {p : Addr} (hp : p.block = b ∨ N ≤ p.block) (u : Value) : Kept b N w (w'.setCell p u) :=
  h.trans ⟨rfl, rfl, rfl, by simp, fun k hk hb => Below.heap_setCell _ _ _ _ (by omega)⟩
theorem Kept.alloc {b N : Nat} {w w' : World} (h : Kept b N w w') (hN : N ≤ w'.heap.size) (o : Obj) : Kept b N w (w'.alloc o) :=
  h.trans ⟨rfl, rfl, rfl, by simp, fun k hk _ => Below.heap_alloc _ _ _ (by omega)⟩
theorem Kept.drew {b N : Nat} {w w' : World} (h : Kept b N w w') : Kept b N w w'.drew := ⟨h.os, h.tape, h.output, h.size, h.block⟩
theorem Kept.drewN {b N : Nat} {w w' : World} (h : Kept b N w w') (n : Nat) : Kept b N w (w'.drewN n) := ⟨h.os, h.tape, h.output, h.size, h.block⟩
theorem Kept.cell {b N : Nat} {w w' : World} (h : Kept b N w w') {k o : Nat} (hk : k < N) (hb : k ≠ b) : w'.cell? ⟨k, o, none⟩ = w.cell? ⟨k, o, none⟩ := World.cell?_of_block (w := w) (h.block k hk hb)
theorem Kept.frozen {b N : Nat} {w w' : World} (h : Kept b N w w') {k o : Nat} (hk : k < N) (hb : k ≠ b) : w'.frozen? ⟨k, o, none⟩ = w.frozen? ⟨k, o, none⟩ := World.frozen?_of_block (w := w) (h.block k hk hb)

theorem owns_shape {w : World} {B : Nat} {e : TypeId} {size : Nat} {sv : Value} {n : Nat} {xs : List Value} (h : w.ownsRow B e size sv n xs) : ∃ a c, sv = .slice a n c := by
  obtain ⟨h1, h2⟩ := h
  rcases h2 with ⟨rfl, rfl⟩ | ⟨g, cap, cur, rfl, _⟩
  · exact ⟨none, 0, rfl⟩
  · exact ⟨_, _, rfl⟩

/-- A Writer at block wb has written the bytes xs; its row is one of the blocks from B on. -/
structure WS (B wb : Nat) (xs : List UInt8) (w : World) : Prop where
  own : ∃ a c, w.cell? ⟨wb, 0, none⟩ = some (.slice a xs.length c) ∧ w.ownsRow B 5 1 (.slice a xs.length c) xs.length (Lib.byteCells xs)
  free : w.frozen? ⟨wb, 0, none⟩ = false
  lt : wb < B
  le : B ≤ w.heap.size

end Go.Proofs.Qxb6613954aFmt
