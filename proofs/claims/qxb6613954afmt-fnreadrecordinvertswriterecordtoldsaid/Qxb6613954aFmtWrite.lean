/-
  The contracts of writeRecord and ZZwriteRecord.
-/
import Derived.Test.Qxb6613954aFmtRecord
namespace Go.Proofs.Qxb6613954aFmt
open Go.RowKit
attribute [local go_sem] run_store_float

/-- The bytes of the keys i, i+1, .. (k of them). -/
def fFrom (F : Nat → Nat) : Nat → Nat → List UInt8
  | _, 0 => []
  | i, k + 1 => Lib.beBytes 8 (F i) ++ fFrom F (i + 1) k
theorem fFrom_snoc (F : Nat → Nat) (i k : Nat) : fFrom F i (k + 1) = fFrom F i k ++ Lib.beBytes 8 (F (i + k)) := by
  induction k generalizing i with
  | zero => simp [fFrom]
  | succ k ih =>
    rw [fFrom, ih (i + 1), fFrom, List.append_assoc]
    rw [show i + (k + 1) = i + 1 + k from by omega]
theorem fFrom_length (F : Nat → Nat) (i k : Nat) : (fFrom F i k).length = 8 * k := by
  induction k generalizing i with
  | zero => rfl
  | succ k ih => simp [fFrom, ih, Lib.beBytes_length]; omega
/-- What writeRecord writes. -/
def recBytes (key : Nat) (seq : Int) (line : ByteArray) (n : Nat) (F : Nat → Nat) : List UInt8 :=
  Lib.beBytes 8 key ++ (Lib.uvarint n ++ (fFrom F 0 n ++ (Lib.uvarint (Lib.zigzag seq) ++ (Lib.uvarint line.size ++ line.data.toList))))

theorem FRow.kept {lo b N : Nat} {w w' : World} {a : Option Addr} {n : Nat} {F : Nat → Nat} (h : FRow lo w a n F) (hb : b < lo) (hk : Kept b N w w') (hN : w.heap.size ≤ N) : FRow lo w' a n F := by
  rcases h with h | ⟨g, off, rfl, hlo, hc⟩
  · exact .inl h
  · exact .inr ⟨g, off, rfl, hlo, fun i hi => (hk.cell (by have := lt_of_cell (hc i hi); omega) (by omega)).trans (hc i hi)⟩
theorem RestIs.kept {lo b N : Nat} {w w' : World} {p : Option Addr} {n : Nat} {F : Nat → Nat} (h : RestIs lo w p n F) (hb : b < lo) (hk : Kept b N w w') (hN : w.heap.size ≤ N) : RestIs lo w' p n F := by
  rcases h with h | ⟨rb, a, c, rfl, hlo, hc, hr⟩
  · exact .inl h
  · exact .inr ⟨rb, a, c, rfl, hlo, (hk.cell (by have := lt_of_cell hc; omega) (by omega)).trans hc, hr.kept hb hk hN⟩
theorem WS.later {B wb : Nat} {xs : List UInt8} {w w' : World} (h : WS B wb xs w) (hb : Below w.heap.size w w') : WS B wb xs w' := by
  obtain ⟨⟨a, c, hc, ho⟩, hf, hlt, hle⟩ := h
  refine ⟨⟨a, c, (hb.cell (p := ⟨wb, 0, none⟩) (lt_of_cell hc)).trans hc, ho.kept (row := none) ⟨hb.os, hb.tape, hb.output, hb.size, fun k hk _ => hb.block k hk⟩ (by cases a <;> simp [Value.ownBlock])⟩, (hb.frozen (p := ⟨wb, 0, none⟩) (lt_of_cell hc)).trans hf, hlt, Nat.le_trans hle hb.size⟩
theorem Kept.below {b N : Nat} {w w1 w2 : World} (h : Kept b N w w1) (hb : Below w1.heap.size w1 w2) (hN : N ≤ w1.heap.size) : Kept b N w w2 := h.trans (Kept.ofBelow (hb.mono hN))

set_option maxHeartbeats 1000000 in
/-- Rest, called in a later world: the row as the world w0 held it. -/
theorem rest19k (key : Nat) (seq : Int) (line : ByteArray) (p : Option Addr) (n : Nat) (F : Nat → Nat) (lo : Nat) (w0 w : World) (h : RestIs lo w0 p n F)
    (hcell : ∀ b o, lo ≤ b → b < w0.heap.size → w.cell? ⟨b, o, none⟩ = w0.cell? ⟨b, o, none⟩) :
    Calls Tryf.prog 19 #[.agg #[.float .f64 key, .int .i64 seq, .string line, .pointer p]] w fun e w' => (∃ a c, e = .returned (.slice a n c) ∧ FRow lo w0 a n F) ∧ Below w.heap.size w w' := by
  rcases h with ⟨rfl, rfl⟩ | ⟨rb, a, c, rfl, hlo, hc, hr⟩
  · go_enter Tryf.func19, Tryf.ntmps19
    go_wp2
    go_ret
    exact ⟨⟨_, _, rfl, .inl rfl⟩, (Below.refl _ _).alloc (Nat.le_refl _) _⟩
  · have hlt := lt_of_cell hc
    have hc' := (hcell rb 0 hlo hlt).trans hc
    have hlt' := lt_of_cell hc'
    clear hcell
    go_enter Tryf.func19, Tryf.ntmps19
    go_wp2
    go_ret
    exact ⟨⟨_, _, rfl, hr⟩, (Below.refl _ _).alloc (Nat.le_refl _) _⟩

def FOk (n : Nat) (F : Nat → Nat) : Prop := ∀ i, i < n → F i < 18446744073709551616
structure RecOk (wb lo : Nat) (w : World) : Prop where
  cell : w.cell? ⟨wb, 0, none⟩ = some (.slice none 0 0)
  free : w.frozen? ⟨wb, 0, none⟩ = false
  lt : wb < lo
theorem RecOk.ws {wb lo : Nat} {w : World} (h : RecOk wb lo w) (o : Obj) : WS (w.alloc o).heap.size wb [] (w.alloc o) := by
  have hl := lt_of_cell h.cell
  refine ⟨⟨none, 0, ?_, World.ownsRow_nil _ _ _ _⟩, ?_, by simp; omega, Nat.le_refl _⟩
  · rw [World.cell?_alloc_past _ _ _ hl]; exact h.cell
  · rw [World.frozen?_alloc_past _ _ _ hl]; exact h.free

set_option maxHeartbeats 2000000 in
set_option maxRecDepth 100000 in
theorem write12 (wb : Nat) (key : Nat) (seq : Int) (line : ByteArray) (p : Option Addr) (n : Nat) (F : Nat → Nat) (lo : Nat) (w : World) (hw : RecOk wb lo w) (h : RestIs lo w p n F)
    (hkey : key < 18446744073709551616) (hF : FOk n F) (h0 : -9223372036854775808 ≤ seq) (h1 : seq ≤ 9223372036854775807) (hn : n ≤ 131072) (hl : line.size ≤ 1048576) :
    Calls Tryf.prog 12 #[.pointer (some ⟨wb, 0, none⟩), .agg #[.float .f64 key, .int .i64 seq, .string line, .pointer p]] w fun e w' =>
      e = .returned (.tuple #[]) ∧ (∃ B, w.heap.size ≤ B ∧ WS B wb (recBytes key seq line n F) w') ∧ Kept wb w.heap.size w w' := by
  have hl0 := lt_of_cell hw.cell
  obtain ⟨w0, HW0⟩ : ∃ w0, Hid (w0 = w.alloc (.cells #[.float .f64 key, .int .i64 seq, .string line, .pointer p] 32)) := ⟨_, rfl⟩
  have hB0 : Below w.heap.size w w0 := by rw [HW0.out]; exact (Below.refl _ _).alloc (Nat.le_refl _) _
  have hwlt : w.heap.size < w0.heap.size := by rw [HW0.out]; simp
  have hs0 : WS w0.heap.size wb [] w0 := by rw [HW0.out]; exact hw.ws _
  have c : ∀ j, w0.cell? ⟨w.heap.size, j, none⟩ = (#[Value.float .f64 key, .int .i64 seq, .string line, .pointer p] : Array Value)[j]? := fun j => by
    rw [HW0.out, World.cell?_alloc_at _ _ _ _ rfl]
  have hr0 : RestIs lo w0 p n F := h.later hB0
  have HF : Hid (FOk n F) := hF
  have hlo := hw.lt
  clear hw h hF
  go_enter Tryf.func12, Tryf.ntmps12
  go_wp2_with fail
  rw [← HW0.out]
  refine (w_float w0.heap.size wb key hkey [] w0 hs0 (by simp)).mono ?_
  rintro e w1 ⟨rfl, hs1, hk1⟩
  have c0 := (hk1.cell (o := 0) hwlt (by omega)).trans (c 0)
  have c1 := (hk1.cell (o := 1) hwlt (by omega)).trans (c 1)
  have c2 := (hk1.cell (o := 2) hwlt (by omega)).trans (c 2)
  have c3 := (hk1.cell (o := 3) hwlt (by omega)).trans (c 3)
  simp at c0 c1 c2 c3
  go_wp2_with fail
  refine (rest19k key seq line p n F lo w0 w1 hr0 (fun b o hb hw => hk1.cell hw (by omega))).mono ?_
  rintro e w2 ⟨⟨a2, cp2, rfl, hf2⟩, hb2⟩
  have hs2 := hs1.later hb2
  have hk2 := hk1.below hb2 hk1.size
  clear hs1 hk1 hr0 c0 c1 c2 c3 hb2
  go_wp2_with fail
  refine (w_uvarint w0.heap.size wb n (by omega) _ w2 hs2 (by simp [Lib.beBytes_length])).mono ?_
  rintro e w3 ⟨rfl, hs3, hk3⟩
  have hk3 := hk2.trans hk3
  clear hs2 hk2
  have hu := Lib.uvarint_length64 (x := n) (by omega)
  have hu2 := Lib.uvarint_length64 (Lib.zigzag_lt h0 h1)
  go_wp2_with fail
  go_loopw [20] (fun i wr => ∃ k : Nat, k ≤ n ∧ i = .int .i64 k ∧ WS w0.heap.size wb (Lib.beBytes 8 key ++ Lib.uvarint n ++ fFrom F 0 k) wr ∧ Kept wb w0.heap.size w0 wr) (fun i _ => n - (intOf i).toNat)
  case atStart => exact ⟨0, Nat.zero_le _, rfl, by simpa [fFrom] using hs3, hk3⟩
  case round =>
    clear hs3 hk3
    obtain ⟨k, hk, rfl, hs, hkk⟩ := hrel
    by_cases hlt : k < n
    · rcases hf2 with hf' | ⟨b2, off2, rfl, hlo2, hc2⟩
      · omega
      have g2 := (hkk.cell (o := off2 + k) (lt_of_cell (hc2 k hlt)) (by omega)).trans (hc2 k hlt)
      clear hc2
      go_wp2_with fail
      refine (w_float w0.heap.size wb (F k) (HF.out k hlt) _ wr hs (by simp [Lib.beBytes_length, fFrom_length]; omega)).mono ?_
      rintro e w4 ⟨rfl, hs4, hk4⟩
      have hk5 := hkk.trans hk4
      clear hs hkk hk4
      go_wp2_with fail
      go_roundw
      case rel => exact ⟨k + 1, by omega, by go_num, by rw [fFrom_snoc]; simpa using hs4, hk5⟩
      case measure => simp [intOf]; omega
    · have hkn : k = n := by omega
      subst hkn
      have c0 := (hkk.cell (o := 1) hwlt (by omega)).trans (c 1)
      simp at c0
      go_wp2_with fail
      refine (w_varint w0.heap.size wb seq h0 h1 _ wr hs (by simp [Lib.beBytes_length, fFrom_length]; omega)).mono ?_
      rintro e w4 ⟨rfl, hs4, hk4⟩
      have hk5 := hkk.trans hk4
      clear hs hkk hk4 c0
      have c0 := (hk5.cell (o := 2) hwlt (by omega)).trans (c 2)
      simp at c0
      go_wp2_with fail
      refine (w_text w0.heap.size wb line hl _ w4 hs4 (by simp [Lib.beBytes_length, fFrom_length]; omega)).mono ?_
      rintro e w5 ⟨rfl, hs5, hk6⟩
      clear c0
      go_wp2_with fail
      go_end0
      exact ⟨rfl, ⟨w0.heap.size, by omega, by simpa [recBytes] using hs5⟩, (Kept.ofBelow hB0).trans ((hk5.trans hk6).mono (by omega))⟩
set_option maxHeartbeats 1000000 in
theorem write5 (wb : Nat) (key : Nat) (seq : Int) (line : ByteArray) (p : Option Addr) (n : Nat) (F : Nat → Nat) (lo : Nat) (w : World) (hw : RecOk wb lo w) (h : RestIs lo w p n F)
    (hkey : key < 18446744073709551616) (hF : FOk n F) (h0 : -9223372036854775808 ≤ seq) (h1 : seq ≤ 9223372036854775807) (hn : n ≤ 131072) (hl : line.size ≤ 1048576) :
    Calls Tryf.prog 5 #[.pointer (some ⟨wb, 0, none⟩), .agg #[.float .f64 key, .int .i64 seq, .string line, .pointer p]] w fun e w' =>
      e = .returned (.tuple #[]) ∧ (∃ B, w.heap.size ≤ B ∧ WS B wb (recBytes key seq line n F) w') ∧ Kept wb w.heap.size w w' := by
  have hl0 := lt_of_cell hw.cell
  have hP := write12 wb key seq line p n F lo (w.alloc (.cells #[.float .f64 key, .int .i64 seq, .string line, .pointer p] 32)) ⟨by rw [World.cell?_alloc_past _ _ _ hl0]; exact hw.cell, by rw [World.frozen?_alloc_past _ _ _ hl0]; exact hw.free, hw.lt⟩ (h.later ((Below.refl _ _).alloc (Nat.le_refl _) _)) hkey hF h0 h1 hn hl
  clear hw h
  go_enter Tryf.func5, Tryf.ntmps5
  go_wp2_with fail
  refine hP.mono ?_
  rintro e w1 ⟨rfl, ⟨B, hB, hs⟩, hk⟩
  go_wp2_with fail
  go_end0
  have hsz : (w.alloc (.cells #[.float .f64 key, .int .i64 seq, .string line, .pointer p] 32)).heap.size = w.heap.size + 1 := by simp
  exact ⟨rfl, ⟨B, by omega, hs⟩, (Kept.ofBelow ((Below.refl _ _).alloc (Nat.le_refl _) _)).trans (hk.mono (by omega))⟩

end Go.Proofs.Qxb6613954aFmt
