/-
  The contract of 'ZZgetInt'.
-/
import Derived.Test.Qxb6605724aGet
namespace Go.Proofs.Qxb6605724a
open Go.RowKit

theorem Try.info43 : (Try.prog.info? 43).map (fun i => (i.zero, i.size, i.bytes)) = some (some (.agg #[.string ByteArray.empty, .nilIface]), 2, 32) := by kernel_rfl

def IntRow (w : World) (a : Option Addr) (n : Nat) (Z : Nat → Int) : Prop :=
  n = 0 ∨ ∃ b off, a = some ⟨b, off, none⟩ ∧ ∀ i, i < n → w.cell? ⟨b, off + i, none⟩ = some (.int .i64 (Z i))

theorem lt_of_cell {w : World} {b o : Nat} {v : Value} (h : w.cell? ⟨b, o, none⟩ = some v) : b < w.heap.size := by
  rcases Nat.lt_or_ge b w.heap.size with h' | h'
  · exact h'
  · simp [World.cell?, Array.getElem?_eq_none h'] at h

/-- The second field of member j. -/
def memV (n1 : Nat) (Z : Nat → Int) (j : Nat) : Value := if j < n1 then .iface 2 (.int .i64 (Z j)) else .nilIface
theorem memV_shape (n1 : Nat) (Z : Nat → Int) (j : Nat) : (∃ z, memV n1 Z j = .iface 2 (.int .i64 z)) ∨ memV n1 Z j = .nilIface := by
  unfold memV; split
  · exact .inl ⟨_, rfl⟩
  · exact .inr rfl

/-- The Object as it stands ahead of round k. -/
def Mems (S : Nat → ByteArray) (n1 : Nat) (Z : Nat → Int) (n k g : Nat) (wr : World) : Prop :=
  ∀ j, j < n → wr.cell? ⟨g, j * 2, none⟩ = some (.string (if j < k then S j else ByteArray.empty)) ∧ wr.cell? ⟨g, j * 2 + 1, none⟩ = some (if j < k then memV n1 Z j else .nilIface) ∧
    wr.frozen? ⟨g, j * 2, none⟩ = false ∧ wr.frozen? ⟨g, j * 2 + 1, none⟩ = false

theorem made2 (z0 z1 : Value) (n j : Nat) (hj : j < n) : (madeCells #[z0, z1] (n * 2))[j * 2]? = some z0 ∧ (madeCells #[z0, z1] (n * 2))[j * 2 + 1]? = some z1 := by
  have h1 : j * 2 < n * 2 := by omega
  have h2 : j * 2 + 1 < n * 2 := by omega
  have e1 : j * 2 % 2 = 0 := by omega
  have e2 : (j * 2 + 1) % 2 = 1 := by omega
  constructor
  · simp [madeCells, h1, e1]
  · simp [madeCells, h2, e2]

theorem mems_start {S : Nat → ByteArray} {n1 : Nat} {Z : Nat → Int} {n : Nat} {w : World} {C : Array Value} (hC : C = madeCells #[.string ByteArray.empty, .nilIface] (n * 2)) :
    Mems S n1 Z n 0 w.heap.size (w.alloc (.cells C 43)) := by
  intro j hj
  obtain ⟨h1, h2⟩ := made2 (.string ByteArray.empty) .nilIface n j hj
  subst hC
  exact ⟨by rw [World.cell?_alloc_at _ _ _ _ rfl, h1]; simp, by rw [World.cell?_alloc_at _ _ _ _ rfl, h2]; simp, World.frozen?_alloc_at _ _ _ _ rfl, World.frozen?_alloc_at _ _ _ _ rfl⟩

theorem mems_one {S : Nat → ByteArray} {n1 : Nat} {Z : Nat → Int} {n k g : Nat} {wr : World} (h : Mems S n1 Z n k g wr) (hk : k < n) (h1 : ¬ k < n1) :
    Mems S n1 Z n (k + 1) g (wr.setCell ⟨g, k * 2, none⟩ (.string (S k))) := by
  intro j hj
  obtain ⟨c1, c2, f1, f2⟩ := h j hj
  have ne : (⟨g, k * 2, none⟩ : Addr) ≠ ⟨g, j * 2 + 1, none⟩ := by intro e; injection e; omega
  refine ⟨?_, ?_, by simpa using f1, by simpa using f2⟩
  · by_cases e : j = k
    · subst e; rw [World.cell?_setCell_same _ _ _ c1]; simp
    · have ne' : (⟨g, k * 2, none⟩ : Addr) ≠ ⟨g, j * 2, none⟩ := by intro e; injection e; omega
      rw [World.cell?_setCell_other _ _ _ _ ne', c1]
      have : (j < k + 1) ↔ j < k := by omega
      simp [this]
  · rw [World.cell?_setCell_other _ _ _ _ ne, c2]
    by_cases e : j = k
    · subst e; simp [memV, h1]
    · have : (j < k + 1) ↔ j < k := by omega
      simp [this]

theorem mems_two {S : Nat → ByteArray} {n1 : Nat} {Z : Nat → Int} {n k g : Nat} {wr : World} (h : Mems S n1 Z n k g wr) (hk : k < n) (h1 : k < n1) :
    Mems S n1 Z n (k + 1) g ((wr.setCell ⟨g, k * 2, none⟩ (.string (S k))).setCell ⟨g, k * 2 + 1, none⟩ (.iface 2 (.int .i64 (Z k)))) := by
  intro j hj
  obtain ⟨c1, c2, f1, f2⟩ := h j hj
  have ne : (⟨g, k * 2, none⟩ : Addr) ≠ ⟨g, j * 2 + 1, none⟩ := by intro e; injection e; omega
  have ne2 : (⟨g, k * 2 + 1, none⟩ : Addr) ≠ ⟨g, j * 2, none⟩ := by intro e; injection e; omega
  refine ⟨?_, ?_, by simpa using f1, by simpa using f2⟩
  · rw [World.cell?_setCell_other _ _ _ _ ne2]
    by_cases e : j = k
    · subst e; rw [World.cell?_setCell_same _ _ _ c1]; simp
    · have ne' : (⟨g, k * 2, none⟩ : Addr) ≠ ⟨g, j * 2, none⟩ := by intro e; injection e; omega
      rw [World.cell?_setCell_other _ _ _ _ ne', c1]
      have : (j < k + 1) ↔ j < k := by omega
      simp [this]
  · by_cases e : j = k
    · subst e
      have c2' := c2
      rw [← World.cell?_setCell_other wr _ _ (.string (S j)) ne] at c2'
      rw [World.cell?_setCell_same _ _ _ c2']; simp [memV, h1]
    · have ne' : (⟨g, k * 2 + 1, none⟩ : Addr) ≠ ⟨g, j * 2 + 1, none⟩ := by intro e; injection e; omega
      rw [World.cell?_setCell_other _ _ _ _ ne', World.cell?_setCell_other _ _ _ _ ne, c2]
      have : (j < k + 1) ↔ j < k := by omega
      simp [this]

/-- What ZZgetInt answers. -/
def IntSays (S : Nat → ByteArray) (Z : Nat → Int) (n0 n1 : Nat) (s : ByteArray) (e : Ending) : Prop :=
  (∃ i, i < n0 ∧ S i = s ∧ (∀ j, j < i → S j ≠ s) ∧ e = .returned (.tuple #[.int .i64 (if i < n1 then Z i else 0), .bool (decide (i < n1)), .bool true])) ∨
  ((∀ j, j < n0 → S j ≠ s) ∧ e = .returned (.tuple #[.int .i64 0, .bool false, .bool false]))

theorem assert_int (z : Int) (w : World) : (Instr.typeAssert (.iface 2 (.int .i64 z)) 20 2 true).run Try.prog w = .ok (.tuple #[.int .i64 z, .bool true]) w := by kernel_rfl
theorem assert_nil (w : World) : (Instr.typeAssert .nilIface 20 2 true).run Try.prog w = .ok (.tuple #[.int .i64 0, .bool false]) w := by kernel_rfl

set_option maxHeartbeats 1000000 in
theorem getInt9 (a0 a1 : Option Addr) (n0 c0 n1 c1 : Nat) (s : ByteArray) (S : Nat → ByteArray) (Z : Nat → Int) (w : World) (h0 : StrRow w a0 n0 S) (h1 : IntRow w a1 n1 Z)
    (hn0 : n0 ≤ 65537) :
    Calls Try.prog 9 #[.slice a0 n0 c0, .slice a1 n1 c1, .string s] w fun e w' => IntSays S Z n0 n1 s e ∧ Below w.heap.size w w' := by
  obtain ⟨i0, hi, hz0, hz1, hz2⟩ := info_parts Try.info43
  obtain ⟨C, hC⟩ : ∃ C, C = madeCells #[.string ByteArray.empty, .nilIface] (n0 * 2) := ⟨_, rfl⟩
  have hmk : ∀ w : World, (Instr.makeSlice 41 (.int .i64 (n0 : Int)) (.int .i64 (n0 : Int))).run Try.prog w = .ok (.slice (some ⟨w.heap.size, 0, none⟩) n0 n0) (w.alloc (.cells C 43)) := by
    intro w
    have := run_make (P := Try.prog) w 41 43 i0 _ Try.underlying41 hi hz0 .i64 .i64 n0 n0 (by omega) (by omega) (by rw [hz2]; omega) (by omega)
    rw [hz1] at this
    simpa [hC, Value.cells] using this
  have HC : Hid (C = madeCells #[.string ByteArray.empty, .nilIface] (n0 * 2)) := hC
  clear hC hi hz0 hz1 hz2
  go_enter Try.func9, Try.ntmps9
  go_wp2_with fail
  go_loopw [20] (fun i wr => ∃ k : Nat, k ≤ n0 ∧ i = .int .i64 k ∧ Mems S n1 Z n0 k w.heap.size wr ∧ w.heap.size < wr.heap.size ∧ Below w.heap.size w wr) (fun i _ => n0 - (intOf i).toNat)
  case atStart => exact ⟨0, Nat.zero_le _, rfl, mems_start HC.out, by simp, (Below.refl _ _).alloc (Nat.le_refl _) _⟩
  case round =>
    clear hmk
    obtain ⟨k, hk, rfl, hM, hsz, hbel⟩ := hrel
    by_cases hlt : k < n0
    · obtain ⟨m1, m2, f1, f2⟩ := hM k hlt
      rcases h0 with h0 | ⟨b0, off0, rfl, hc0⟩
      · omega
      have g0 := (hbel.cell (p := ⟨b0, off0 + k, none⟩) (lt_of_cell (hc0 k hlt))).trans (hc0 k hlt)
      have HM : Hid (Mems S n1 Z n0 k w.heap.size wr) := hM
      clear hM hc0
      simp only [Nat.lt_irrefl, if_false] at m1 m2
      by_cases hl1 : k < n1
      · rcases h1 with h1 | ⟨b1, off1, rfl, hc1⟩
        · omega
        have g1 := (hbel.cell (p := ⟨b1, off1 + k, none⟩) (lt_of_cell (hc1 k hl1))).trans (hc1 k hl1)
        have hb1 : b1 < w.heap.size := lt_of_cell (hc1 k hl1)
        have hb2 : ¬ w.heap.size = b1 := by omega
        clear hc1
        go_wp2_with fail
        go_roundw
        case rel => exact ⟨k + 1, by omega, by go_num, mems_two HM.out hlt hl1, by simp; omega, (hbel.setCell (by simp) _).setCell (by simp) _⟩
        case measure => simp [intOf]; omega
      · go_wp2_with fail
        go_roundw
        case rel => exact ⟨k + 1, by omega, by go_num, mems_one HM.out hlt hl1, by simp; omega, hbel.setCell (by simp) _⟩
        case measure => simp [intOf]; omega
    · have hkn : k = n0 := by omega
      subst hkn
      go_wp2_with fail
      have hta := assert_int
      have htn := assert_nil
      refine (get18 w.heap.size 0 k k s S (memV n1 Z) wr hn0 hsz (fun i hi => by simpa [hi] using (hM i hi).1) (fun i hi => by simpa [hi] using (hM i hi).2.1) (memV_shape n1 Z)).mono ?_
      rintro e w1 ⟨hsays, hb1⟩
      rcases hsays with ⟨i, hi, hSi, hno, rfl⟩ | ⟨hno, rfl⟩
      · have HN : Hid (∀ j, j < i → S j ≠ s) := hno
        have HS : Hid (S i = s) := hSi
        clear hno hSi
        by_cases hl1 : i < n1
        · have hv : memV n1 Z i = .iface 2 (.int .i64 (Z i)) := by simp [memV, hl1]
          rw [hv]
          go_wp2_with fail
          go_ret3
          exact ⟨.inl ⟨i, hi, HS.out, HN.out, by simp [hl1]⟩, hbel.trans (hb1.mono (by omega))⟩
        · have hv : memV n1 Z i = .nilIface := by simp [memV, hl1]
          rw [hv]
          go_wp2_with fail
          go_ret3
          exact ⟨.inl ⟨i, hi, HS.out, HN.out, by simp [hl1]⟩, hbel.trans (hb1.mono (by omega))⟩
      · have HN : Hid (∀ j, j < k → S j ≠ s) := hno
        clear hno
        go_wp2_with fail
        go_ret3
        exact ⟨.inr ⟨HN.out, rfl⟩, hbel.trans (hb1.mono (by omega))⟩
end Go.Proofs.Qxb6605724a
