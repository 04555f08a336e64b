/-
  'zzc := make([]T, len(xs)); copy(zzc, xs)': what a new row holds behind it.
-/
import Derived.Test.Qxb6605724aInt
import Derived.Laws.CopyOwn
import Derived.Deep.DeepCutAuto
namespace Go.Proofs.Qxb6605724a
open Go.RowKit

theorem Try.info9 : (Try.prog.info? 9).map (fun i => (i.zero, i.size, i.bytes)) = some (some (.string ByteArray.empty), 1, 16) := by kernel_rfl
theorem Try.info2 : (Try.prog.info? 2).map (fun i => (i.zero, i.size, i.bytes)) = some (some (.int .i64 0), 1, 8) := by kernel_rfl
theorem Try.info3 : (Try.prog.info? 3).map (fun i => (i.zero, i.size, i.bytes)) = some (some (.int .i64 0), 1, 8) := by kernel_rfl
theorem Try.size9 : (Try.prog.info? 9).map (·.size) = some 1 := by kernel_rfl
theorem Try.size2 : (Try.prog.info? 2).map (·.size) = some 1 := by kernel_rfl
theorem Try.size3 : (Try.prog.info? 3).map (·.size) = some 1 := by kernel_rfl

/-- 'make([]T, n)' of one-cell elements: a new block of n zero cells. -/
theorem make_row {t e : TypeId} {z : Value} {by_ : Nat} (hu : Try.prog.underlying t = some (.slice e)) (hinfo : (Try.prog.info? e).map (fun i => (i.zero, i.size, i.bytes)) = some (some z, 1, by_))
    (hz : z.cells = #[z]) (n : Nat) (hb : by_ * n ≤ 281474976710656) (hn : n ≤ 9223372036854775807) :
    ∃ cur : List Value, cur.length = n ∧ ∀ w : World, (Instr.makeSlice t (.int .i64 (n : Int)) (.int .i64 (n : Int))).run Try.prog w = .ok (.slice (some ⟨w.heap.size, 0, none⟩) n n) (w.alloc (.cells cur.toArray e)) := by
  obtain ⟨i0, hi, hz0, hz1, hz2⟩ := info_parts hinfo
  refine ⟨(madeCells #[z] n).toList, by simp [size_madeCells], fun w => ?_⟩
  have hb' : (i0.bytes : Int) * (n : Int) ≤ 281474976710656 := by
    rw [hz2]
    have h : ((by_ * n : Nat) : Int) ≤ 281474976710656 := by omega
    rwa [Int.natCast_mul] at h
  have := run_make (P := Try.prog) w t e i0 _ hu hi hz0 .i64 .i64 n n (by omega) (by omega) hb' (by omega)
  rw [hz1, hz] at this
  simpa using this

theorem heap_alloc_at (w : World) (o : Obj) : (w.alloc o).heap[w.heap.size]? = some o := by
  show (w.heap.push o)[w.heap.size]? = _
  simp

theorem spliced_cell {w : World} {g : Nat} {cur cs : List Value} {e : TypeId} (h : w.heap[g]? = some (.cells (splice cur 0 cs).toArray e (0, 0))) (i : Nat) (hi : i < cs.length) :
    w.cell? ⟨g, 0 + i, none⟩ = some cs[i] := by
  simp [World.cell?, h, splice, List.getElem?_append, hi]

def strCells (S : Nat → ByteArray) (n : Nat) : List Value := (List.range n).map fun i => .string (S i)
def intCells (Z : Nat → Int) (n : Nat) : List Value := (List.range n).map fun i => .int .i64 (Z i)
theorem strCells_length (S : Nat → ByteArray) (n : Nat) : (strCells S n).length = n := by simp [strCells]
theorem intCells_length (Z : Nat → Int) (n : Nat) : (intCells Z n).length = n := by simp [intCells]
theorem strCells_one (S : Nat → ByteArray) (n : Nat) : ∀ v ∈ strCells S n, v.oneCell' = true := by
  intro v hv; simp [strCells] at hv; obtain ⟨i, _, rfl⟩ := hv; rfl
theorem intCells_one (Z : Nat → Int) (n : Nat) : ∀ v ∈ intCells Z n, v.oneCell' = true := by
  intro v hv; simp [intCells] at hv; obtain ⟨i, _, rfl⟩ := hv; rfl

theorem StrRow.src {w w' : World} {a : Option Addr} {n : Nat} {S : Nat → ByteArray} (h : StrRow w a n S) (hb : Below w.heap.size w w') (hp : 0 < (strCells S n).length) :
    ∃ ad, a = some ad ∧ ∀ j v, (strCells S n)[j]? = some v → w'.cell? (ad.add j) = some v := by
  rw [strCells_length] at hp
  rcases h with h | ⟨b, off, rfl, hc⟩
  · omega
  refine ⟨_, rfl, fun j v hv => ?_⟩
  simp [strCells, List.getElem?_eq_some_iff] at hv
  obtain ⟨_, ⟨hj, rfl⟩, rfl⟩ := hv
  have := hc j hj
  rw [show (⟨b, off, none⟩ : Addr).add j = ⟨b, off + j, none⟩ from by simp [Addr.add]]
  exact (hb.cell (p := ⟨b, off + j, none⟩) (lt_of_cell this)).trans this
theorem IntRow.src {w w' : World} {a : Option Addr} {n : Nat} {Z : Nat → Int} (h : IntRow w a n Z) (hb : Below w.heap.size w w') (hp : 0 < (intCells Z n).length) :
    ∃ ad, a = some ad ∧ ∀ j v, (intCells Z n)[j]? = some v → w'.cell? (ad.add j) = some v := by
  rw [intCells_length] at hp
  rcases h with h | ⟨b, off, rfl, hc⟩
  · omega
  refine ⟨_, rfl, fun j v hv => ?_⟩
  simp [intCells, List.getElem?_eq_some_iff] at hv
  obtain ⟨_, ⟨hj, rfl⟩, rfl⟩ := hv
  have := hc j hj
  rw [show (⟨b, off, none⟩ : Addr).add j = ⟨b, off + j, none⟩ from by simp [Addr.add]]
  exact (hb.cell (p := ⟨b, off + j, none⟩) (lt_of_cell this)).trans this

theorem StrRow.made {w : World} {g n : Nat} {cur : List Value} {e : TypeId} {S : Nat → ByteArray} (h : w.heap[g]? = some (.cells (splice cur 0 (strCells S n)).toArray e (0, 0))) : StrRow w (some ⟨g, 0, none⟩) n S := by
  refine .inr ⟨g, 0, rfl, fun i hi => ?_⟩
  rw [spliced_cell h i (by rw [strCells_length]; exact hi)]
  simp [strCells]
theorem IntRow.made {w : World} {g n : Nat} {cur : List Value} {e : TypeId} {Z : Nat → Int} (h : w.heap[g]? = some (.cells (splice cur 0 (intCells Z n)).toArray e (0, 0))) : IntRow w (some ⟨g, 0, none⟩) n Z := by
  refine .inr ⟨g, 0, rfl, fun i hi => ?_⟩
  rw [spliced_cell h i (by rw [intCells_length]; exact hi)]
  simp [intCells]
theorem StrRow.later {w w' : World} {a : Option Addr} {n : Nat} {S : Nat → ByteArray} (h : StrRow w a n S) (hb : Below w.heap.size w w') : StrRow w' a n S := by
  rcases h with h | ⟨b, off, rfl, hc⟩
  · exact .inl h
  · exact .inr ⟨b, off, rfl, fun i hi => (hb.cell (p := ⟨b, off + i, none⟩) (lt_of_cell (hc i hi))).trans (hc i hi)⟩
theorem IntRow.later {w w' : World} {a : Option Addr} {n : Nat} {Z : Nat → Int} (h : IntRow w a n Z) (hb : Below w.heap.size w w') : IntRow w' a n Z := by
  rcases h with h | ⟨b, off, rfl, hc⟩
  · exact .inl h
  · exact .inr ⟨b, off, rfl, fun i hi => (hb.cell (p := ⟨b, off + i, none⟩) (lt_of_cell (hc i hi))).trans (hc i hi)⟩

/-- The run of 'copy(zzc, xs)' right behind 'zzc := make([]T, len(xs))'. -/
theorem copy_made {t e : TypeId} (hu : Try.prog.underlying t = some (.slice e)) (hsz : (Try.prog.info? e).map (·.size) = some 1) (w : World) (cur cs : List Value) (a : Option Addr) (n c : Nat)
    (hcur : cur.length = n) (hcs : cs.length = n) (h1 : ∀ v ∈ cs, v.oneCell' = true)
    (hsrc : 0 < cs.length → ∃ ad, a = some ad ∧ ∀ j v, cs[j]? = some v → (w.alloc (.cells cur.toArray e)).cell? (ad.add j) = some v) :
    ∃ w2, Sem.run Try.prog (Builtin.copy_ #[t, t] 3 #[.slice (some ⟨w.heap.size, 0, none⟩) n n, .slice a n c]) (w.alloc (.cells cur.toArray e)) = .ok (.int .i64 (n : Int)) w2 ∧
      w2.heap[w.heap.size]? = some (.cells (splice cur 0 cs).toArray e (0, 0)) ∧ Below w.heap.size w w2 ∧ w2.heap.size = w.heap.size + 1 := by
  have hg : (w.alloc (.cells cur.toArray e)).heap[w.heap.size]? = some (.cells cur.toArray e (0, 0)) := heap_alloc_at _ _
  by_cases h0 : cs.length = 0
  · obtain rfl : cs = [] := List.eq_nil_of_length_eq_zero h0
    have hn0 : n = 0 := by simpa using hcs.symm
    subst hn0
    refine ⟨_, run_copy_none (P := Try.prog) _ t t 3 e _ _ _ _ _ _ hu hsz rfl, ?_, (Below.refl _ _).alloc (Nat.le_refl _) _, by simp⟩
    simpa [splice] using hg
  · obtain ⟨ad, rfl, hs⟩ := hsrc (by omega)
    have hr := run_copy_row (P := Try.prog) (w.alloc (.cells cur.toArray e)) t t 3 e w.heap.size 0 n n ad n c cur.toArray e cs hu hsz hg (by rw [hcs]; exact (Nat.min_self _).symm) hs (by simp; omega) h1
    rw [hcs] at hr
    refine ⟨_, hr, ?_, below_setRow ((Below.refl _ _).alloc (Nat.le_refl _) _) (Nat.le_refl _) _, by simp [World.setRow]⟩
    have := setRow_heap (w.alloc (.cells cur.toArray e)) w.heap.size _ (cur.toArray.toList.take 0 ++ cs ++ cur.toArray.toList.drop (0 + n)).toArray e _ hg
    rw [this]
    simp [splice, hcs]

end Go.Proofs.Qxb6605724a
