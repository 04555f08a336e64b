/-
  The contracts that build and read a Record: Rest, ZZnewRecord, ZZnewRecordRest, zzCloneF64, zzToRecord.
-/
import Derived.Test.Qxb6613954aFmtWriter
import Derived.Laws.CopyOwn
namespace Go.Proofs.Qxb6613954aFmt
open Go.RowKit

theorem run_store_float {P : Program} {w : World} {a : Addr} {m : Mode} (k : FloatKind) (b : Nat) : (store a (.float k b) m).run P w = stored P w a (.float k b) m := run_store P w a _ m rfl
attribute [local go_sem] run_store_float

/-- A slice of float64s as a walk wants it. -/
def FRow (lo : Nat) (w : World) (a : Option Addr) (n : Nat) (F : Nat → Nat) : Prop :=
  n = 0 ∨ ∃ b off, a = some ⟨b, off, none⟩ ∧ lo ≤ b ∧ ∀ i, i < n → w.cell? ⟨b, off + i, none⟩ = some (.float .f64 (F i))
/-- The pointer to the keys after the first. -/
def RestIs (lo : Nat) (w : World) (p : Option Addr) (n : Nat) (F : Nat → Nat) : Prop :=
  (p = none ∧ n = 0) ∨ ∃ rb a c, p = some ⟨rb, 0, none⟩ ∧ lo ≤ rb ∧ w.cell? ⟨rb, 0, none⟩ = some (.slice a n c) ∧ FRow lo w a n F

theorem FRow.later {lo : Nat} {w w' : World} {a : Option Addr} {n : Nat} {F : Nat → Nat} (h : FRow lo w a n F) (hb : Below w.heap.size w w') : FRow lo w' a n F := by
  rcases h with h | ⟨b, off, rfl, hlo, hc⟩
  · exact .inl h
  · exact .inr ⟨b, off, rfl, hlo, fun i hi => (hb.cell (p := ⟨b, off + i, none⟩) (lt_of_cell (hc i hi))).trans (hc i hi)⟩
theorem RestIs.later {lo : Nat} {w w' : World} {p : Option Addr} {n : Nat} {F : Nat → Nat} (h : RestIs lo w p n F) (hb : Below w.heap.size w w') : RestIs lo w' p n F := by
  rcases h with h | ⟨rb, a, c, rfl, hlo, hc, hr⟩
  · exact .inl h
  · exact .inr ⟨rb, a, c, rfl, hlo, (hb.cell (p := ⟨rb, 0, none⟩) (lt_of_cell hc)).trans hc, hr.later hb⟩
theorem FRow.mono {lo lo' : Nat} {w : World} {a : Option Addr} {n : Nat} {F : Nat → Nat} (h : FRow lo w a n F) (hl : lo' ≤ lo) : FRow lo' w a n F := by
  rcases h with h | ⟨b, off, rfl, hlo, hc⟩
  · exact .inl h
  · exact .inr ⟨b, off, rfl, by omega, hc⟩
theorem RestIs.mono {lo lo' : Nat} {w : World} {p : Option Addr} {n : Nat} {F : Nat → Nat} (h : RestIs lo w p n F) (hl : lo' ≤ lo) : RestIs lo' w p n F := by
  rcases h with h | ⟨rb, a, c, rfl, hlo, hc, hr⟩
  · exact .inl h
  · exact .inr ⟨rb, a, c, rfl, by omega, hc, hr.mono hl⟩
theorem cell_other {w : World} {b o : Nat} {x : Addr} {v : Value} (h : x.block ≠ b) : (w.setCell x v).cell? ⟨b, o, none⟩ = w.cell? ⟨b, o, none⟩ :=
  World.cell?_setCell_other _ _ _ _ (by intro e; rw [e] at h; exact h rfl)
theorem FRow.set {lo : Nat} {w : World} {a : Option Addr} {n : Nat} {F : Nat → Nat} (h : FRow lo w a n F) {x : Addr} (hx : x.block < lo) (v : Value) : FRow lo (w.setCell x v) a n F := by
  rcases h with h | ⟨b, off, rfl, hlo, hc⟩
  · exact .inl h
  · exact .inr ⟨b, off, rfl, hlo, fun i hi => (cell_other (by omega)).trans (hc i hi)⟩
theorem RestIs.set {lo : Nat} {w : World} {p : Option Addr} {n : Nat} {F : Nat → Nat} (h : RestIs lo w p n F) {x : Addr} (hx : x.block < lo) (v : Value) : RestIs lo (w.setCell x v) p n F := by
  rcases h with h | ⟨rb, a, c, rfl, hlo, hc, hr⟩
  · exact .inl h
  · exact .inr ⟨rb, a, c, rfl, hlo, (cell_other (by omega)).trans hc, hr.set hx v⟩

set_option maxHeartbeats 1000000 in
theorem rest19 (key : Nat) (seq : Int) (line : ByteArray) (p : Option Addr) (n : Nat) (F : Nat → Nat) (lo : Nat) (w : World) (h : RestIs lo w p n F) :
    Calls Tryf.prog 19 #[.agg #[.float .f64 key, .int .i64 seq, .string line, .pointer p]] w fun e w' => (∃ a c, e = .returned (.slice a n c) ∧ FRow lo w' a n F) ∧ Below w.heap.size w w' := by
  rcases h with ⟨rfl, rfl⟩ | ⟨rb, a, c, rfl, hlo, hc, hr⟩
  · go_enter Tryf.func19, Tryf.ntmps19
    go_wp2
    go_ret
    exact ⟨⟨_, _, rfl, .inl rfl⟩, (Below.refl _ _).alloc (Nat.le_refl _) _⟩
  · have hlt := lt_of_cell hc
    go_enter Tryf.func19, Tryf.ntmps19
    go_wp2
    go_ret
    exact ⟨⟨_, _, rfl, hr.later ((Below.refl _ _).alloc (Nat.le_refl _) _)⟩, (Below.refl _ _).alloc (Nat.le_refl _) _⟩

set_option maxHeartbeats 1000000 in
theorem new13 (key : Nat) (seq : Int) (line : ByteArray) (w : World) :
    Calls Tryf.prog 13 #[.float .f64 key, .int .i64 seq, .string line] w fun e w' => e = .returned (.agg #[.float .f64 key, .int .i64 seq, .string line, .pointer none]) ∧ Below w.heap.size w w' := by
  go_enter Tryf.func13, Tryf.ntmps13
  go_wp2
  refine bodyPost_ret (v := .agg #[.float .f64 key, .int .i64 seq, .string line, .pointer none]) (by simp [results, Tryf.results13, go_sem]) rfl ⟨rfl, ?_⟩
  exact (Below.refl _ _).alloc (Nat.le_refl _) _

set_option maxHeartbeats 1000000 in
theorem new14 (key : Nat) (seq : Int) (line : ByteArray) (a : Option Addr) (n c : Nat) (F : Nat → Nat) (lo : Nat) (w : World) (h : FRow lo w a n F) (hlo : lo ≤ w.heap.size) :
    Calls Tryf.prog 14 #[.float .f64 key, .int .i64 seq, .string line, .slice a n c] w fun e w' => (∃ p, e = .returned (.agg #[.float .f64 key, .int .i64 seq, .string line, .pointer p]) ∧ RestIs lo w' p n F) ∧ Below w.heap.size w w' := by
  go_enter Tryf.func14, Tryf.ntmps14
  go_wp2
  have hb : Below w.heap.size w ((w.alloc (.cells #[.slice a n c] 23)).alloc (.cells #[.float .f64 key, .int .i64 seq, .string line, .pointer (some ⟨w.heap.size, 0, none⟩)] 32)) := ((Below.refl _ _).alloc (Nat.le_refl _) _).alloc (by simp) _
  refine bodyPost_ret (v := .agg #[.float .f64 key, .int .i64 seq, .string line, .pointer (some ⟨w.heap.size, 0, none⟩)]) (by simp [results, Tryf.results14, go_sem]) rfl ⟨⟨_, rfl, .inr ⟨w.heap.size, a, c, rfl, hlo, ?_, h.later hb⟩⟩, hb⟩
  rw [World.cell?_alloc_past _ _ _ (by simp), World.cell?_alloc_at _ _ _ _ rfl]; rfl

theorem Tryf.info22 : (Tryf.prog.info? 22).map (fun i => (i.zero, i.size, i.bytes)) = some (some (.float .f64 0), 1, 8) := by kernel_rfl
theorem Tryf.size22 : (Tryf.prog.info? 22).map (·.size) = some 1 := by kernel_rfl

theorem make_floats (n : Nat) (hn : n ≤ 1048576) : ∃ cur : List Value, cur.length = n ∧ (∀ j, j < n → cur[j]? = some (.float .f64 0)) ∧
    ∀ w : World, (Instr.makeSlice 23 (.int .i64 (n : Int)) (.int .i64 (n : Int))).run Tryf.prog w = .ok (.slice (some ⟨w.heap.size, 0, none⟩) n n) (w.alloc (.cells cur.toArray 22)) := by
  obtain ⟨i0, hi, hz0, hz1, hz2⟩ := info_parts Tryf.info22
  refine ⟨(madeCells #[.float .f64 0] n).toList, by simp [size_madeCells], fun j hj => by simp [madeCells, hj, Nat.mod_one], fun w => ?_⟩
  have := run_make (P := Tryf.prog) w 23 22 i0 _ Tryf.underlying23 hi hz0 .i64 .i64 n n (by omega) (by omega) (by rw [hz2]; omega) (by omega)
  rw [hz1] at this
  simpa [Value.cells] using this

def fCells (F : Nat → Nat) (n : Nat) : List Value := (List.range n).map fun i => .float .f64 (F i)
theorem fCells_length (F : Nat → Nat) (n : Nat) : (fCells F n).length = n := by simp [fCells]
theorem fCells_one (F : Nat → Nat) (n : Nat) : ∀ v ∈ fCells F n, v.oneCell' = true := by
  intro v hv; simp [fCells] at hv; obtain ⟨i, _, rfl⟩ := hv; rfl
theorem FRow.src {lo : Nat} {w w' : World} {a : Option Addr} {n : Nat} {F : Nat → Nat} (h : FRow lo w a n F) (hb : Below w.heap.size w w') (hp : 0 < (fCells F n).length) :
    ∃ ad, a = some ad ∧ ∀ j v, (fCells F n)[j]? = some v → w'.cell? (ad.add j) = some v := by
  rw [fCells_length] at hp
  rcases h with h | ⟨b, off, rfl, _, hc⟩
  · omega
  refine ⟨_, rfl, fun j v hv => ?_⟩
  simp [fCells, List.getElem?_eq_some_iff] at hv
  obtain ⟨_, ⟨hj, rfl⟩, rfl⟩ := hv
  have := hc j hj
  rw [show (⟨b, off, none⟩ : Addr).add j = ⟨b, off + j, none⟩ from by simp [Addr.add]]
  exact (hb.cell (p := ⟨b, off + j, none⟩) (lt_of_cell this)).trans this
theorem spliced_cell {w : World} {g : Nat} {cur cs : List Value} {e : TypeId} (h : w.heap[g]? = some (.cells (splice cur 0 cs).toArray e (0, 0))) (i : Nat) (hi : i < cs.length) :
    w.cell? ⟨g, 0 + i, none⟩ = some cs[i] := by
  simp [World.cell?, h, splice, List.getElem?_append, hi]
theorem heap_alloc_at (w : World) (o : Obj) : (w.alloc o).heap[w.heap.size]? = some o := by
  show (w.heap.push o)[w.heap.size]? = _
  simp
theorem copy_floats (w : World) (cur : List Value) (a : Option Addr) (n c : Nat) (F : Nat → Nat) (hcur : cur.length = n) {lo : Nat} (h : FRow lo w a n F) :
    ∃ w2, Sem.run Tryf.prog (Builtin.copy_ #[23, 23] 3 #[.slice (some ⟨w.heap.size, 0, none⟩) n n, .slice a n c]) (w.alloc (.cells cur.toArray 22)) = .ok (.int .i64 (n : Int)) w2 ∧ FRow w.heap.size w2 (some ⟨w.heap.size, 0, none⟩) n F ∧ Below w.heap.size w w2 := by
  have hg : (w.alloc (.cells cur.toArray 22)).heap[w.heap.size]? = some (.cells cur.toArray 22 (0, 0)) := heap_alloc_at _ _
  have hcs := fCells_length F n
  by_cases h0 : n = 0
  · subst h0
    exact ⟨_, run_copy_none (P := Tryf.prog) _ 23 23 3 22 _ _ _ _ _ _ Tryf.underlying23 Tryf.size22 rfl, .inl rfl, (Below.refl _ _).alloc (Nat.le_refl _) _⟩
  · obtain ⟨ad, rfl, hs⟩ := h.src ((Below.refl _ _).alloc (Nat.le_refl _) (.cells cur.toArray 22)) (by omega)
    have hr := run_copy_row (P := Tryf.prog) (w.alloc (.cells cur.toArray 22)) 23 23 3 22 w.heap.size 0 n n ad n c cur.toArray 22 (fCells F n) Tryf.underlying23 Tryf.size22 hg (by rw [hcs]; exact (Nat.min_self _).symm) hs (by simp; omega) (fCells_one F n)
    rw [hcs] at hr
    have hset := setRow_heap (w.alloc (.cells cur.toArray 22)) w.heap.size _ (cur.toArray.toList.take 0 ++ fCells F n ++ cur.toArray.toList.drop (0 + n)).toArray 22 _ hg
    refine ⟨_, hr, .inr ⟨w.heap.size, 0, rfl, Nat.le_refl _, fun i hi => ?_⟩, below_setRow ((Below.refl _ _).alloc (Nat.le_refl _) _) (Nat.le_refl _) _⟩
    have hset' : ((w.alloc (.cells cur.toArray 22)).setRow w.heap.size (cur.toArray.toList.take 0 ++ fCells F n ++ cur.toArray.toList.drop (0 + n)).toArray).heap[w.heap.size]? = some (.cells (splice cur 0 (fCells F n)).toArray 22 (0, 0)) := by
      rw [hset]; simp [splice, hcs]
    rw [spliced_cell hset' i (by omega)]
    simp [fCells]

set_option maxHeartbeats 1000000 in
theorem clone15 (a : Option Addr) (n c : Nat) (F : Nat → Nat) (lo : Nat) (w : World) (h : FRow lo w a n F) (hz : a = none → n = 0) (hn : n ≤ 1048576) :
    Calls Tryf.prog 15 #[.slice a n c] w fun e w' => (∃ a' c', e = .returned (.slice a' n c') ∧ FRow w.heap.size w' a' n F) ∧ Below w.heap.size w w' := by
  have hnq := fun (w : World) (n c : Nat) (a : Option Addr) => Lib.run_eql_slice_nil (P := Tryf.prog) w 23 22 a n c 0 0 Tryf.underlying23
  cases a with
  | none =>
    have hz0 := hz rfl
    subst hz0
    clear hz h
    go_enter Tryf.func15, Tryf.ntmps15
    go_wp2
    go_ret
    exact ⟨⟨_, _, rfl, .inl rfl⟩, Below.refl _ _⟩
  | some ad =>
    clear hz
    obtain ⟨cur, hcur, _, hmk⟩ := make_floats n hn
    obtain ⟨w2, hcp, hr, hb⟩ := copy_floats w cur (some ad) n c F hcur h
    clear hcur
    go_enter Tryf.func15, Tryf.ntmps15
    go_wp2
    go_ret
    exact ⟨⟨_, _, rfl, hr⟩, hb⟩

/-- A new Record variable, later: its four cells and that they may be written. -/
theorem zero_rec {w w1 : World} (hb : Below (w.alloc (.cells #[.float .f64 0, .int .i64 0, .string ⟨#[]⟩, .pointer none] 32)).heap.size (w.alloc (.cells #[.float .f64 0, .int .i64 0, .string ⟨#[]⟩, .pointer none] 32)) w1) :
    (w1.cell? ⟨w.heap.size, 0, none⟩ = some (.float .f64 0) ∧ w1.cell? ⟨w.heap.size, 1, none⟩ = some (.int .i64 0) ∧ w1.cell? ⟨w.heap.size, 2, none⟩ = some (.string ⟨#[]⟩) ∧ w1.cell? ⟨w.heap.size, 3, none⟩ = some (.pointer none)) ∧
    (w1.frozen? ⟨w.heap.size, 0, none⟩ = false ∧ w1.frozen? ⟨w.heap.size, 1, none⟩ = false ∧ w1.frozen? ⟨w.heap.size, 2, none⟩ = false ∧ w1.frozen? ⟨w.heap.size, 3, none⟩ = false) ∧ w.heap.size < w1.heap.size ∧ Below w.heap.size w w1 := by
  have hlt : w.heap.size < (w.alloc (.cells #[.float .f64 0, .int .i64 0, .string ⟨#[]⟩, .pointer none] 32)).heap.size := by simp
  have c : ∀ j, w1.cell? ⟨w.heap.size, j, none⟩ = (#[Value.float .f64 0, .int .i64 0, .string ⟨#[]⟩, .pointer none] : Array Value)[j]? := fun j => by
    rw [hb.cell (p := ⟨w.heap.size, j, none⟩) hlt, World.cell?_alloc_at _ _ _ _ rfl]
  have f : ∀ j, w1.frozen? ⟨w.heap.size, j, none⟩ = false := fun j => by
    rw [hb.frozen (p := ⟨w.heap.size, j, none⟩) hlt, World.frozen?_alloc_at _ _ _ _ rfl]
  exact ⟨⟨c 0, c 1, c 2, c 3⟩, ⟨f 0, f 1, f 2, f 3⟩, Nat.lt_of_lt_of_le hlt hb.size, ((Below.refl _ _).alloc (Nat.le_refl _) _).trans (hb.mono (by simp))⟩

set_option maxHeartbeats 1000000 in
theorem toRec6 (key : Nat) (seq : Int) (line : ByteArray) (a : Option Addr) (n c : Nat) (F : Nat → Nat) (lo : Nat) (w : World) (h : FRow lo w a n F) (hz : a = none → n = 0) (hn : n ≤ 1048576) :
    Calls Tryf.prog 6 #[.float .f64 key, .int .i64 seq, .string line, .slice a n c] w fun e w' => (∃ p, e = .returned (.agg #[.float .f64 key, .int .i64 seq, .string line, .pointer p]) ∧ RestIs w.heap.size w' p n F) ∧ Below w.heap.size w w' := by
  have HZ : Hid (a = none → n = 0) := hz
  clear hz
  by_cases h0 : n = 0
  · subst h0
    go_enter Tryf.func6, Tryf.ntmps6
    go_wp2_with fail
    refine (new13 key seq line _).mono ?_
    rintro e w1 ⟨rfl, hb⟩
    obtain ⟨⟨c0, c1, c2, c3⟩, ⟨f0, f1, f2, f3⟩, hsz, hb'⟩ := zero_rec hb
    clear hb
    go_wp2_with fail
    refine bodyPost_ret (v := .agg #[.float .f64 key, .int .i64 seq, .string line, .pointer none]) (by simp [results, Tryf.results6, go_sem, c0, c1, c2, c3]) rfl ⟨⟨_, rfl, .inl ⟨rfl, rfl⟩⟩, ?_⟩
    exact (((hb'.setCell (by simp) _).setCell (by simp) _).setCell (by simp) _).setCell (by simp) _
  · have hz' : ((n : Int) == 0) = false := by simp; omega
    go_enter Tryf.func6, Tryf.ntmps6
    go_wp2_with fail
    have hb0 : Below w.heap.size w (w.alloc (.cells #[.float .f64 0, .int .i64 0, .string ⟨#[]⟩, .pointer none] 32)) := (Below.refl _ _).alloc (Nat.le_refl _) _
    refine (clone15 a n c F lo _ (h.later hb0) HZ.out hn).mono ?_
    rintro e w1 ⟨⟨a', c', rfl, hr⟩, hb1⟩
    go_wp2_with fail
    refine (new14 key seq line a' n c' F _ w1 hr hb1.size).mono ?_
    rintro e w2 ⟨⟨p, rfl, hp⟩, hb2⟩
    obtain ⟨⟨c0, c1, c2, c3⟩, ⟨f0, f1, f2, f3⟩, hsz, hb'⟩ := zero_rec (hb1.trans (hb2.mono hb1.size))
    clear hb1 hb2 hr hb0
    go_wp2_with fail
    refine bodyPost_ret (v := .agg #[.float .f64 key, .int .i64 seq, .string line, .pointer p]) (by simp [results, Tryf.results6, go_sem, c0, c1, c2, c3]) rfl ⟨⟨_, rfl, ?_⟩, ?_⟩
    · exact ((((hp.set (by simp) _).set (by simp) _).set (by simp) _).set (by simp) _).mono (by simp)
    · exact (((hb'.setCell (by simp) _).setCell (by simp) _).setCell (by simp) _).setCell (by simp) _

end Go.Proofs.Qxb6613954aFmt
