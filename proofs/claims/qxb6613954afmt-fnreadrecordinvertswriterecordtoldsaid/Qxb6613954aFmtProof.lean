/-
  'Rows.FnReadRecordInvertsWriteRecordToldSaid'.
-/
import Derived.Test.Qxb6613954aFmtCards
import Derived.Test.Qxb6613954aFmtTie
import Derived.Test.Qxb6613954aFmtMain
import Derived.ProofKit
import Derived.OpenShut
import Derived.ShutString
import Derived.SliceStrings
import Derived.Deep.Slices
import Derived.Laws.Cover2
import Derived.Below
import Derived.WalkSmall
import Derived.Stop.JoinedAt
import Derived.Stop.JoinedTold
import Derived.Stop.LaidErr
import Derived.SevenToldRow
import Derived.SevenTiedAt
namespace Go.Proofs.Qxb6613954aFmt
open Go.ChangeShapes Go.WideShapes Go.ChangeAt Go.RowKit Go.Kit
open Go.WideMaps Go.WideElems
open Go.ChangeMaps (open_string shut_string)
open Go.Extern.Stop Go.Stop Go.Extern
set_option linter.unusedVariables false

theorem own : ownKnob Tryf.prog.godebug = none := by kernel_rfl
theorem laidOut : laidOutB Tryf.pinned.checked.prog = true := by kernel_rfl
theorem laidOutP : laidOutB Tryf.prog = true := by kernel_rfl
theorem stopsAre : Tryf.pinned.checked.prog.stops = ["fmt.errorf, its operands' methods called"] := by kernel_rfl
theorem stopKnobsAre : Tryf.pinned.checked.prog.stopKnobs = [] := by kernel_rfl
theorem quietAre (os : Os) : Stop.quiet Tryf.pinned.checked.prog os := by
  intro k hk
  rw [stopKnobsAre] at hk
  cases hk

theorem gShort : Tryf.prog.globalNamed "example.com/orderweave/orderweave/internal/wire.errShort" = some 0 := by kernel_rfl
theorem gShortType : (Tryf.prog.globals[0]?).map (·.type) = some 47 := by kernel_rfl
theorem cells95 : Tryf.prog.cellsOf 95 = 1 := by kernel_rfl
theorem cells9 : Tryf.prog.cellsOf 9 = 1 := by kernel_rfl
theorem star : "*" ++ "errors.errorString" = "*errors.errorString" := by decide
theorem row93 (u : TypeId) (h : Tryf.prog.typeName? 3 u = some "*errors.errorString") : u = 93 :=
  typeName_ptr_named (nm := "errors.errorString") (by rw [star]; kernel_rfl) (by kernel_rfl) (by decide) u (by rw [star]; exact h)

abbrev shortS : ByteArray := { data := #[109, 101, 115, 115, 97, 103, 101, 32, 101, 110, 100, 115, 32, 101, 97, 114, 108, 121] }
noncomputable def low : Nat := (World.holding Tryf.prog default ⟨#[], #[], []⟩).heap.size
noncomputable def laidWorld (os : Os) : World :=
  let w0 := World.holding Tryf.prog os ⟨#[.cells #[.string shortS] 95], #[], []⟩
  { w0 with heap := w0.heap.modify 0 fun
      | .cells _ t frozen => .cells #[.iface 93 (.pointer (some ⟨low, 0, none⟩))] t frozen
      | o => o }
theorem laid_met (os : Os) (args : Array Value) : laidMet Tryf.prog Rows.fnReadRecordInvertsWriteRecordRow.laid ((laidWorld os).forCall (fun _ _ => 0) ⟨#[], args, []⟩).memory :=
  laidMet_of_run (ps := [.cell 0 0, .cell low 0]) 8 (by kernel_rfl) (by kernel_rfl) (by kernel_rfl)

theorem trod_float {H : Type} {enc : TypeId × Value → H} {P : Program} {w : World} {base : Nat} {spare : Nat → Bool} {held : Bool} {fuel : Nat} {t : TypeId} {cs : List Value} {x : DataW H × List MemPlace} {k : FloatKind}
    (ht : P.underlying t = some (.float k)) (h : DataW.trod enc P w base spare held fuel t cs = some x) : ∃ n, cs = [.float k n] ∧ (Lit.float k n).wf = true := by
  cases fuel with
  | zero => simp [DataW.trod] at h
  | succ n =>
    unfold DataW.trod at h
    rw [ht] at h
    split at h <;> simp_all

theorem add_spot {a : Addr} {w : World} {v : Value} (h : w.cell? (a.add 0) = some v) : a.spot = none := by
  obtain ⟨b, off, spot⟩ := a
  simpa [Addr.add] using World.cell?_spot h

theorem bits_lt {b : Nat} (h : (Lit.float .f64 b).wf = true) : b < 18446744073709551616 := by
  simpa [Lit.wf] using h

/-- The argument of type []float64. -/
theorem open_floats {H : Type} {enc : TypeId × Value → H} {W : World} {base : Nat} {spare : Nat → Bool} {held : Bool} {a0 : Option Addr} {len0 cap0 : Nat} {d : DataW H} {p : List MemPlace} (h : DataW.Trod enc Tryf.prog W base spare held 23 (.slice a0 len0 cap0) d p) :
    ∃ F, FRow 0 W a0 len0 F ∧ (a0 = none → len0 = 0) ∧ len0 ≤ 9223372036854775807 ∧ FOk len0 F := by
  obtain ⟨fuel, hf⟩ := h
  rcases Go.Deep.open_slice1 Tryf.underlying23 (by kernel_rfl) hf with ⟨hcs, _⟩ | ⟨a, len, cap, m, n, V, D, Pl, hcs, _, hl, hm, hmm, _, hx⟩
  · simp [Value.cells] at hcs
    obtain ⟨rfl, rfl, rfl⟩ := hcs
    exact ⟨fun _ => 0, .inl rfl, fun _ => rfl, by omega, fun i hi => by omega⟩
  · simp [Value.cells] at hcs
    obtain ⟨rfl, rfl, rfl⟩ := hcs
    unfold maxLen at hm
    have hml : len0 ≤ m := by rw [hmm]; split <;> omega
    have each : ∀ i, i < len0 → ∃ b, W.cell? (a.add i) = some (.float .f64 b) ∧ b < 18446744073709551616 := fun i hi => by
      obtain ⟨h1, h2⟩ := hx i (by omega)
      obtain ⟨b, e, hw⟩ := trod_float Tryf.underlying22 h2
      simp at e
      exact ⟨b, by rw [h1, e], bits_lt hw⟩
    have each' : ∀ i, ∃ b, i < len0 → W.cell? (a.add i) = some (.float .f64 b) ∧ b < 18446744073709551616 := fun i => by
      by_cases hi : i < len0
      · obtain ⟨b, hb⟩ := each i hi
        exact ⟨b, fun _ => hb⟩
      · exact ⟨0, fun h => absurd h hi⟩
    refine ⟨fun i => Classical.choose (each' i), ?_, (fun e => by cases e), by omega, fun i hi => (Classical.choose_spec (each' i) hi).2⟩
    by_cases h0 : len0 = 0
    · exact .inl h0
    obtain ⟨b, off, spot⟩ := a
    have hspot : spot = none := add_spot (Classical.choose_spec (each' 0) (by omega)).1
    subst hspot
    exact .inr ⟨b, off, rfl, Nat.zero_le _, fun i hi => by rw [← add_plain]; exact (Classical.choose_spec (each' i) hi).1⟩

/-- The argument of type []byte. -/
theorem open_tail {H : Type} {enc : TypeId × Value → H} {W : World} {base : Nat} {spare : Nat → Bool} {held : Bool} {a0 : Option Addr} {len0 cap0 : Nat} {d : DataW H} {p : List MemPlace} (h : DataW.Trod enc Tryf.prog W base spare held 24 (.slice a0 len0 cap0) d p) :
    ∃ T, TailIs W a0 T ∧ T.length = len0 ∧ len0 ≤ 9223372036854775807 := by
  obtain ⟨fuel, hf⟩ := h
  rcases open_ints Tryf.underlying24 Tryf.underlying5 (by kernel_rfl) hf with ⟨hcs, _⟩ | ⟨a, len, cap, zs, hcs, _, hl, hm, hz, _, hcell, hwf⟩
  · simp [Value.cells] at hcs
    obtain ⟨rfl, rfl, rfl⟩ := hcs
    exact ⟨[], .inl rfl, rfl, by omega⟩
  · simp [Value.cells] at hcs
    obtain ⟨rfl, rfl, rfl⟩ := hcs
    unfold maxLen at hm
    have hzl : len0 ≤ zs.length := by rw [hz]; split <;> omega
    refine ⟨(zs.take len0).map fun z => UInt8.ofNat z.toNat, ?_, by simp; omega, by omega⟩
    by_cases h0 : len0 = 0
    · subst h0; exact .inl (by simp)
    obtain ⟨b, off, spot⟩ := a
    have hspot : spot = none := add_spot (hcell 0 (by omega))
    subst hspot
    refine .inr ⟨b, off, rfl, fun j hj => ?_⟩
    have hj' : j < zs.length := by simp at hj; omega
    have hc := hcell j hj'
    rw [add_plain] at hc
    rw [hc]
    have hw := hwf (zs.getD j 0) (by simp [List.getD, hj'])
    simp [Lit.wf, IntKind.min, IntKind.max, IntKind.signed, IntKind.bits] at hw
    simp [List.getD, hj'] at hw ⊢
    omega

set_option maxRecDepth 100000 in
theorem t_lifted (os : Os) (started : os.Started) (H : Type) (enc : TypeId × Value → H) :
    ReturnsInTold none {} Tryf.checked os 3 .any Input.okWide ((OpenSpec.ofChange Rows.fnReadRecordInvertsWriteRecordSpec).preRow enc Tryf.prog Tryf.f3 [] false Rows.fnReadRecordInvertsWriteRecordRow.laid) (fun F => ((OpenSpec.ofChange Rows.fnReadRecordInvertsWriteRecordSpec).at F).post enc Tryf.prog Tryf.f3 false true false false) (aloneAtReturn Tryf.prog) nothingAlways := by
  refine returnsInTold_of_row (C := Tryf.checked) (s := OpenSpec.ofChange Rows.fnReadRecordInvertsWriteRecordSpec) (by kernel_rfl) own started (by kernel_rfl) Tryf.func3
    (OpenSpec.witness_stopped_at (enc := enc) (C := Tryf.checked) false (laidWorld os) #[.float .f64 0, .slice none 0 0, .int .i64 0, .string ⟨#[]⟩, .slice none 0 0] rfl (by kernel_rfl) (by kernel_rfl) (by kernel_rfl)
      (OpenSpec.preRow_of_B rfl 8 (by kernel_rfl) (by kernel_rfl) (laid_met os _))) ?_
  intro F W base args ds gs before _ hF hval0 hW _ _ _ hL _
  have hval : ∀ (j : Nat) t v, Tryf.f3.params[j]? = some t → args[j]? = some v → Value.okWide Tryf.prog W .any base t v := hval0
  have hW' := hW
  obtain ⟨p, q, hA0, hV0, rfl, hfz, hnd⟩ := hW
  have hA : DataW.TrodAll enc Tryf.prog W 0 (fun _ => true) true Tryf.f3.params.toList args.toList ds p := hA0
  have hV : DataW.TrodVars enc Tryf.prog W (fun _ => true) ["example.com/orderweave/orderweave/internal/wire.errShort"] gs q := hV0
  rw [Tryf.params3] at hA hval
  obtain ⟨v0, vs0, d0, ds0, p0, q0, hargs, rfl, rfl, h0, r0⟩ := trodAll_cons hA
  obtain ⟨v1, vs1, d1, ds1, p1, q1, rfl, rfl, rfl, h1, r1⟩ := trodAll_cons r0
  obtain ⟨v2, vs2, d2, ds2, p2, q2, rfl, rfl, rfl, h2, r2⟩ := trodAll_cons r1
  obtain ⟨v3, vs3, d3, ds3, p3, q3, rfl, rfl, rfl, h3, r3⟩ := trodAll_cons r2
  obtain ⟨v4, vs4, d4, ds4, p4, q4, rfl, rfl, rfl, h4, r4⟩ := trodAll_cons r3
  obtain ⟨rfl, rfl, rfl⟩ := trodAll_nil r4
  obtain rfl : args = #[v0, v1, v2, v3, v4] := by cases args; simp_all
  obtain ⟨key, rfl, rfl, rfl, wk⟩ := open_float Tryf.underlying22 (hval 0 22 v0 rfl rfl) h0
  obtain ⟨a1, len1, cap1, rfl⟩ := okWide_slice Tryf.underlying23 (hval 1 23 v1 rfl rfl)
  have k1 := h1
  have lt1 : ∀ x ∈ p1, x.block < W.heap.size := by obtain ⟨m, hm⟩ := k1; exact DataW.trod_lt m _ _ _ hm
  obtain ⟨Fl, hfr, hz, hn0, hfo⟩ := open_floats h1
  obtain ⟨seq, rfl, rfl, rfl, wq⟩ := open_int Tryf.underlying3 (hval 2 3 v2 rfl rfl) h2
  obtain ⟨s, rfl, rfl, rfl, hs⟩ := open_string Tryf.underlying9 (hval 3 9 v3 rfl rfl) h3
  obtain ⟨a4, len4, cap4, rfl⟩ := okWide_slice Tryf.underlying24 (hval 4 24 v4 rfl rfl)
  have k4 := h4
  have lt4 : ∀ x ∈ p4, x.block < W.heap.size := by obtain ⟨m, hm⟩ := k4; exact DataW.trod_lt m _ _ _ hm
  obtain ⟨T, hT, hTl, hm0⟩ := open_tail h4
  obtain ⟨x1, s1, hv1, hc1, hs1, hz1⟩ := laid_sentinel hL gShort gShortType Tryf.underlying47 row93 Tryf.underlying93 Tryf.underlying95 rfl rfl Tryf.underlying9 cells95 cells9
  obtain ⟨rfl, rfl⟩ := hV.unique (vars_read1 enc gShort gShortType Tryf.underlying47 hv1 trivial _)
  clear hA0 hV0 hval0
  have hg1 : W.cell? ⟨0, 0, none⟩ = some (.iface 93 (.pointer (some x1))) := by simpa using World.var?_cell gShort hv1 0
  have h0lt : 0 < W.heap.size := lt_of_cell hg1
  have hq : -9223372036854775808 ≤ seq ∧ seq ≤ 9223372036854775807 := by
    have := wq
    simp [Lit.wf, IntKind.min, IntKind.max, IntKind.signed, IntKind.bits] at this
    omega
  have hs0 : s.size ≤ 9223372036854775807 := by
    have := hs
    unfold maxLen at this
    omega
  refine (main3 key a1 len1 cap1 seq s a4 len4 cap4 Fl T W _ _ hfr hz hT hTl hg1 (bits_lt wk) hfo hq.1 hq.2 hn0 hm0 hs0).mono fun e W' ⟨he, bel⟩ => ?_
  subst he
  exact ⟨_, rfl, _, _, _, [], _, [.cell 0 0], hW', trodAll_mk1 (shut_bool Tryf.underlying4 _), (trodAll_cons_mk (shut_float Tryf.underlying22 wk) (trodAll_cons_mk (Below.trod laidOutP (by kernel_rfl) (of_decide_eq_true (by kernel_rfl)) k1 bel lt1) (trodAll_cons_mk (shut_int Tryf.underlying3 wq) (trodAll_cons_mk (shut_string Tryf.underlying9 hs) (trodAll_cons_mk (Below.trod laidOutP (by kernel_rfl) (of_decide_eq_true (by kernel_rfl)) k4 bel lt4) trodAll_mk0))))), vars_read1 enc gShort gShortType Tryf.underlying47 (var?_below bel gShort h0lt hv1) trivial _, bel.frame _, fun h => by cases h⟩

theorem told_tied_proved : Rows.FnReadRecordInvertsWriteRecordToldSaid :=
  Claim7.holds_of_told_tied_any_at .later 3 Tryf.f3 "fmt.errorf, its operands' methods called" [] [] _ _ _ _ _ (by kernel_rfl) rfl rfl rfl laidOut (by kernel_rfl) rfl ⟨rfl, rfl, rfl, rfl, rfl, rfl, rfl⟩ rfl rfl (by kernel_rfl) (by kernel_rfl) Tryf.func3 (by kernel_rfl)
    (of_decide_eq_true (by kernel_rfl)) (of_decide_eq_true (by kernel_rfl)) stopsAre.symm rfl stopKnobsAre.symm (by kernel_rfl)
    (by kernel_rfl) (by kernel_rfl) (by kernel_rfl) (by kernel_rfl) (by kernel_rfl) (by kernel_rfl) (by kernel_rfl) (by kernel_rfl) (by kernel_rfl) rfl (by kernel_rfl) rfl rfl
    rfl rfl
    rfl (by kernel_rfl) (by kernel_rfl) (by kernel_rfl) (by decide) (by kernel_rfl) fnReadRecordInvertsWriteRecord_row_tie
    (OpenClaim.moreEntering_of (by kernel_rfl) (by kernel_rfl) (by kernel_rfl) (by kernel_rfl) (by kernel_rfl) (by kernel_rfl) (by kernel_rfl) (by kernel_rfl) (by kernel_rfl) (by kernel_rfl))
    ⟨_, WideRow.started_initial, quietAre _⟩
    (fun os started _ H enc _ => t_lifted os started H enc)
#print axioms told_tied_proved
end Go.Proofs.Qxb6613954aFmt
