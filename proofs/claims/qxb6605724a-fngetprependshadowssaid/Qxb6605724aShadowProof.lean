/-
  'Rows.FnGetPrependShadowsSaid'.
-/
import Derived.Test.Qxb6605724aShadowWalk
import Derived.ProofKit
import Derived.OpenShut
import Derived.ShutString
import Derived.ChangeOld
import Derived.SliceStrings
import Derived.Below
namespace Go.Proofs.Qxb6605724a
open Go.ChangeShapes Go.WideShapes Go.ChangeAt Go.RowKit
open Go.WideMaps Go.WideElems
open Go.ChangeMaps (open_string shut_string)
set_option linter.unusedVariables false

theorem sh_own : ownKnob Try.prog.godebug = none := by kernel_rfl
theorem sh_laidOut : laidOutB Try.prog = true := by kernel_rfl

theorem sh_strRow_of {w : World} {a : Addr} {len : Nat} {ss : List ByteArray} (hl : len ≤ ss.length) (hc : ∀ i, i < ss.length → w.cell? (a.add i) = some (.string (ss.getD i ByteArray.empty))) :
    StrRow w (some a) len (fun i => ss.getD i ByteArray.empty) := by
  by_cases h0 : len = 0
  · exact .inl h0
  obtain ⟨b, off, spot⟩ := a
  have hspot : spot = none := by simpa [Addr.add] using World.cell?_spot (hc 0 (by omega))
  subst hspot
  exact .inr ⟨b, off, rfl, fun i hi => by rw [← add_plain]; exact hc i (by omega)⟩
theorem sh_intRow_of {w : World} {a : Addr} {len : Nat} {zs : List Int} (hl : len ≤ zs.length) (hc : ∀ i, i < zs.length → w.cell? (a.add i) = some (.int .i64 (zs.getD i 0))) :
    IntRow w (some a) len (fun i => zs.getD i 0) := by
  by_cases h0 : len = 0
  · exact .inl h0
  obtain ⟨b, off, spot⟩ := a
  have hspot : spot = none := by simpa [Addr.add] using World.cell?_spot (hc 0 (by omega))
  subst hspot
  exact .inr ⟨b, off, rfl, fun i hi => by rw [← add_plain]; exact hc i (by omega)⟩

set_option maxRecDepth 100000 in
theorem shadow_lifted (os : Os) (started : os.Started) (H : Type) (enc : TypeId × Value → H) :
    ReturnsInHanded {} Try.checked os 4 .any (Rows.fnGetPrependShadowsSpec.pre6 enc Try.prog Try.f4 Rows.fnGetPrependShadowsRow.domain false) (Rows.fnGetPrependShadowsSpec.post enc Try.prog Try.f4 false true false false) := by
  refine returnsInHanded_of_change (C := Try.checked) sh_own started (by kernel_rfl) Try.func4
    (ChangeSpec.witness6 (enc := enc) (C := Try.checked) false ⟨#[], #[.slice none 0 0, .slice none 0 0, .string ByteArray.empty, .string ByteArray.empty, .int .i64 0], []⟩ 8 (by kernel_rfl) (by kernel_rfl) (by kernel_rfl) (by kernel_rfl)) ?_
  intro W base args ds gs before hval0 hW hcnd _
  have hval : ∀ (j : Nat) t v, Try.f4.params[j]? = some t → args[j]? = some v → Value.okWide Try.prog W .any base t v := hval0
  have hW' := hW
  obtain ⟨p, q, hA0, hV, rfl, hfz, hnd⟩ := hW
  have hA : DataW.TrodAll enc Try.prog W 0 (fun _ => true) true Try.f4.params.toList args.toList ds p := hA0
  rw [Try.params4] at hA hval
  obtain ⟨v0, vs0, d0, ds0, p0, q0, hargs, rfl, rfl, h0, r0⟩ := trodAll_cons hA
  obtain ⟨v1, vs1, d1, ds1, p1, q1, rfl, rfl, rfl, h1, r1⟩ := trodAll_cons r0
  obtain ⟨v2, vs2, d2, ds2, p2, q2, rfl, rfl, rfl, h2, r2⟩ := trodAll_cons r1
  obtain ⟨v3, vs3, d3, ds3, p3, q3, rfl, rfl, rfl, h3, r3⟩ := trodAll_cons r2
  obtain ⟨v4, vs4, d4, ds4, p4, q4, rfl, rfl, rfl, h4, r4⟩ := trodAll_cons r3
  obtain ⟨rfl, rfl, rfl⟩ := trodAll_nil r4
  obtain rfl : args = #[v0, v1, v2, v3, v4] := by cases args; simp_all
  obtain ⟨rfl, rfl⟩ := trodVars_none hV
  obtain ⟨a0, len0, cap0, rfl⟩ := okWide_slice Try.underlying22 (hval 0 22 v0 rfl rfl)
  have k0 := h0
  have lt0 : ∀ x ∈ p0, x.block < W.heap.size := by obtain ⟨m, hm⟩ := k0; exact DataW.trod_lt m _ _ _ hm
  obtain ⟨S, s0, n0, m0⟩ : ∃ S, StrRow W a0 len0 S ∧ (a0 = none → len0 = 0) ∧ len0 ≤ 9223372036854775807 := by
    obtain ⟨fuel, hf⟩ := h0
    rcases open_strings Try.underlying22 Try.underlying9 (by kernel_rfl) hf with ⟨hcs, _⟩ | ⟨x, l, c, zs, hcs, _, hl, hm, hz, _, hcell, _⟩
    · simp [Value.cells] at hcs
      obtain ⟨rfl, rfl, rfl⟩ := hcs
      exact ⟨fun _ => ByteArray.empty, .inl rfl, fun _ => rfl, by omega⟩
    · simp [Value.cells] at hcs
      obtain ⟨rfl, rfl, rfl⟩ := hcs
      unfold maxLen at hm
      exact ⟨_, sh_strRow_of (by simp at hz; omega) hcell, (fun e => by cases e), by omega⟩
  obtain ⟨a1, len1, cap1, rfl⟩ := okWide_slice Try.underlying23 (hval 1 23 v1 rfl rfl)
  have k1 := h1
  have lt1 : ∀ x ∈ p1, x.block < W.heap.size := by obtain ⟨m, hm⟩ := k1; exact DataW.trod_lt m _ _ _ hm
  obtain ⟨Z, s1, n1, m1⟩ : ∃ Z, IntRow W a1 len1 Z ∧ (a1 = none → len1 = 0) ∧ len1 ≤ 9223372036854775807 := by
    obtain ⟨fuel, hf⟩ := h1
    rcases open_ints Try.underlying23 Try.underlying2 (by kernel_rfl) hf with ⟨hcs, _⟩ | ⟨x, l, c, zs, hcs, _, hl, hm, hz, _, hcell, _⟩
    · simp [Value.cells] at hcs
      obtain ⟨rfl, rfl, rfl⟩ := hcs
      exact ⟨fun _ => 0, .inl rfl, fun _ => rfl, by omega⟩
    · simp [Value.cells] at hcs
      obtain ⟨rfl, rfl, rfl⟩ := hcs
      unfold maxLen at hm
      exact ⟨_, sh_intRow_of (by simp at hz; omega) hcell, (fun e => by cases e), by omega⟩
  obtain ⟨s, rfl, rfl, rfl, hs⟩ := open_string Try.underlying9 (hval 2 9 v2 rfl rfl) h2
  obtain ⟨o, rfl, rfl, rfl, ho⟩ := open_string Try.underlying9 (hval 3 9 v3 rfl rfl) h3
  obtain ⟨v, rfl, rfl, rfl, wv⟩ := open_int Try.underlying2 (hval 4 2 v4 rfl rfl) h4
  clear hA0 hval0
  refine (shadow4 a0 a1 len0 cap0 len1 cap1 s o v S Z W s0 s1 m0 m1 hs ho).mono fun e W' ⟨he, bel⟩ => ?_
  subst he
  exact ⟨_, rfl, _, _, _, [], _, [], hW', trodAll_mk1 (shut_bool Try.underlying4 _), (trodAll_cons_mk (Below.trod sh_laidOut (by kernel_rfl) (of_decide_eq_true (by kernel_rfl)) k0 bel lt0) (trodAll_cons_mk (Below.trod sh_laidOut (by kernel_rfl) (of_decide_eq_true (by kernel_rfl)) k1 bel lt1) (trodAll_cons_mk (shut_string Try.underlying9 hs) (trodAll_cons_mk (shut_string Try.underlying9 ho) (trodAll_cons_mk (shut_int Try.underlying2 wv) trodAll_mk0))))), rfl, bel.frame _, fun h => by cases h⟩

theorem shadow_proved : Rows.FnGetPrependShadowsSaid :=
  OpenClaim.holds_of_wide 4 Try.f4 rfl rfl rfl rfl rfl rfl rfl ⟨rfl, rfl, rfl, rfl, rfl⟩ rfl rfl rfl rfl rfl (by kernel_rfl) Try.func4 (by kernel_rfl)
    (of_decide_eq_true (by kernel_rfl)) (by unfold Func.isWrapper; first | (rw [if_pos (by decide +kernel)]; kernel_rfl) | (rw [if_neg (by decide +kernel)]; exact ⟨rfl, rfl⟩))
    (fun os started H enc _ => shadow_lifted os started H enc)
#print axioms shadow_proved
end Go.Proofs.Qxb6605724a
