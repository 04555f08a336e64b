/-
  The walk of 'FnCountedParsesBack'.
-/
import Derived.Test.Qxb6605724aFmtCounted
import Derived.Test.Qxb6605724aFmtPlain
import Derived.Deep.DeepCutAuto
namespace Go.Proofs.Qxb6605724aFmt
open Go.RowKit Go.Extern.Stop Go.Stop Go.Extern Go.Kit

theorem no_blank {n : Int} {num : ByteArray} {st : Nat} (h : Num n num st) (k : Nat) (hk : k < num.size) : num[k].toNat ≠ 32 := by
  by_cases hs : st ≤ k
  · have := h.digit k hk hs; omega
  · rcases h.sign with ⟨_, rfl, h45⟩ | ⟨_, rfl⟩
    · obtain rfl : k = 0 := by omega
      have := h45 hk; omega
    · omega

theorem mag_neg (n : Int) (h : n < 0) (h0 : -9223372036854775808 ≤ n) : ((n.natAbs : Int) != IntKind.u64.wrap (-IntKind.u64.wrap n)) = false := by
  have : (n.natAbs : Int) = IntKind.u64.wrap (-IntKind.u64.wrap n) := by
    rw [IntKind.wrap_u64, IntKind.wrap_u64]; omega
  rw [← this]; simp
theorem mag_pos (n : Int) (h : ¬ n < 0) (h1 : n ≤ 9223372036854775807) : ((n.natAbs : Int) != IntKind.u64.wrap n) = false := by
  have : (n.natAbs : Int) = IntKind.u64.wrap n := by
    rw [IntKind.wrap_u64]; omega
  rw [← this]; simp
theorem mag_zero (n : Int) (h : n < 0) : ((n.natAbs : Int) == 0) = false := by simp; omega

theorem rest_one {R u : ByteArray} (h : R.data.toList = unitOf 1 u.data.toList) : (R.toList == u.toList) = true := by
  rw [ByteArray.toList_eq, ByteArray.toList_eq, h]; simp [unitOf]
theorem rest_more {n : Int} {R u : ByteArray} (h : R.data.toList = unitOf n u.data.toList) (h1 : ¬ n = 1) :
    R.size = u.size + 1 ∧ ((R.extract 0 u.size).toList == u.toList) = true ∧ ∀ hh : u.size < R.size, R[u.size].toNat = 115 := by
  have e : R.data.toList = u.data.toList ++ [115] := by rw [h]; simp [unitOf, h1]
  have hsz : R.size = u.size + 1 := by
    have : R.data.toList.length = (u.data.toList ++ [115]).length := by rw [e]
    simp at this
    omega
  refine ⟨hsz, ?_, fun hh => ?_⟩
  · have : R.extract 0 u.size = u := ext_list (by simp [e])
    rw [this]; simp
  · have := at_list R u.size hh
    rw [e, List.getElem?_append_right (by simp)] at this
    simp at this
    rw [← this]; rfl

set_option maxRecDepth 100000 in
set_option maxHeartbeats 1000000 in
theorem walk3 (F : Interp) (n : Int) (u : ByteArray) (w : World) (hF : F.told.answers w.tape) (wn : (Lit.int .i64 n).wf = true) (mu : u.size ≤ 9223372036854775807) (n0 : -9223372036854775808 ≤ n) (n1 : n ≤ 9223372036854775807) :
    Calls Tryf.prog 3 #[.int .i64 n, .string u] w fun e w' => e = .returned (.bool true) ∧ Below w.heap.size w w' := by
  have HN : Hid (-9223372036854775808 ≤ n ∧ n ≤ 9223372036854775807) := ⟨n0, n1⟩
  clear n0 n1
  go_enter Tryf.func3, Tryf.ntmps3
  go_wp2_with (go_at_call 4; refine (bytes4 n u w mu).mono ?_; rintro e w1 ⟨⟨bb, rfl⟩, rfl⟩; cases bb)
  · go_ret; exact ⟨rfl, Below.refl _ _⟩
  · go_ret; exact ⟨rfl, Below.refl _ _⟩
  · have lu : u.size ≤ 1048576 := Int.ofNat_le.mp (by assumption)
    refine (counted_told F n u w hF lu wn).mono ?_
    rintro e w1 ⟨⟨s, rfl, hs⟩, hb⟩
    obtain ⟨num, R, hnum, hR, hcut⟩ := cut_of s _ _ hs
    have hN := num_of n num hnum HN.out.1 HN.out.2
    obtain ⟨st, hst⟩ : ∃ st, st = if n < 0 then 1 else 0 := ⟨_, rfl⟩
    rw [← hst] at hN
    have HR : Hid (R.data.toList = unitOf n u.data.toList) := hR
    have HX : Hid (Cut s num R) := hcut
    have HM : Hid (Num n num st) := hN
    obtain ⟨P, hP⟩ : ∃ P, num.size = P := ⟨_, rfl⟩
    have HP : Hid (num.size = P) := hP
    have b1 : P ≤ 21 := by have := hN.short; omega
    have b2 : st < P := by have := hN.lt; omega
    have b3 := hcut.size
    have b4 : R.size ≤ 1048577 := by
      have e1 : R.size = (unitOf n u.data.toList).length := by rw [← hR]; simp
      have e2 : u.data.toList.length = u.size := by simp
      rw [e1]; unfold unitOf; split <;> simp <;> omega
    have b5 : P + 1 ≤ s.size := by omega
    have b6 : s.size ≤ 1048600 := by omega
    clear hs hnum hR hcut hN hst b3 b4 hF hP
    go_wp2_with fail
    go_loop [6, 7] (fun p i => ∃ k : Nat, k ≤ P ∧ i = .int .i64 k ∧ p = .int .i64 (-1)) (fun _ i => s.size - (intOf i).toNat)
    case atStart => exact ⟨0, Nat.zero_le _, rfl, rfl⟩
    case round =>
      obtain ⟨k, hk, rfl, rfl⟩ := hrel
      by_cases hlt : k < P
      · have hks : k < s.size := by omega
        have hne : (((s[k]'hks).toNat : Int) == 32) = false := by
          have hkn : k < num.size := by rw [HP.out]; exact hlt
          have hb := HX.out.before k hks hkn
          have := no_blank HM.out k hkn
          rw [hb]
          simp; omega
        go_wp2_with fail
        go_round
        case rel => exact ⟨k + 1, by omega, by go_num, rfl⟩
        case measure => simp [intOf]; omega
      · obtain rfl : k = P := by omega
        have hks : k < s.size := by omega
        have heq : (((s[k]'hks).toNat : Int) == 32) = true := by
          have := HX.out.blank (by rw [HP.out]; exact hks)
          simp only [HP.out] at this
          rw [this]; rfl
        go_upto_region 14 with fail
        clear heq
        go_cut [8] (fun v wc => v = .string num ∧ w1 = wc)
        case first =>
          go_wp2_with fail
          go_meet
          case rel =>
            have hf := HX.out.front
            rw [HP.out] at hf
            exact ⟨by rw [hf], rfl⟩
        case rest =>
          obtain ⟨rfl, rfl⟩ := hcut
          have c2 : st < num.size := by rw [HP.out]; exact b2
          have c0 : 0 < num.size := by omega
          go_upto_if 45 with fail
          go_cut [9, 10] (fun x y wc => x = .bool (decide (n < 0)) ∧ y = .int .i64 (st : Int) ∧ w1 = wc)
          case first =>
            rcases HM.out.sign with ⟨hneg, h1, h45⟩ | ⟨hpos, h0⟩
            · have h45' : (((num[0]'c0).toNat : Int) == 45) = true := by rw [h45 c0]; rfl
              go_wp2_with fail
              go_meet
              case rel => exact ⟨by simp [hneg], by rw [h1]; rfl, rfl⟩
            · have hd := HM.out.digit 0 c0 (by omega)
              have h45' : (((num[0]'c0).toNat : Int) == 45) = false := by simp; omega
              clear hd
              go_wp2_with fail
              go_meet
              case rel => exact ⟨by simp; omega, by rw [h0]; rfl, rfl⟩
          case rest =>
            obtain ⟨rfl, rfl, rfl⟩ := hcut
            have c1 : num.size ≤ 21 := by rw [HP.out]; exact b1
            go_upto_region 22 with fail
            go_cut [60] (fun v wc => v = .bool false ∧ w1 = wc)
            case first =>
              by_cases hz : (num[st]'c2).toNat = 48
              · have e1 := HM.out.lead c2 hz
                have hz' : (((num[st]'c2).toNat : Int) == 48) = true := by rw [hz]; rfl
                have e2 : (num.size : Int) ≤ (st : Int) + 1 := by omega
                clear hz e1
                go_wp2_with fail
                go_meet
                case rel => exact ⟨by simp; omega, rfl⟩
              · have hz' : (((num[st]'c2).toNat : Int) == 48) = false := by simp; omega
                clear hz
                go_wp2_with fail
                go_meet
                case rel => exact ⟨rfl, rfl⟩
            case rest =>
              obtain ⟨rfl, rfl⟩ := hcut
              go_wp2_with fail
              go_loop [11, 12] (fun m i => ∃ q : Nat, st ≤ q ∧ q ≤ num.size ∧ i = .int .i64 q ∧ m = .int .u64 (valTo num st q : Int)) (fun _ i => num.size - (intOf i).toNat)
              case atStart => exact ⟨st, Nat.le_refl _, by omega, rfl, by rw [valTo_start]; rfl⟩
              case round =>
                obtain ⟨q, hq1, hq2, rfl, rfl⟩ := hrel
                by_cases hlt : q < num.size
                · have hnx := valTo_next HM.out q hlt hq1
                  have hle := valTo_le HM.out (q + 1)
                  have hnb := HN.out
                  have hdg := HM.out.digit q hlt hq1
                  obtain ⟨V, hV⟩ : ∃ V : Int, V = valTo num st q := ⟨_, rfl⟩
                  have v0 : 0 ≤ V := by omega
                  have v1 : V * 10 + (((num[q]'hlt).toNat : Int) - 48) ≤ 9223372036854775808 := by omega
                  have d0 : (48 : Int) ≤ ((num[q]'hlt).toNat : Int) := by omega
                  have d1 : ((num[q]'hlt).toNat : Int) ≤ 57 := by omega
                  have HNX : Hid ((valTo num st (q + 1) : Int) = V * 10 + ((num[q]'hlt).toNat - 48)) := by rw [hV]; exact hnx
                  rw [← hV]
                  clear hnx hle hnb hdg hV
                  go_wp2_with fail
                  go_round
                  case rel => exact ⟨q + 1, by omega, by omega, by go_num, by rw [HNX.out]⟩
                  case measure => simp [intOf]; omega
                · obtain rfl : q = num.size := by omega
                  rw [valTo_end HM.out]
                  by_cases hneg : n < 0
                  all_goals
                    have m0 : n < 0 → ((n.natAbs : Int) == 0) = false := mag_zero n
                    have m1 : n < 0 → ((n.natAbs : Int) != IntKind.u64.wrap (-IntKind.u64.wrap n)) = false := fun h => mag_neg n h HN.out.1
                    have m2 : ¬ n < 0 → ((n.natAbs : Int) != IntKind.u64.wrap n) = false := fun h => mag_pos n h HN.out.2
                    first | (have m1' := m1 hneg; have m0' := m0 hneg) | (have m2' := m2 hneg)
                    clear m0 m1 m2
                    go_upto_region 42 with fail
                    go_cut [16] (fun v wc => v = .string R ∧ w1 = wc)
                    case first =>
                      go_wp2_with fail
                      go_meet
                      case rel =>
                        have hf := HX.out.back
                        rw [HP.out] at hf
                        exact ⟨by rw [hf], rfl⟩
                    case rest =>
                      obtain ⟨rfl, rfl⟩ := hcut
                      by_cases h1 : n = 1
                      · have hr := HR.out
                        rw [h1] at hr
                        have hr' := rest_one hr
                        have h1' : (n == 1) = true := by simp [h1]
                        clear hr h1
                        go_wp2_with fail
                        go_ret
                        exact ⟨by first | rfl | simp [hr'], hb⟩
                      · obtain ⟨r1, r2, r3⟩ := rest_more HR.out h1
                        have r0 : u.size < R.size := by omega
                        have r3' : (((R[u.size]'r0).toNat : Int) == 115) = true := by rw [r3 r0]; rfl
                        have h1' : (n == 1) = false := by simp [h1]
                        have r1' : ((R.size : Int) == (u.size : Int) + 1) = true := by simp; omega
                        clear r1 r3 h1
                        go_wp2_with fail
                        go_ret
                        exact ⟨by first | rfl | simp [r2], hb⟩
end Go.Proofs.Qxb6605724aFmt
