/-
  The contract of the law itself.
-/
import Derived.Test.Qxb6613954aFmtSame
import Derived.Deep.AppendLies
import Derived.Deep.RegionLaw
namespace Go.Proofs.Qxb6613954aFmt
open Go.RowKit
attribute [local go_sem] run_store_float

theorem leBytes_leNat : ∀ (l : List UInt8), Lib.leBytes l.length (Lib.leNat l) = l
  | [] => rfl
  | b :: l => by
    have hb := b.toNat_lt
    have e1 : (Lib.leNat (b :: l)) % 256 = b.toNat := by simp only [Lib.leNat]; omega
    have e2 : (Lib.leNat (b :: l)) / 256 = Lib.leNat l := by simp only [Lib.leNat]; omega
    simp only [List.length_cons, Lib.leBytes, e1, e2, leBytes_leNat l]
    simp
theorem beBytes_beNat (X : List UInt8) (h : X.length = 8) : Lib.beBytes 8 (Lib.beNat X) = X := by
  have := leBytes_leNat X.reverse
  rw [List.length_reverse, h] at this
  rw [Lib.beNat_eq, Lib.beBytes, this, List.reverse_reverse]

/-- The argument's bytes. -/
def TailIs (w : World) (a : Option Addr) (T : List UInt8) : Prop := T = [] ∨ ∃ g o, a = some ⟨g, o, none⟩ ∧ BytesAt w g o T
theorem TailIs.later {w w' : World} {a : Option Addr} {T : List UInt8} (h : TailIs w a T) (hb : Below w.heap.size w w') : TailIs w' a T := by
  rcases h with h | ⟨g, o, rfl, hB⟩
  · exact .inl h
  · exact .inr ⟨g, o, rfl, hB.other fun j hj => hb.cell (p := ⟨g, o + j, none⟩) (lt_of_cell (hB j hj))⟩

theorem grown_below {B : Nat} {wr w5 : World} {a : Option Addr} {k c : Nat} {xs : List Value} {X : Obj} (ho : wr.ownsRow B 5 1 (.slice a k c) k xs) (hle : B ≤ wr.heap.size) (hg : (wr.drew.alloc X).grownBy w5 (Value.slice a k c).ownBlock) : Below B wr w5 :=
  (((Below.refl B wr).drew).alloc hle X).grown hg (by simp; omega) (fun k hk => (ho.lt k hk).1)

set_option maxHeartbeats 4000000 in
set_option maxRecDepth 100000 in
theorem main3 (key : Nat) (a0 : Option Addr) (n c0 : Nat) (seq : Int) (line : ByteArray) (a1 : Option Addr) (m c1 : Nat) (F : Nat → Nat) (T : List UInt8) (w : World) (t : TypeId) (u : Value)
    (hf : FRow 0 w a0 n F) (hz : a0 = none → n = 0) (hT : TailIs w a1 T) (hm : T.length = m) (hg : w.cell? ⟨0, 0, none⟩ = some (.iface t u))
    (hkey : key < 18446744073709551616) (hF : FOk n F) (h0 : -9223372036854775808 ≤ seq) (h1 : seq ≤ 9223372036854775807)
    (hn0 : n ≤ 9223372036854775807) (hm0 : m ≤ 9223372036854775807) (hs0 : line.size ≤ 9223372036854775807) :
    Calls Tryf.prog 3 #[.float .f64 key, .slice a0 n c0, .int .i64 seq, .string line, .slice a1 m c1] w fun e w' => e = .returned (.bool true) ∧ Below w.heap.size w w' := by
  have HZ : Hid (a0 = none → n = 0) := hz
  have HF : Hid (FOk n F) := hF
  have HM : Hid (T.length = m) := hm
  clear hz hF hm
  go_enter Tryf.func3, Tryf.ntmps3
  go_wp2_with fail
  refine (bytes4 key a0 a1 n c0 m c1 seq line w hn0 hm0 hs0).mono ?_
  rintro e w1 ⟨⟨b, rfl⟩, rfl⟩
  cases b with
  | false =>
    go_wp2_with fail
    go_ret
    exact ⟨rfl, Below.refl _ _⟩
  | true =>
    by_cases b1 : 1048576 < n
    · go_wp2_with fail
      go_ret
      exact ⟨rfl, Below.refl _ _⟩
    by_cases b2 : 1048576 < line.size
    · go_wp2_with fail
      go_ret
      exact ⟨rfl, Below.refl _ _⟩
    by_cases b3 : 1048576 < m
    · go_wp2_with fail
      go_ret
      exact ⟨rfl, Below.refl _ _⟩
    by_cases b4 : 1048576 < 8 * n + line.size + m
    · have b4' : (1048576 : Int) < 8 * (n : Int) + (line.size : Int) + (m : Int) := by omega
      go_wp2_with fail
      go_ret
      exact ⟨rfl, Below.refl _ _⟩
    have b4' : ¬ (1048576 : Int) < 8 * (n : Int) + (line.size : Int) + (m : Int) := by omega
    have hb1 : Below w.heap.size w (w.alloc (.cells #[.slice none 0 0] 28)) := (Below.refl _ _).alloc (Nat.le_refl _) _
    have hs1 : (w.alloc (.cells #[.slice none 0 0] 28)).heap.size = w.heap.size + 1 := by simp
    have hwc : (w.alloc (.cells #[.slice none 0 0] 28)).cell? ⟨w.heap.size, 0, none⟩ = some (.slice none 0 0) := by rw [World.cell?_alloc_at _ _ _ _ rfl]; rfl
    have hwf : (w.alloc (.cells #[.slice none 0 0] 28)).frozen? ⟨w.heap.size, 0, none⟩ = false := by rw [World.frozen?_alloc_at _ _ _ _ rfl]
    have hP := toRec6 key seq line a0 n c0 F 0 _ (hf.later hb1) HZ.out (by omega)
    go_wp2_with fail
    generalize (w.alloc (.cells #[.slice none 0 0] 28)) = w1 at hb1 hs1 hwc hwf hP ⊢
    refine hP.mono ?_
    rintro e w2 ⟨⟨p, rfl, hrest⟩, hb2⟩
    have hwc2 := (hb2.cell (p := ⟨w.heap.size, 0, none⟩) (lt_of_cell hwc)).trans hwc
    have hwf2 := (hb2.frozen (p := ⟨w.heap.size, 0, none⟩) (lt_of_cell hwc)).trans hwf
    have hbb2 := hb1.trans (hb2.mono hb1.size)
    have hP2 := write5 w.heap.size key seq line p n F w1.heap.size w2 ⟨hwc2, hwf2, by omega⟩ hrest hkey HF.out h0 h1 (by omega) (by omega)
    have hsz2 := hb2.size
    clear hP hb1 hwc hwf hwc2 hwf2 hb2
    go_wp2_with fail
    refine hP2.mono ?_
    rintro e w3 ⟨rfl, ⟨B, hBl, hW⟩, hk3⟩
    have hb3 : Below w.heap.size w w3 := hbb2.trans ((hk3.mono (by omega)).toBelow (Nat.le_refl _))
    have hBw : w.heap.size < B := by omega
    have HP : Hid (RestIs w1.heap.size w2 p n F) := hrest
    clear hP2 hk3 hbb2 hBl hsz2 hrest hs1
    go_wp2_with fail
    obtain ⟨R, hR⟩ : ∃ R, R = recBytes key seq line n F := ⟨_, rfl⟩
    have hu1 := Lib.uvarint_length64 (x := n) (by omega)
    have hu2 := Lib.uvarint_length64 (Lib.zigzag_lt h0 h1)
    have hu3 := Lib.uvarint_length64 (x := line.size) (by omega)
    have hRl : R.length ≤ 3000000 := by rw [hR]; simp [recBytes, Lib.beBytes_length, fFrom_length]; omega
    have hRp : 0 < R.length := by rw [hR]; simp [recBytes, Lib.beBytes_length]; omega
    clear hu1 hu2 hu3
    rw [← hR] at hW
    have HRE : Hid (R = recBytes key seq line n F) := hR
    clear hR
    obtain ⟨i0, hi, hz0, hz1, hz2⟩ := info_parts Tryf.info5
    go_loopw [12] (fun i wr => ∃ k : Nat, k ≤ m ∧ i = .int .i64 k ∧ WS B w.heap.size (R ++ T.take k) wr ∧ Below w.heap.size w wr) (fun i _ => m - (intOf i).toNat)
    case atStart => exact ⟨0, Nat.zero_le _, rfl, by simpa using hW, hb3⟩
    case round =>
      clear hW hb3
      obtain ⟨k, hk, rfl, hW, hbr⟩ := hrel
      by_cases hlt : k < m
      · rcases hT with hT | ⟨g, o, rfl, hTB⟩
        · have := HM.out; rw [hT] at this; simp at this; omega
        have hkT : k < T.length := by rw [HM.out]; exact hlt
        have d1 := (hbr.cell (p := ⟨g, o + k, none⟩) (lt_of_cell (hTB k hkT))).trans (hTB k hkT)
        obtain ⟨b, hb⟩ : ∃ b : UInt8, b = T[k] := ⟨_, rfl⟩
        rw [← hb] at d1
        have hWS : Hid (WS B w.heap.size (R ++ T.take k) wr) := hW
        obtain ⟨⟨a, c, hc, ho⟩, hfr, hl1, hl2⟩ := hW
        have hi' : (k : Int) < (m : Int) := by omega
        obtain ⟨xs, hxs⟩ : ∃ xs, xs = R ++ T.take k := ⟨_, rfl⟩
        rw [← hxs] at hc ho
        have hxl : xs.length ≤ 5000000 := by rw [hxs]; simp; omega
        have HXS : Hid (xs = R ++ T.take k) := hxs
        have HB : Hid (b = T[k]) := hb
        have h63 : xs.length + 1 ≤ maxLen := by unfold maxLen; omega
        have h64 : (xs.length + 1) * 1 ≤ 140737488355328 := by omega
        have hwl := lt_of_cell hc
        have hgl := lt_of_cell d1
        clear hxs hb hTB
        go_wp2_with fail
        go_region_law ((refine step_append_lies _ (by rfl) _ _ _ (by rfl) B 5 i0 _ 1 1 Tryf.underlying24 hi hz0 hz1 hz2 rfl (by omega) (.slice a xs.length c) xs.length (Lib.byteCells xs) (by rfl) (ho.drew.alloc _) ⟨wr.heap.size, 0, none⟩ 1 1 [.int .u8 (b.toNat : Int)] (by rfl) (by rfl) (World.news_of_block (cs := #[.int .u8 (b.toNat : Int)]) (heap_alloc_new wr.drew _)) (by simp [Value.oneCell']) (by omega) h63 h64 (by simp; omega) _ rfl ?_; intro g1 cap1 w5 hown1 hgrow hat hlt1; have hbl := grown_below ho hl2 hgrow; have hc5 := (hbl.cell (p := ⟨w.heap.size, 0, none⟩) hl1).trans hc; have hf5 := (hbl.frozen (p := ⟨w.heap.size, 0, none⟩) hl1).trans hfr))
        all_goals
          go_wp2_with fail
          have hput := WS.put (xs := xs) (ys := [b]) (m := 1) (n := xs.length + 1) hl1 (Nat.le_trans hl2 hbl.size) rfl rfl hc5 hf5 (by simpa [Lib.byteCells] using hown1)
          rw [HXS.out] at hput
          exact ⟨⟨k + 1, by omega, by go_num, by rw [List.take_succ_eq_append_getElem hkT, ← HB.out, ← List.append_assoc]; rw [HXS.out]; exact hput, (hbr.trans (hbl.mono (by omega))).setCell (Nat.le_refl _) _⟩, by simp [intOf]; omega⟩
      · have hkn : k = m := by omega
        subst hkn
        rw [List.take_of_length_le (by rw [HM.out]; omega)] at hW
        obtain ⟨g, c, hc, hlc, hgB, hBy⟩ := hW.bytes (by rw [List.length_append]; omega)
        have hLl : (R ++ T).length ≤ 8000000 := by rw [List.length_append, HM.out]; omega
        have hwl := lt_of_cell hc
        obtain ⟨L, hL⟩ : ∃ L, L = R ++ T := ⟨_, rfl⟩
        rw [← hL] at hc hlc hBy hLl
        have hLp : 0 < L.length := by rw [hL, List.length_append]; omega
        have HL : Hid (L = recBytes key seq line n F ++ T) := by rw [HRE.out] at hL; exact hL
        have HW : Hid (WS B w.heap.size (R ++ T) wr) := hW
        clear hW hL
        go_wp2_with fail
        have hbA : Below wr.heap.size wr (wr.alloc (.cells #[.slice (some ⟨g, 0, none⟩) L.length c] 24)) := (Below.refl _ _).alloc (Nat.le_refl _) _
        have hqc : (wr.alloc (.cells #[.slice (some ⟨g, 0, none⟩) L.length c] 24)).cell? ⟨wr.heap.size, 0, none⟩ = some (.slice (some ⟨g, 0, none⟩) L.length c) := by rw [World.cell?_alloc_at _ _ _ _ rfl]; rfl
        have hP := new7 wr.heap.size L _ g 0 c hqc hlc (hBy.other fun j hj => hbA.cell (p := ⟨g, 0 + j, none⟩) (lt_of_cell (hBy j hj))) hLp hLl
        have hbb := hbr.trans (hbA.mono hbr.size)
        clear hqc hBy hlc hc hbr hgB
        generalize (wr.alloc (.cells #[.slice (some ⟨g, 0, none⟩) L.length c] 24)) = w4 at hbA hP hbb ⊢
        refine hP.mono ?_
        rintro e w5 ⟨rb, rfl, hRS, hrbl, hb5⟩
        have hbb5 := hbb.trans (hb5.mono hbb.size)
        have hrbw : w.heap.size ≤ rb := Nat.le_trans hbb.size hrbl
        have hLl' := hLl
        rw [HL.out] at hRS hLl'
        have hP2 := read8 rb key seq line n F T w5 hRS hLl' hkey HF.out h0 h1 (by omega) (by omega)
        clear hP hb5 hbb hbA hrbl hRS
        go_wp2_with fail
        refine hP2.mono ?_
        rintro e w6 ⟨p', rfl, hrest', hRS6, hk6⟩
        have hbb6 := hbb5.trans ((hk6.mono hbb5.size).toBelow hrbw)
        have hbC : Below w6.heap.size w6 (w6.alloc (.cells #[.float .f64 key, .int .i64 seq, .string line, .pointer p'] 32)) := (Below.refl _ _).alloc (Nat.le_refl _) _
        have hRS7 := hRS6.later hbC
        have hrest7 := hrest'.later hbC
        have hbb7 := hbb6.trans (hbC.mono hbb6.size)
        have hP3 := recIs9 key seq line p' n F _ 0 a0 c0 _ hrest7 (hf.later hbb7) hkey HF.out (by omega)
        clear hP2 hk6 hbb5 hRS6 hrest' hbb6 hbC hrest7
        go_wp2_with fail
        generalize (w6.alloc (.cells #[.float .f64 key, .int .i64 seq, .string line, .pointer p'] 32)) = w7 at hRS7 hbb7 hP3 ⊢
        refine hP3.mono ?_
        rintro e w8 ⟨rfl, hb8⟩
        have hRS8 := hRS7.later hb8
        have hbb8 := hbb7.trans (hb8.mono hbb7.size)
        have hT8 := hT.later hbb8
        have hg8 := (hbb8.cell (p := ⟨0, 0, none⟩) (lt_of_cell hg)).trans hg
        have hTl : T.length ≤ 8000000 := by rw [HM.out]; omega
        clear hP3 hRS7 hbb7 hb8 hT hf hLl hLl'
        by_cases h8 : 8 ≤ k
        · rcases hT8 with hT8 | ⟨g', o', rfl, hTB⟩
          · have := HM.out; rw [hT8] at this; simp at this; omega
          have hX8 : (T.take 8).length = 8 := by rw [List.length_take, HM.out]; omega
          have hP4 := be10 g' o' k c1 (T.take 8) (T.drop 8) w8 hX8 h8 (by rw [List.take_append_drop]; exact hTB)
          have hvl : Lib.beNat (T.take 8) < 18446744073709551616 := by
            have := beNat_lt T 8 (by rw [HM.out]; exact h8)
            simpa using this
          have hP5 := r_uint64 rb (Lib.beNat (T.take 8)) (T.drop 8) w8 hvl (by rw [beBytes_beNat _ hX8, List.take_append_drop]; exact hRS8) (by rw [beBytes_beNat _ hX8, List.take_append_drop]; exact hTl)
          obtain ⟨v, hv⟩ : ∃ v, v = Lib.beNat (T.take 8) := ⟨_, rfl⟩
          rw [← hv] at hP4 hP5
          clear hTB hv hvl hX8 hRS8 hg8
          go_wp2_with fail
          refine hP4.mono ?_
          rintro e w9 ⟨rfl, rfl⟩
          go_wp2_with fail
          refine hP5.mono ?_
          rintro e w9 ⟨rfl, -, hk9⟩
          clear hP4 hP5
          go_wp2_with fail
          go_ret
          exact ⟨rfl, hbb8.trans ((hk9.mono hbb8.size).toBelow hrbw)⟩
        · have hP5 := r_short rb T w8 t u hg8 hRS8 (by rw [HM.out]; omega)
          clear hT8 hRS8 hg8
          go_wp2_with fail
          refine hP5.mono ?_
          rintro e w9 ⟨rfl, hk9⟩
          clear hP5
          go_wp2_with fail
          go_ret
          exact ⟨rfl, hbb8.trans ((hk9.mono hbb8.size).toBelow hrbw)⟩
end Go.Proofs.Qxb6613954aFmt
