/-
  The contracts of the law's own helpers: zzSameBytes, zzPutF64, zzSameF64, zzRecIs, zzBE, zzBytes.
-/
import Derived.Test.Qxb6613954aFmtReadRec
import Derived.Laws.Bits64b
namespace Go.Proofs.Qxb6613954aFmt
open Go.RowKit
attribute [local go_sem] run_store_float

/-- The call answers some bool. -/
def SaysBool (e : Ending) : Prop := ∃ b, e = .returned (.bool b)

set_option maxHeartbeats 1000000 in
theorem bytes4 (key : Nat) (a0 a1 : Option Addr) (n0 c0 n1 c1 : Nat) (seq : Int) (line : ByteArray) (w : World)
    (hn0 : n0 ≤ 9223372036854775807) (hn1 : n1 ≤ 9223372036854775807) (hs : line.size ≤ 9223372036854775807) :
    Calls Tryf.prog 4 #[.float .f64 key, .slice a0 n0 c0, .int .i64 seq, .string line, .slice a1 n1 c1] w fun e w' => SaysBool e ∧ w = w' := by
  go_enter Tryf.func4, Tryf.ntmps4
  go_wp2
  all_goals (go_ret; exact ⟨⟨_, rfl⟩, rfl⟩)

theorem WS.bytes {B wb : Nat} {xs : List UInt8} {w : World} (h : WS B wb xs w) (hx : 0 < xs.length) :
    ∃ g c, w.cell? ⟨wb, 0, none⟩ = some (.slice (some ⟨g, 0, none⟩) xs.length c) ∧ xs.length ≤ c ∧ B ≤ g ∧ BytesAt w g 0 xs := by
  obtain ⟨a, c, hc, ho⟩ := h.own
  have ho' := ho
  obtain ⟨_, hh⟩ := ho
  rcases hh with ⟨_, h0⟩ | ⟨g, cap, cur, hv, hb, _, hcap, _⟩
  · omega
  · injection hv with e1 e2 e3
    subst e1
    subst e3
    refine ⟨g, c, hc, hcap, hb, fun j hj => ?_⟩
    have := ho'.cells (g := g) rfl j (.int .u8 (xs[j].toNat : Int)) (by simp [Lib.byteCells, hj])
    rw [show (⟨g, 0, none⟩ : Addr).add j = ⟨g, 0 + j, none⟩ from by simp [Addr.add]; omega] at this
    exact this

set_option maxHeartbeats 1000000 in
set_option maxRecDepth 100000 in
theorem same30 (g1 o1 c1 g2 o2 c2 n : Nat) (X : List UInt8) (hn : X.length = n) (hn8 : n ≤ 8000000) (w : World) (h1 : BytesAt w g1 o1 X) (h2 : BytesAt w g2 o2 X) :
    Calls Tryf.prog 30 #[.slice (some ⟨g1, o1, none⟩) n c1, .slice (some ⟨g2, o2, none⟩) n c2] w fun e w' => e = .returned (.bool true) ∧ ∃ m, w' = w.drewN m := by
  have HN : Hid (X.length = n) := hn
  have H1 : Hid (BytesAt w g1 o1 X) := h1
  have H2 : Hid (BytesAt w g2 o2 X) := h2
  clear h1 h2 hn
  go_enter Tryf.func30, Tryf.ntmps30
  go_wp2_with fail
  go_loopw [5] (fun i wr => ∃ k : Nat, k ≤ n ∧ i = .int .i64 k ∧ ∃ m, wr = w.drewN m) (fun i _ => n - (intOf i).toNat)
  case atStart => exact ⟨0, Nat.zero_le _, rfl, 0, rfl⟩
  case round =>
    obtain ⟨k, hk, rfl, m, rfl⟩ := hrel
    by_cases hlt : k < n
    · have d1 := H1.out k (by rw [HN.out]; exact hlt)
      have d2 := H2.out k (by rw [HN.out]; exact hlt)
      obtain ⟨b, hb⟩ : ∃ b, b = (X[k]'(by rw [HN.out]; exact hlt)).toNat := ⟨_, rfl⟩
      rw [← hb] at d1 d2
      clear hb
      have hi' : (k : Int) < (n : Int) := by omega
      go_wp2_with fail
      go_quiet (fail)
      go_wp2_with fail
      exact ⟨⟨k + 1, by omega, by go_num, _, rfl⟩, by simp [intOf]; omega⟩
    · have hkn : k = n := by omega
      subst hkn
      go_wp2_with fail
      go_ret
      exact ⟨rfl, _, rfl⟩

set_option maxHeartbeats 1000000 in
theorem put31 (v : Nat) (w : World) (hv : v < 18446744073709551616) :
    Calls Tryf.prog 31 #[.slice none 0 0, .float .f64 v] w fun e w' => (∃ g c, e = .returned (.slice (some ⟨g, 0, none⟩) 8 c) ∧ BytesAt w' g 0 (Lib.beBytes 8 v)) ∧ Below w.heap.size w w' := by
  have hb0 : Below w.heap.size w (w.alloc (.cells #[.slice none 0 0] 28)) := (Below.refl _ _).alloc (Nat.le_refl _) _
  have hs : (w.alloc (.cells #[.slice none 0 0] 28)).heap.size = w.heap.size + 1 := by simp
  have hW : WS (w.heap.size + 1) w.heap.size [] (w.alloc (.cells #[.slice none 0 0] 28)) := by
    refine ⟨⟨none, 0, ?_, World.ownsRow_nil _ _ _ _⟩, ?_, by omega, by omega⟩
    · rw [World.cell?_alloc_at _ _ _ _ rfl]; rfl
    · rw [World.frozen?_alloc_at _ _ _ _ rfl]
  have hP := w_float _ _ v hv [] _ hW (by simp)
  go_enter Tryf.func31, Tryf.ntmps31
  go_wp2_with fail
  generalize w.alloc (.cells #[.slice none 0 0] 28) = w0 at hb0 hs hW hP ⊢
  refine hP.mono ?_
  rintro e w1 ⟨rfl, hs1, hk1⟩
  obtain ⟨g, c, hc, hlc, hg, hB⟩ := hs1.bytes (by simp [Lib.beBytes_length])
  simp only [List.nil_append, Lib.beBytes_length] at hc hB
  clear hP hs1 hW
  go_wp2_with fail
  go_ret
  exact ⟨⟨g, c, rfl, hB⟩, hb0.trans ((hk1.mono (by omega)).toBelow (Nat.le_refl _))⟩

theorem below_drewN {N : Nat} {w w' : World} (h : Below N w w') (m : Nat) : Below N w (w'.drewN m) := ⟨h.os, h.tape, h.output, h.size, h.block⟩

set_option maxHeartbeats 1000000 in
theorem same18 (v : Nat) (w : World) (hv : v < 18446744073709551616) :
    Calls Tryf.prog 18 #[.float .f64 v, .float .f64 v] w fun e w' => e = .returned (.bool true) ∧ Below w.heap.size w w' := by
  go_enter Tryf.func18, Tryf.ntmps18
  go_wp2_with fail
  refine (put31 v w hv).mono ?_
  rintro e w1 ⟨⟨g1, c1, rfl, hB1⟩, hb1⟩
  go_wp2_with fail
  refine (put31 v w1 hv).mono ?_
  rintro e w2 ⟨⟨g2, c2, rfl, hB2⟩, hb2⟩
  go_wp2_with fail
  refine (same30 g1 0 c1 g2 0 c2 8 (Lib.beBytes 8 v) (Lib.beBytes_length 8 v) (by omega) w2 (hB1.other fun j hj => hb2.cell (p := ⟨g1, 0 + j, none⟩) (lt_of_cell (hB1 j hj))) hB2).mono ?_
  rintro e w3 ⟨rfl, m, rfl⟩
  go_wp2_with fail
  go_ret
  exact ⟨rfl, below_drewN (hb1.trans (hb2.mono hb1.size)) m⟩


theorem beFrom_snoc (l : List UInt8) (b : UInt8) : ∀ acc, Lib.beFrom acc (l ++ [b]) = Lib.beFrom acc l * 256 + b.toNat := by
  induction l with
  | nil => intro acc; simp [Lib.beFrom]
  | cons x l ih => intro acc; simp only [List.cons_append, Lib.beFrom]; exact ih _
theorem beNat_take (X : List UInt8) (k : Nat) (hk : k < X.length) : Lib.beNat (X.take (k + 1)) = Lib.beNat (X.take k) * 256 + (X[k]).toNat := by
  rw [List.take_succ_eq_append_getElem hk]
  exact beFrom_snoc _ _ _
theorem beNat_lt (X : List UInt8) : ∀ k, k ≤ X.length → Lib.beNat (X.take k) < 256 ^ k := by
  intro k
  induction k with
  | zero => intro _; simp [Lib.beNat, Lib.beFrom]
  | succ k ih =>
    intro h
    rw [beNat_take X k (by omega), Nat.pow_succ]
    have := ih (by omega)
    have hb := (X[k]'(by omega)).toNat_lt
    omega
theorem or_step (y b : Nat) (hy : y < 72057594037927936) (hb : b < 256) : bits BinOp.or IntKind.u64 (IntKind.u64.wrap ((y : Int) * 256)) (IntKind.u64.wrap (b : Int)) = ((y * 256 + b : Nat) : Int) := by
  have e1 : IntKind.u64.wrap ((y : Int) * 256) = ((y * 256 : Nat) : Int) := by
    rw [IntKind.wrap_u64]; omega
  have e2 : IntKind.u64.wrap (b : Int) = ((b : Nat) : Int) := by
    rw [IntKind.wrap_u64]; omega
  rw [e1, e2, bits_or_u64_nat _ _ (by omega) (by omega)]
  have : y * 256 ||| b = y * 256 + b := by
    rw [show y * 256 = y <<< 8 from by rw [Nat.shiftLeft_eq], ← Nat.shiftLeft_add_eq_or_of_lt (by omega)]
  rw [this]

set_option maxHeartbeats 1000000 in
set_option maxRecDepth 100000 in
theorem be10 (g o n c : Nat) (X L : List UInt8) (w : World) (hX : X.length = 8) (hn : 8 ≤ n) (h : BytesAt w g o (X ++ L)) :
    Calls Tryf.prog 10 #[.slice (some ⟨g, o, none⟩) n c, .int .i64 0] w fun e w' => e = .returned (.int .u64 (Lib.beNat X : Int)) ∧ w = w' := by
  have H : Hid (BytesAt w g o X) := h.left
  have HX : Hid (X.length = 8) := hX
  clear h hX
  go_enter Tryf.func10, Tryf.ntmps10
  go_wp2_with fail
  go_loop [5, 6] (fun v i => ∃ k : Nat, k ≤ 8 ∧ i = .int .i64 k ∧ v = .int .u64 (Lib.beNat (X.take k) : Int)) (fun _ i => 8 - (intOf i).toNat)
  case atStart => exact ⟨0, Nat.zero_le _, rfl, rfl⟩
  case round =>
    obtain ⟨k, hk, rfl, rfl⟩ := hrel
    by_cases hlt : k < 8
    · have d1 := H.out k (by rw [HX.out]; exact hlt)
      obtain ⟨b, hb⟩ : ∃ b, b = (X[k]'(by rw [HX.out]; exact hlt)).toNat := ⟨_, rfl⟩
      rw [← hb] at d1
      have HB : Hid (b = (X[k]'(by rw [HX.out]; exact hlt)).toNat) := hb
      have hi' : (k : Int) < (n : Int) := by omega
      have hi2 : (k : Int) < 8 := by omega
      obtain ⟨y, hy⟩ : ∃ y, y = Lib.beNat (X.take k) := ⟨_, rfl⟩
      rw [← hy]
      clear hb
      go_wp2_with fail
      have hyl : y < 72057594037927936 := by
        rw [hy]
        have h1 := beNat_lt X k (by rw [HX.out]; omega)
        have h2 : 256 ^ k ≤ 256 ^ 7 := Nat.pow_le_pow_right (by omega) (by omega)
        omega
      have hbl : b < 256 := by rw [HB.out]; exact UInt8.toNat_lt _
      have hs := beNat_take X k (by rw [HX.out]; omega)
      rw [← hy, ← HB.out] at hs
      rw [← hy, or_step y b hyl hbl]
      exact ⟨⟨k + 1, by omega, by go_num, by rw [hs]⟩, by simp [intOf]; omega⟩
    · have hkn : k = 8 := by omega
      subst hkn
      rw [List.take_of_length_le (by rw [HX.out]; omega)]
      go_wp2_with fail
      go_ret
      exact ⟨rfl, rfl⟩

set_option maxHeartbeats 2000000 in
set_option maxRecDepth 100000 in
theorem recIs9 (key : Nat) (seq : Int) (line : ByteArray) (p : Option Addr) (n : Nat) (F : Nat → Nat) (lo lo' : Nat) (a0 : Option Addr) (c0 : Nat) (w : World) (hr : RestIs lo w p n F) (ha : FRow lo' w a0 n F)
    (hkey : key < 18446744073709551616) (hF : FOk n F) (hn : n ≤ 131072) :
    Calls Tryf.prog 9 #[.agg #[.float .f64 key, .int .i64 seq, .string line, .pointer p], .agg #[.float .f64 key, .int .i64 seq, .string line, .slice a0 n c0]] w fun e w' => e = .returned (.bool true) ∧ Below w.heap.size w w' := by
  have HF : Hid (FOk n F) := hF
  clear hF
  have hb0 : Below w.heap.size w ((w.alloc (.cells #[.float .f64 key, .int .i64 seq, .string line, .pointer p] 32)).alloc (.cells #[.float .f64 key, .int .i64 seq, .string line, .slice a0 n c0] 39)) := ((Below.refl _ _).alloc (Nat.le_refl _) _).alloc (by simp) _
  have hs1 : (w.alloc (.cells #[.float .f64 key, .int .i64 seq, .string line, .pointer p] 32)).heap.size = w.heap.size + 1 := by simp
  have hs2 : ((w.alloc (.cells #[.float .f64 key, .int .i64 seq, .string line, .pointer p] 32)).alloc (.cells #[.float .f64 key, .int .i64 seq, .string line, .slice a0 n c0] 39)).heap.size = w.heap.size + 2 := by simp
  have hA := (RecAt.new (w := w) (.float .f64 key) (.int .i64 seq) (.string line) (.pointer p)).later ((Below.refl _ _).alloc (Nat.le_refl _) (.cells #[.float .f64 key, .int .i64 seq, .string line, .slice a0 n c0] 39))
  have hB3 : ((w.alloc (.cells #[.float .f64 key, .int .i64 seq, .string line, .pointer p] 32)).alloc (.cells #[.float .f64 key, .int .i64 seq, .string line, .slice a0 n c0] 39)).cell? ⟨w.heap.size + 1, 3, none⟩ = some (.slice a0 n c0) := by
    rw [World.cell?_alloc_at _ _ _ _ hs1.symm]; rfl
  have hr0 := hr.later hb0
  have ha0 := ha.later hb0
  clear hr ha hs1
  go_enter Tryf.func9, Tryf.ntmps9
  go_wp2_with fail
  generalize ((w.alloc (.cells #[.float .f64 key, .int .i64 seq, .string line, .pointer p] 32)).alloc (.cells #[.float .f64 key, .int .i64 seq, .string line, .slice a0 n c0] 39)) = w0 at hb0 hs2 hA hB3 hr0 ha0 ⊢
  refine (same18 key w0 hkey).mono ?_
  rintro e w1 ⟨rfl, hb1⟩
  have hA1 := hA.later hb1
  have hB1 := (hb1.cell (p := ⟨w.heap.size + 1, 3, none⟩) (lt_of_cell hB3)).trans hB3
  have hr1 := hr0.later hb1
  have ha1 := ha0.later hb1
  have hbb1 := hb0.trans (hb1.mono hb0.size)
  have hs1 : w.heap.size + 2 ≤ w1.heap.size := by have := hb1.size; omega
  clear hA hB3 hr0 ha0 hb1 hb0 hs2
  obtain ⟨a0c, a1c, a2c, a3c, _⟩ := hA1
  go_wp2_with fail
  refine (rest19 key seq line p n F lo w1 hr1).mono ?_
  rintro e w2 ⟨⟨ar, cr, rfl, hf2⟩, hb2⟩
  have hB2 := (hb2.cell (p := ⟨w.heap.size + 1, 3, none⟩) (lt_of_cell hB1)).trans hB1
  have ha2 := ha1.later hb2
  have hbb2 := hbb1.trans (hb2.mono (by omega))
  have hs2 : w.heap.size + 2 ≤ w2.heap.size := by have := hb2.size; omega
  clear hB1 hr1 ha1 hbb1 hb2 a0c a1c a2c a3c hs1
  go_wp2_with fail
  go_loopw [6] (fun i wr => ∃ k : Nat, k ≤ n ∧ i = .int .i64 k ∧ Below w2.heap.size w2 wr) (fun i _ => n - (intOf i).toNat)
  case atStart => exact ⟨0, Nat.zero_le _, rfl, Below.refl _ _⟩
  case round =>
    obtain ⟨k, hk, rfl, hbr⟩ := hrel
    by_cases hlt : k < n
    · rcases hf2 with hf2 | ⟨b2, o2, rfl, _, hc2⟩
      · omega
      rcases ha2 with ha2 | ⟨b3, o3, rfl, _, hc3⟩
      · omega
      have d1 := (hbr.cell (p := ⟨b2, o2 + k, none⟩) (lt_of_cell (hc2 k hlt))).trans (hc2 k hlt)
      have d2 := (hbr.cell (p := ⟨b3, o3 + k, none⟩) (lt_of_cell (hc3 k hlt))).trans (hc3 k hlt)
      have d3 := (hbr.cell (p := ⟨w.heap.size + 1, 3, none⟩) (lt_of_cell hB2)).trans hB2
      have hP := same18 (F k) wr.drew (HF.out k hlt)
      have hi' : (k : Int) < (n : Int) := by omega
      clear hc2 hc3 hB2
      go_wp2_with fail
      go_region_with (go_at_call 18; refine hP.mono ?_; rintro e w5 ⟨rfl, hb5⟩)
      all_goals
        go_wp2_with fail
        exact ⟨⟨k + 1, by omega, by go_num, hbr.trans ((Below.drew (Below.refl _ wr)).trans (hb5.mono hbr.size))⟩, by simp [intOf]; omega⟩
    · have hkn : k = n := by omega
      subst hkn
      go_wp2_with fail
      go_ret
      exact ⟨rfl, hbb2.trans (hbr.mono (by omega))⟩
end Go.Proofs.Qxb6613954aFmt
