/-
  The contracts of the Writer's methods.
-/
import Derived.Test.Qxb6613954aFmtBase
import Derived.Lib.AppendStr
namespace Go.Proofs.Qxb6613954aFmt
open Go.RowKit

theorem call33 (b : Nat) (w : World) : (callFunc 33 #[.float .f64 b]).run Tryf.prog w = .ok (.value (.int .u64 (b : Int))) w := by kernel_rfl
theorem call36 (b : Int) (w : World) : (callFunc 36 #[.int .u64 b]).run Tryf.prog w = .ok (.value (.float .f64 b.toNat)) w := by kernel_rfl

theorem WS.put {B wb : Nat} {xs ys : List UInt8} {m n : Nat} {w1 : World} {u : Value} {a' : Option Addr} {c' : Nat} (hlt : wb < B) (hle : B ≤ w1.heap.size) (hm : m = ys.length) (hn : n = xs.length + m)
    (hc1 : w1.cell? ⟨wb, 0, none⟩ = some u) (hf1 : w1.frozen? ⟨wb, 0, none⟩ = false)
    (ho : w1.ownsRow B 5 1 (.slice a' n c') n (Lib.byteCells xs ++ Lib.byteCells ys)) : WS B wb (xs ++ ys) (w1.setCell ⟨wb, 0, none⟩ (.slice a' n c')) := by
  subst hm
  subst hn
  have e1 : (xs ++ ys).length = xs.length + ys.length := by simp
  have e2 : Lib.byteCells (xs ++ ys) = Lib.byteCells xs ++ Lib.byteCells ys := by simp [Lib.byteCells]
  refine ⟨⟨a', c', ?_, ?_⟩, by simpa using hf1, hlt, by simpa using hle⟩
  · rw [e1]; exact World.cell?_setCell_same _ _ _ hc1
  · rw [e1, e2]; exact ownsRow_setCell_below ho hlt _

set_option maxHeartbeats 1000000 in
theorem w_uint64 (B wb v : Nat) (hv : v < 18446744073709551616) (xs : List UInt8) (w : World) (h : WS B wb xs w) (hx : xs.length ≤ 4000000) :
    Calls Tryf.prog 32 #[.pointer (some ⟨wb, 0, none⟩), .int .u64 (v : Int)] w fun e w' => e = .returned (.tuple #[]) ∧ WS B wb (xs ++ Lib.beBytes 8 v) w' ∧ Kept wb B w w' := by
  obtain ⟨⟨a, c, hc, ho⟩, hf, hlt, hle⟩ := h
  have hP := be_append B xs.length v hv (.slice a xs.length c) (Lib.byteCells xs) w.drew (ho.drew) hle (by omega)
  go_enter Tryf.func32, Tryf.ntmps32
  go_wp2_with fail
  go_region_with (go_at_call 44; refine hP.mono ?_; rintro e w1 ⟨v', rfl, ho', hb'⟩; obtain ⟨a', c', rfl⟩ := owns_shape ho'; have hc1 := (hb'.cell (p := ⟨wb, 0, none⟩) hlt).trans hc; have hf1 := (hb'.frozen (p := ⟨wb, 0, none⟩) hlt).trans hf)
  all_goals
    go_end0
    exact ⟨rfl, WS.put hlt (Nat.le_trans hle hb'.size) (Lib.beBytes_length 8 v).symm rfl hc1 hf1 ho', (((Kept.refl wb B w).drew).trans (Kept.ofBelow hb')).setCell (.inl rfl) _⟩

set_option maxHeartbeats 1000000 in
theorem w_float (B wb v : Nat) (hv : v < 18446744073709551616) (xs : List UInt8) (w : World) (h : WS B wb xs w) (hx : xs.length ≤ 4000000) :
    Calls Tryf.prog 22 #[.pointer (some ⟨wb, 0, none⟩), .float .f64 v] w fun e w' => e = .returned (.tuple #[]) ∧ WS B wb (xs ++ Lib.beBytes 8 v) w' ∧ Kept wb B w w' := by
  have k1 := call33
  go_enter Tryf.func22, Tryf.ntmps22
  go_wp2_with fail
  refine (w_uint64 B wb v hv xs w h hx).mono ?_
  rintro e w1 ⟨rfl, h1, h2⟩
  go_wp2_with fail
  go_end0
  exact ⟨rfl, h1, h2⟩

set_option maxHeartbeats 1000000 in
theorem w_uvarint (B wb x : Nat) (hv : x < 18446744073709551616) (xs : List UInt8) (w : World) (h : WS B wb xs w) (hx : xs.length ≤ 4000000) :
    Calls Tryf.prog 23 #[.pointer (some ⟨wb, 0, none⟩), .int .u64 (x : Int)] w fun e w' => e = .returned (.tuple #[]) ∧ WS B wb (xs ++ Lib.uvarint x) w' ∧ Kept wb B w w' := by
  obtain ⟨⟨a, c, hc, ho⟩, hf, hlt, hle⟩ := h
  go_enter Tryf.func23, Tryf.ntmps23
  go_wp2_with fail
  refine (uv_append B xs.length x hv (.slice a xs.length c) (Lib.byteCells xs) w ho hle (by omega)).mono ?_
  rintro e w1 ⟨v', rfl, ho', hb'⟩
  obtain ⟨a', c', hv'⟩ := owns_shape ho'
  rw [hv'] at ho' ⊢
  clear hv'
  have hc1 := (hb'.cell (p := ⟨wb, 0, none⟩) hlt).trans hc
  have hf1 := (hb'.frozen (p := ⟨wb, 0, none⟩) hlt).trans hf
  go_wp2_with fail
  go_end0
  exact ⟨rfl, WS.put hlt (Nat.le_trans hle hb'.size) rfl rfl hc1 hf1 ho', (Kept.ofBelow (b := wb) hb').setCell (.inl rfl) _⟩

set_option maxHeartbeats 1000000 in
theorem w_varint (B wb : Nat) (x : Int) (h0 : -9223372036854775808 ≤ x) (h1 : x ≤ 9223372036854775807) (xs : List UInt8) (w : World) (h : WS B wb xs w) (hx : xs.length ≤ 4000000) :
    Calls Tryf.prog 24 #[.pointer (some ⟨wb, 0, none⟩), .int .i64 x] w fun e w' => e = .returned (.tuple #[]) ∧ WS B wb (xs ++ Lib.uvarint (Lib.zigzag x)) w' ∧ Kept wb B w w' := by
  obtain ⟨⟨a, c, hc, ho⟩, hf, hlt, hle⟩ := h
  go_enter Tryf.func24, Tryf.ntmps24
  go_wp2_with fail
  refine (zz_append B xs.length x h0 h1 (.slice a xs.length c) (Lib.byteCells xs) w ho hle (by omega)).mono ?_
  rintro e w1 ⟨v', rfl, ho', hb'⟩
  obtain ⟨a', c', hv'⟩ := owns_shape ho'
  rw [hv'] at ho' ⊢
  clear hv'
  have hc1 := (hb'.cell (p := ⟨wb, 0, none⟩) hlt).trans hc
  have hf1 := (hb'.frozen (p := ⟨wb, 0, none⟩) hlt).trans hf
  go_wp2_with fail
  go_end0
  exact ⟨rfl, WS.put hlt (Nat.le_trans hle hb'.size) rfl rfl hc1 hf1 ho', (Kept.ofBelow (b := wb) hb').setCell (.inl rfl) _⟩

theorem Tryf.info5 : (Tryf.prog.info? 5).map (fun i => (i.zero, i.size, i.bytes)) = some (some (.int .u8 0), 1, 1) := by kernel_rfl
theorem strCells_bytes (s : ByteArray) : Lib.strCells s = Lib.byteCells s.data.toList := by
  simp [Lib.strCells, Lib.byteCells]

set_option maxHeartbeats 1000000 in
theorem w_text (B wb : Nat) (s : ByteArray) (hs : s.size ≤ 1048576) (xs : List UInt8) (w : World) (h : WS B wb xs w) (hx : xs.length ≤ 2000000) :
    Calls Tryf.prog 25 #[.pointer (some ⟨wb, 0, none⟩), .string s] w fun e w' => e = .returned (.tuple #[]) ∧ WS B wb (xs ++ Lib.uvarint s.size ++ s.data.toList) w' ∧ Kept wb B w w' := by
  obtain ⟨i0, hi, hz0, hz1, hz2⟩ := info_parts Tryf.info5
  have hlen := Lib.uvarint_length64 (x := s.size) (by omega)
  go_enter Tryf.func25, Tryf.ntmps25
  go_wp2_with fail
  refine (w_uvarint B wb s.size (by omega) xs w h (by omega)).mono ?_
  rintro e w1 ⟨rfl, h1, h2⟩
  obtain ⟨⟨a, c, hc, ho⟩, hf, hlt, hle⟩ := h1
  obtain ⟨ys, hys⟩ : ∃ ys, ys = xs ++ Lib.uvarint s.size := ⟨_, rfl⟩
  rw [← hys] at hc ho
  have hyl : ys.length ≤ 2000010 := by rw [hys]; simp; omega
  have HY : Hid (ys = xs ++ Lib.uvarint s.size) := hys
  have hm1 : ys.length + s.size ≤ maxLen := by unfold maxLen; omega
  have hm2 : ys.length + s.size ≤ 140737488355328 := by omega
  clear hys h hlen
  go_wp2_with (at_builtin; refine Lib.wpList_append_own_string _ rfl (.tmp 13) (.tmp 14) 24 9 rfl B 5 i0 Tryf.underlying24 Tryf.underlying9 hi hz0 hz1 hz2 (.slice a ys.length c) ys.length (Lib.byteCells ys) rfl ho s rfl hm1 hm2 hle ?_; intro v' w2 ho' hg' _; obtain ⟨a', c', hv'⟩ := owns_shape ho'; rw [hv'] at ho' ⊢; have hb' : Below B w1 w2 := (Below.refl B w1).grown hg' hle (fun k hk => (ho.lt k hk).1); have hc1 := (hb'.cell (p := ⟨wb, 0, none⟩) hlt).trans hc; have hf1 := (hb'.frozen (p := ⟨wb, 0, none⟩) hlt).trans hf; clear hv')
  go_end0
  rw [strCells_bytes] at ho'
  exact ⟨rfl, by rw [← HY.out]; exact WS.put hlt (Nat.le_trans hle hb'.size) (by simp) rfl hc1 hf1 ho', (h2.trans (Kept.ofBelow (b := wb) hb')).setCell (.inl rfl) _⟩

end Go.Proofs.Qxb6613954aFmt
