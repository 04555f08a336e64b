/-
  The contracts of the Reader's methods.
-/
import Derived.Test.Qxb6613954aFmtRead
import Derived.Laws.IdiomStrings
namespace Go.Proofs.Qxb6613954aFmt
open Go.RowKit
attribute [local go_sem] run_store_float

theorem BytesAt.take {w : World} {g o : Nat} {L : List UInt8} (h : BytesAt w g o L) (n : Nat) : ∀ j (hj : j < (L.take n).length), w.cell? ⟨g, o + j, none⟩ = some (.int .u8 (((L.take n)[j]).toNat : Int)) := fun j hj => by
  have hj' : j < L.length := by simp at hj; omega
  rw [h j hj']
  simp
theorem read_uv (g o n c x : Nat) (L : List UInt8) (w : World) (hx : x < 18446744073709551616) (hn : n = min 10 (Lib.uvarint x ++ L).length) (h : BytesAt w g o (Lib.uvarint x ++ L)) :
    Calls Tryf.prog 45 #[.slice (some ⟨g, o, none⟩) n c] w fun e w' => e = .returned (.tuple #[.int .u64 (x : Int), .int .i64 ((Lib.uvarint x).length : Int)]) ∧ w = w' := by
  have hlen := Lib.uvarint_length64 hx
  have hP := uv_read g o n c ((Lib.uvarint x ++ L).take 10) w (by rw [hn]; simp) (h.take 10)
  rw [take_append _ _ _ hlen, uvarint_back x hx] at hP
  exact hP.mono fun e w' h => ⟨h.1, h.2.symm⟩
theorem read_zz (g o n c : Nat) (x : Int) (L : List UInt8) (w : World) (h0 : -9223372036854775808 ≤ x) (h1 : x ≤ 9223372036854775807) (hn : n = min 10 (Lib.uvarint (Lib.zigzag x) ++ L).length) (h : BytesAt w g o (Lib.uvarint (Lib.zigzag x) ++ L)) :
    Calls Tryf.prog 47 #[.slice (some ⟨g, o, none⟩) n c] w fun e w' => e = .returned (.tuple #[.int .i64 x, .int .i64 ((Lib.uvarint (Lib.zigzag x)).length : Int)]) ∧ w = w' := by
  have hlen := Lib.uvarint_length64 (Lib.zigzag_lt h0 h1)
  have hP := zz_read g o n c ((Lib.uvarint (Lib.zigzag x) ++ L).take 10) w (by rw [hn]; simp) (h.take 10)
  rw [take_append _ _ _ hlen, varint_back x h0 h1] at hP
  exact hP.mono fun e w' h => ⟨h.1, h.2.symm⟩
theorem eight (l : List UInt8) (h : l.length = 8) : ∃ b0 b1 b2 b3 b4 b5 b6 b7, l = [b0, b1, b2, b3, b4, b5, b6, b7] := by
  match l, h with
  | [b0, b1, b2, b3, b4, b5, b6, b7], _ => exact ⟨_, _, _, _, _, _, _, _, rfl⟩
theorem read_be (g o n c v : Nat) (L : List UInt8) (w : World) (hv : v < 18446744073709551616) (hn : 8 ≤ n) (h : BytesAt w g o (Lib.beBytes 8 v ++ L)) :
    Calls Tryf.prog 20 #[.agg #[], .slice (some ⟨g, o, none⟩) n c] w fun e w' => e = .returned (.int .u64 (v : Int)) ∧ Below w.heap.size w w' := by
  have hl := Lib.beBytes_length 8 v
  have hb := Lib.beNat_beBytes 8 v (by simpa using hv)
  have h' := h.left
  clear h
  obtain ⟨b0, b1, b2, b3, b4, b5, b6, b7, he⟩ := eight _ hl
  rw [he] at h' hb
  have hP := be_read g o n c b0 b1 b2 b3 b4 b5 b6 b7 w hn (h' 0 (by simp)) (h' 1 (by simp)) (h' 2 (by simp)) (h' 3 (by simp)) (h' 4 (by simp)) (h' 5 (by simp)) (h' 6 (by simp)) (h' 7 (by simp))
  rw [hb] at hP
  exact hP
theorem RS.parts {rb : Nat} {L : List UInt8} {w : World} (h : RS rb L w) : w.cell? ⟨rb, 3, none⟩ = some .nilIface ∧ w.cell? ⟨rb, 2, none⟩ = some (.int .i64 (L.length : Int)) ∧ rb < w.heap.size ∧ w.frozen? ⟨rb, 3, none⟩ = false := ⟨h.err, h.left, lt_of_cell h.err, h.free 3 (by omega)⟩
theorem Kept.step {b : Nat} {w w1 w2 : World} (h : Kept b w.heap.size w w1) (h2 : ∀ N, Kept b N w1 w2) : Kept b w.heap.size w w2 := h.trans (h2 _)

set_option maxHeartbeats 1000000 in
set_option maxRecDepth 100000 in
theorem r_uvarint (rb x : Nat) (L : List UInt8) (w : World) (hx : x < 18446744073709551616) (h : RS rb (Lib.uvarint x ++ L) w) (hlen : (Lib.uvarint x ++ L).length ≤ 8000000) :
    Calls Tryf.prog 37 #[.pointer (some ⟨rb, 0, none⟩)] w fun e w' => e = .returned (.int .u64 (x : Int)) ∧ RS rb L w' ∧ Kept rb w.heap.size w w' := by
  obtain ⟨h3, h2, hrb, _⟩ := h.parts
  have hp := uvarint_pos x
  have HL : Hid ((Lib.uvarint x ++ L).length ≤ 8000000) := hlen
  clear hlen
  go_enter Tryf.func37, Tryf.ntmps37
  go_wp2_with fail
  have hb1 : Below w.heap.size w (w.alloc (.cells #[.int .u8 0, .int .u8 0, .int .u8 0, .int .u8 0, .int .u8 0, .int .u8 0, .int .u8 0, .int .u8 0, .int .u8 0, .int .u8 0] 80)) := (Below.refl _ _).alloc (Nat.le_refl _) _
  have hR := h.later hb1
  generalize (w.alloc (.cells #[.int .u8 0, .int .u8 0, .int .u8 0, .int .u8 0, .int .u8 0, .int .u8 0, .int .u8 0, .int .u8 0, .int .u8 0, .int .u8 0] 80)) = w1 at hb1 hR ⊢
  refine (peek21 rb 10 w.heap.size 0 10 _ w1 hR HL.out).mono ?_
  rintro e w2 ⟨⟨g, o, c, rfl, hB⟩, rfl⟩
  obtain ⟨m, hm⟩ : ∃ m, m = min 10 (Lib.uvarint x ++ L).length := ⟨_, rfl⟩
  rw [← hm]
  have HM : Hid (m = min 10 (Lib.uvarint x ++ L).length) := hm
  clear hm
  go_wp2_with fail
  refine (read_uv g o _ c x L w1 hx HM.out hB).mono ?_
  rintro e w2 ⟨rfl, rfl⟩
  obtain ⟨u, hu⟩ : ∃ u, (Lib.uvarint x).length = u := ⟨_, rfl⟩
  rw [hu] at hp ⊢
  have HU : Hid ((Lib.uvarint x).length = u) := hu
  clear hu
  go_wp2_with fail
  refine (skip16 rb u (Lib.uvarint x) L w1 hR HU.out HL.out).mono ?_
  rintro e w2 ⟨rfl, hR2, hk⟩
  go_wp2_with fail
  go_ret
  exact ⟨rfl, hR2, (Kept.ofBelow hb1).step hk⟩
set_option maxHeartbeats 1000000 in
set_option maxRecDepth 100000 in
theorem r_varint (rb : Nat) (x : Int) (L : List UInt8) (w : World) (h0 : -9223372036854775808 ≤ x) (h1 : x ≤ 9223372036854775807) (h : RS rb (Lib.uvarint (Lib.zigzag x) ++ L) w) (hlen : (Lib.uvarint (Lib.zigzag x) ++ L).length ≤ 8000000) :
    Calls Tryf.prog 39 #[.pointer (some ⟨rb, 0, none⟩)] w fun e w' => e = .returned (.int .i64 x) ∧ RS rb L w' ∧ Kept rb w.heap.size w w' := by
  obtain ⟨h3, h2, hrb, _⟩ := h.parts
  have hp := uvarint_pos (Lib.zigzag x)
  have HL : Hid ((Lib.uvarint (Lib.zigzag x) ++ L).length ≤ 8000000) := hlen
  clear hlen
  go_enter Tryf.func39, Tryf.ntmps39
  go_wp2_with fail
  have hb1 : Below w.heap.size w (w.alloc (.cells #[.int .u8 0, .int .u8 0, .int .u8 0, .int .u8 0, .int .u8 0, .int .u8 0, .int .u8 0, .int .u8 0, .int .u8 0, .int .u8 0] 80)) := (Below.refl _ _).alloc (Nat.le_refl _) _
  have hR := h.later hb1
  generalize (w.alloc (.cells #[.int .u8 0, .int .u8 0, .int .u8 0, .int .u8 0, .int .u8 0, .int .u8 0, .int .u8 0, .int .u8 0, .int .u8 0, .int .u8 0] 80)) = w1 at hb1 hR ⊢
  refine (peek21 rb 10 w.heap.size 0 10 _ w1 hR HL.out).mono ?_
  rintro e w2 ⟨⟨g, o, c, rfl, hB⟩, rfl⟩
  obtain ⟨m, hm⟩ : ∃ m, m = min 10 (Lib.uvarint (Lib.zigzag x) ++ L).length := ⟨_, rfl⟩
  rw [← hm]
  have HM : Hid (m = min 10 (Lib.uvarint (Lib.zigzag x) ++ L).length) := hm
  clear hm
  go_wp2_with fail
  refine (read_zz g o _ c x L w1 h0 h1 HM.out hB).mono ?_
  rintro e w2 ⟨rfl, rfl⟩
  obtain ⟨u, hu⟩ : ∃ u, (Lib.uvarint (Lib.zigzag x)).length = u := ⟨_, rfl⟩
  rw [hu] at hp ⊢
  have HU : Hid ((Lib.uvarint (Lib.zigzag x)).length = u) := hu
  clear hu
  go_wp2_with fail
  refine (skip16 rb u (Lib.uvarint (Lib.zigzag x)) L w1 hR HU.out HL.out).mono ?_
  rintro e w2 ⟨rfl, hR2, hk⟩
  go_wp2_with fail
  go_ret
  exact ⟨rfl, hR2, (Kept.ofBelow hb1).step hk⟩
set_option maxHeartbeats 1000000 in
set_option maxRecDepth 100000 in
theorem r_uint64 (rb v : Nat) (L : List UInt8) (w : World) (hv : v < 18446744073709551616) (h : RS rb (Lib.beBytes 8 v ++ L) w) (hlen : (Lib.beBytes 8 v ++ L).length ≤ 8000000) :
    Calls Tryf.prog 11 #[.pointer (some ⟨rb, 0, none⟩)] w fun e w' => e = .returned (.int .u64 (v : Int)) ∧ RS rb L w' ∧ Kept rb w.heap.size w w' := by
  obtain ⟨h3, h2, hrb, _⟩ := h.parts
  have hl8 := Lib.beBytes_length 8 v
  obtain ⟨len, hle⟩ : ∃ len, len = (Lib.beBytes 8 v ++ L).length := ⟨_, rfl⟩
  rw [← hle] at h2
  have hge : 8 ≤ len := by rw [hle]; simp [hl8]
  have HL : Hid ((Lib.beBytes 8 v ++ L).length ≤ 8000000) := hlen
  have HLE : Hid (len = (Lib.beBytes 8 v ++ L).length) := hle
  have H8 : Hid ((Lib.beBytes 8 v).length = 8) := hl8
  clear hlen hle hl8
  go_enter Tryf.func11, Tryf.ntmps11
  go_wp2_with fail
  have hb1 : Below w.heap.size w (w.alloc (.cells #[.int .u8 0, .int .u8 0, .int .u8 0, .int .u8 0, .int .u8 0, .int .u8 0, .int .u8 0, .int .u8 0] 54)) := (Below.refl _ _).alloc (Nat.le_refl _) _
  have hR := h.later hb1
  generalize (w.alloc (.cells #[.int .u8 0, .int .u8 0, .int .u8 0, .int .u8 0, .int .u8 0, .int .u8 0, .int .u8 0, .int .u8 0] 54)) = w1 at hb1 hR ⊢
  have hP := peek21 rb 8 w.heap.size 0 8 _ w1.drew (RS.mk hR.b hR.next hR.left hR.err hR.free) HL.out
  have hmin : min 8 (Lib.beBytes 8 v ++ L).length = 8 := by rw [← HLE.out]; omega
  rw [hmin] at hP
  clear h h3 h2 hmin
  go_region_with (first | (go_at_call 21; refine hP.mono ?_; rintro e w2 ⟨⟨g, o, c, rfl, hB⟩, rfl⟩) | (go_at_call 20; refine (read_be g o 8 c v L _ hv (by omega) hB).mono ?_; rintro e w2 ⟨rfl, hb2⟩))
  all_goals
    have hR2 := (RS.mk hR.b hR.next hR.left hR.err hR.free : RS rb _ w1.drew).later hb2
    have hk2 : Kept rb w.heap.size w w2 := ((Kept.ofBelow hb1).drew).below hb2 hb1.size
    clear hP hB hb2 hb1 hR
    go_wp2_with fail
    refine (skip16 rb 8 (Lib.beBytes 8 v) L w2 hR2 H8.out HL.out).mono ?_
    rintro e w3 ⟨rfl, hR3, hk⟩
    go_wp2_with fail
    go_ret
    exact ⟨rfl, hR3, hk2.step hk⟩

set_option maxHeartbeats 1000000 in
theorem r_float (rb v : Nat) (L : List UInt8) (w : World) (hv : v < 18446744073709551616) (h : RS rb (Lib.beBytes 8 v ++ L) w) (hlen : (Lib.beBytes 8 v ++ L).length ≤ 8000000) :
    Calls Tryf.prog 26 #[.pointer (some ⟨rb, 0, none⟩)] w fun e w' => e = .returned (.float .f64 v) ∧ RS rb L w' ∧ Kept rb w.heap.size w w' := by
  have k1 := call36
  have hP := r_uint64 rb v L w hv h hlen
  clear h hlen
  go_enter Tryf.func26, Tryf.ntmps26
  go_wp2_with fail
  refine hP.mono ?_
  rintro e w1 ⟨rfl, hR, hk⟩
  go_wp2_with fail
  go_ret
  exact ⟨rfl, hR, hk⟩

set_option maxHeartbeats 1000000 in
theorem r_count (rb n : Nat) (L : List UInt8) (w : World) (hn : n ≤ 131072) (hL : 8 * n ≤ L.length) (h : RS rb (Lib.uvarint n ++ L) w) (hlen : (Lib.uvarint n ++ L).length ≤ 8000000) :
    Calls Tryf.prog 27 #[.pointer (some ⟨rb, 0, none⟩), .int .i64 8] w fun e w' => e = .returned (.int .i64 (n : Int)) ∧ RS rb L w' ∧ Kept rb w.heap.size w w' := by
  have hP := r_uvarint rb n L w (by omega) h hlen
  have hlen' : L.length ≤ 8000000 := by simp at hlen; omega
  clear h hlen
  go_enter Tryf.func27, Tryf.ntmps27
  go_wp2_with fail
  refine hP.mono ?_
  rintro e w1 ⟨rfl, hR, hk⟩
  obtain ⟨h3, h2, hrb, _⟩ := hR.parts
  obtain ⟨len, hle⟩ : ∃ len, len = L.length := ⟨_, rfl⟩
  rw [← hle] at h2 hL hlen'
  clear hP hle
  have hq : Int.tdiv (len : Int) 8 = ((len / 8 : Nat) : Int) := by rw [Int.tdiv_eq_ediv_of_nonneg (by omega)]; omega
  have hle2 : ¬ ((len / 8 : Nat) : Int) < (n : Int) := by omega
  go_wp2_with fail
  go_ret
  exact ⟨rfl, hR, hk⟩

set_option maxHeartbeats 1000000 in
theorem r_int (rb : Nat) (x : Int) (L : List UInt8) (w : World) (h0 : -9223372036854775808 ≤ x) (h1 : x ≤ 9223372036854775807) (h : RS rb (Lib.uvarint (Lib.zigzag x) ++ L) w) (hlen : (Lib.uvarint (Lib.zigzag x) ++ L).length ≤ 8000000) :
    Calls Tryf.prog 28 #[.pointer (some ⟨rb, 0, none⟩)] w fun e w' => e = .returned (.int .i64 x) ∧ RS rb L w' ∧ Kept rb w.heap.size w w' := by
  have hP := r_varint rb x L w h0 h1 h hlen
  clear h hlen
  go_enter Tryf.func28, Tryf.ntmps28
  go_wp2_with fail
  refine hP.mono ?_
  rintro e w1 ⟨rfl, hR, hk⟩
  go_wp2_with fail
  go_ret
  exact ⟨rfl, hR, hk⟩

set_option maxRecDepth 100000 in
theorem conv_str (g o n c : Nat) (X : List UInt8) (w : World) (h : BytesAt w g o X) (hn : n = X.length) : (convert 24 9 (.slice (some ⟨g, o, none⟩) n c)).run Tryf.prog w = .ok (.string ⟨X.toArray⟩) w := by
  subst hn
  refine run_convert_bytes_back (P := Tryf.prog) w 24 9 5 ⟨g, o, none⟩ c X Tryf.underlying24 Tryf.underlying5 Tryf.underlying9 fun j hj => ?_
  rw [show (⟨g, o, none⟩ : Addr).add j = ⟨g, o + j, none⟩ from by simp [Addr.add]]
  exact h j hj

set_option maxHeartbeats 1000000 in
set_option maxRecDepth 100000 in
theorem r_text (rb : Nat) (s : ByteArray) (L : List UInt8) (w : World) (hs : s.size ≤ 1048576) (h : RS rb (Lib.uvarint s.size ++ (s.data.toList ++ L)) w) (hlen : (Lib.uvarint s.size ++ (s.data.toList ++ L)).length ≤ 8000000) :
    Calls Tryf.prog 29 #[.pointer (some ⟨rb, 0, none⟩)] w fun e w' => e = .returned (.string s) ∧ RS rb L w' ∧ Kept rb w.heap.size w w' := by
  have hP := r_uvarint rb s.size _ w (by omega) h hlen
  have hlen' : (s.data.toList ++ L).length ≤ 8000000 := by rw [List.length_append] at hlen; omega
  have HL : Hid ((s.data.toList ++ L).length ≤ 8000000) := hlen'
  clear h hlen hlen'
  go_enter Tryf.func29, Tryf.ntmps29
  go_wp2_with fail
  refine hP.mono ?_
  rintro e w1 ⟨rfl, hR, hk⟩
  clear hP
  have HR : Hid (RS rb (s.data.toList ++ L) w1) := hR
  obtain ⟨h3, h2, hrb, _⟩ := hR.parts
  obtain ⟨⟨a, c, hc, hlc, g, o, rfl, hg, hb⟩, -, -, -, -⟩ := hR
  obtain ⟨len, hle⟩ : ∃ len, len = (s.data.toList ++ L).length := ⟨_, rfl⟩
  rw [← hle] at h2 hc hlc
  have hsz : s.size ≤ len := by rw [hle]; simp
  have hlm : len ≤ 8000000 := by rw [hle]; exact HL.out
  have hcv := conv_str g o s.size c s.data.toList w1 hb.left (by simp)
  have hsl := slice_to g o len c s.size (by omega)
  rw [show (⟨s.data.toList.toArray⟩ : ByteArray) = s from by simp] at hcv
  have HS0 : s.data.toList.length = s.size := by simp
  obtain ⟨k, hkk⟩ : ∃ k, k = s.size := ⟨_, rfl⟩
  rw [← hkk] at hcv hsl hsz hs HS0 ⊢
  have HS : Hid (s.data.toList.length = k) := HS0
  clear hle hb HS0 hkk
  go_wp2_with fail
  refine (skip16 rb k s.data.toList L w1 HR.out HS.out HL.out).mono ?_
  rintro e w2 ⟨rfl, hR2, hk2⟩
  go_wp2_with fail
  go_ret
  exact ⟨rfl, hR2, hk.step hk2⟩
set_option maxHeartbeats 1000000 in
theorem r_short (rb : Nat) (L : List UInt8) (w : World) (t : TypeId) (v : Value) (hg : w.cell? ⟨0, 0, none⟩ = some (.iface t v)) (h : RS rb L w) (hlen : L.length < 8) :
    Calls Tryf.prog 11 #[.pointer (some ⟨rb, 0, none⟩)] w fun e w' => e = .returned (.int .u64 0) ∧ Kept rb w.heap.size w w' := by
  obtain ⟨h3, h2, hrb, hf⟩ := h.parts
  obtain ⟨len, hle⟩ : ∃ len, len = L.length := ⟨_, rfl⟩
  rw [← hle] at h2 hlen
  clear h hle
  go_enter Tryf.func11, Tryf.ntmps11
  go_wp2_with fail
  go_ret
  exact ⟨rfl, (Kept.refl rb _ w).setCell (.inl rfl) _⟩
end Go.Proofs.Qxb6613954aFmt
