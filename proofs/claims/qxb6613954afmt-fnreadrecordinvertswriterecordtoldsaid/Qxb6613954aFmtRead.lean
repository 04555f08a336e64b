/-
  A Reader's state; the contracts of skip and peek.
-/
import Derived.Test.Qxb6613954aFmtWrite
import Derived.Test.Qxb6613954aFmtPlain
namespace Go.Proofs.Qxb6613954aFmt
open Go.RowKit
attribute [local go_sem] run_store_float

/-- The bytes L lie from offset o on in block g. -/
def BytesAt (w : World) (g o : Nat) (L : List UInt8) : Prop := ∀ j (hj : j < L.length), w.cell? ⟨g, o + j, none⟩ = some (.int .u8 ((L[j]).toNat : Int))
/-- A slice value over the bytes L, in another block than rb. -/
def ByteRow (rb : Nat) (w : World) (a : Option Addr) (L : List UInt8) : Prop := ∃ g o, a = some ⟨g, o, none⟩ ∧ g ≠ rb ∧ BytesAt w g o L
/-- A Reader at block rb has the bytes L left, all in its first slice. -/
structure RS (rb : Nat) (L : List UInt8) (w : World) : Prop where
  b : ∃ a c, w.cell? ⟨rb, 0, none⟩ = some (.slice a L.length c) ∧ L.length ≤ c ∧ ByteRow rb w a L
  next : ∃ a c, w.cell? ⟨rb, 1, none⟩ = some (.slice a 0 c)
  left : w.cell? ⟨rb, 2, none⟩ = some (.int .i64 (L.length : Int))
  err : w.cell? ⟨rb, 3, none⟩ = some .nilIface
  free : ∀ j, j < 4 → w.frozen? ⟨rb, j, none⟩ = false

theorem BytesAt.other {w w' : World} {g o : Nat} {L : List UInt8} (h : BytesAt w g o L) (hw : ∀ j, j < L.length → w'.cell? ⟨g, o + j, none⟩ = w.cell? ⟨g, o + j, none⟩) : BytesAt w' g o L :=
  fun j hj => (hw j hj).trans (h j hj)
theorem BytesAt.drop {w : World} {g o : Nat} {X L : List UInt8} (h : BytesAt w g o (X ++ L)) : BytesAt w g (o + X.length) L := fun j hj => by
  have := h (X.length + j) (by simp; omega)
  rw [Nat.add_assoc, this]
  simp
theorem BytesAt.left {w : World} {g o : Nat} {X L : List UInt8} (h : BytesAt w g o (X ++ L)) : BytesAt w g o X := fun j hj => by
  have := h j (by simp; omega)
  rw [this]
  simp [hj]
theorem ByteRow.set {rb : Nat} {w : World} {a : Option Addr} {L : List UInt8} (h : ByteRow rb w a L) (j : Nat) (v : Value) : ByteRow rb (w.setCell ⟨rb, j, none⟩ v) a L := by
  obtain ⟨g, o, rfl, hg, hb⟩ := h
  exact ⟨g, o, rfl, hg, hb.other fun i _ => cell_other (Ne.symm hg)⟩
theorem ByteRow.later {rb : Nat} {w w' : World} {a : Option Addr} {L : List UInt8} (h : ByteRow rb w a L) (hb : Below w.heap.size w w') : ByteRow rb w' a L := by
  obtain ⟨g, o, rfl, hg, hc⟩ := h
  exact ⟨g, o, rfl, hg, fun j hj => (hb.cell (p := ⟨g, o + j, none⟩) (lt_of_cell (hc j hj))).trans (hc j hj)⟩
theorem RS.later {rb : Nat} {L : List UInt8} {w w' : World} (h : RS rb L w) (hb : Below w.heap.size w w') : RS rb L w' := by
  obtain ⟨⟨a, c, hc, hlc, hr⟩, ⟨a1, c1, h1⟩, h2, h3, hf⟩ := h
  have hlt := lt_of_cell hc
  exact ⟨⟨a, c, (hb.cell (p := ⟨rb, 0, none⟩) hlt).trans hc, hlc, hr.later hb⟩, ⟨a1, c1, (hb.cell (p := ⟨rb, 1, none⟩) hlt).trans h1⟩, (hb.cell (p := ⟨rb, 2, none⟩) hlt).trans h2, (hb.cell (p := ⟨rb, 3, none⟩) hlt).trans h3, fun j hj => (hb.frozen (p := ⟨rb, j, none⟩) hlt).trans (hf j hj)⟩

set_option maxRecDepth 100000 in
theorem slice_from (g o len c k : Nat) (hk : k < len) (hc : len ≤ c) (w : World) :
    (Instr.slice 24 (.slice (some ⟨g, o, none⟩) len c) (some (.int .i64 (k : Int))) none none).run Tryf.prog w = .ok (.slice (some ⟨g, o + k, none⟩) (len - k) (c - k)) w := by
  have h := run_slice_l (P := Tryf.prog) w 24 (some ⟨g, o, none⟩) len c Tryf.underlying24 .i64 (k : Int) (by omega) (by omega)
  rw [h]
  have he : Tryf.prog.elem 24 = 5 := by kernel_rfl
  rw [he]
  obtain ⟨i0, hi, hz0, hz1, hz2⟩ := info_parts Tryf.info5
  have hs : (sizeOf 5).run Tryf.prog w = .ok 1 w := by kernel_rfl
  rw [hs]
  simp [Result.andThen, sliced, Addr.add, show ¬ c = k from by omega]
set_option maxRecDepth 100000 in
theorem slice_end (g o len c : Nat) : ∃ o', ∀ w : World,
    (Instr.slice 24 (.slice (some ⟨g, o, none⟩) len c) (some (.int .i64 (len : Int))) none none).run Tryf.prog w = .ok (.slice (some ⟨g, o', none⟩) 0 (c - len)) w := by
  refine ⟨if c = len then o else o + len, fun w => ?_⟩
  rw [run_slice_l (P := Tryf.prog) w 24 (some ⟨g, o, none⟩) len c Tryf.underlying24 .i64 (len : Int) (by omega) (by omega)]
  have he : Tryf.prog.elem 24 = 5 := by kernel_rfl
  rw [he]
  have hs : (sizeOf 5).run Tryf.prog w = .ok 1 w := by kernel_rfl
  rw [hs]
  by_cases hc : c = len <;> simp [Result.andThen, sliced, Addr.add, hc]

/-- What a skip leaves. -/
theorem RS.skipped {rb : Nat} {X L : List UInt8} {w : World} {c' : Nat} {a' : Option Addr} (h : RS rb (X ++ L) w) (hc' : L.length ≤ c') (hr : ByteRow rb w a' L) :
    RS rb L ((w.setCell ⟨rb, 2, none⟩ (.int .i64 (L.length : Int))).setCell ⟨rb, 0, none⟩ (.slice a' L.length c')) := by
  obtain ⟨⟨a, c, hc, hlc, _⟩, ⟨a1, c1, h1⟩, h2, h3, hf⟩ := h
  refine ⟨⟨a', c', ?_, hc', (hr.set 2 _).set 0 _⟩, ⟨a1, c1, ?_⟩, ?_, ?_, fun j hj => by simpa using hf j hj⟩
  · exact World.cell?_setCell_same _ _ _ (u := .slice a (X ++ L).length c) (by rw [World.cell?_setCell_other _ _ _ _ (by simp)]; exact hc)
  · rw [World.cell?_setCell_other _ _ _ _ (by simp), World.cell?_setCell_other _ _ _ _ (by simp)]; exact h1
  · rw [World.cell?_setCell_other _ _ _ _ (by simp)]; exact World.cell?_setCell_same _ _ _ h2
  · rw [World.cell?_setCell_other _ _ _ _ (by simp), World.cell?_setCell_other _ _ _ _ (by simp)]; exact h3

set_option maxRecDepth 100000 in
theorem slice_to (g o len c k : Nat) (hk : k ≤ c) (w : World) :
    (Instr.slice 24 (.slice (some ⟨g, o, none⟩) len c) none (some (.int .i64 (k : Int))) none).run Tryf.prog w = .ok (.slice (some ⟨g, o, none⟩) k c) w := by
  have h := run_slice_h (P := Tryf.prog) w 24 (some ⟨g, o, none⟩) len c Tryf.underlying24 .i64 (k : Int) (by omega) (by omega)
  rw [h]
  have he : Tryf.prog.elem 24 = 5 := by kernel_rfl
  rw [he]
  have hs : (sizeOf 5).run Tryf.prog w = .ok 1 w := by kernel_rfl
  rw [hs]
  simp [Result.andThen, sliced, Addr.add]

set_option maxHeartbeats 1000000 in
set_option maxRecDepth 100000 in
theorem skip16 (rb k : Nat) (X L : List UInt8) (w : World) (h : RS rb (X ++ L) w) (hk : X.length = k) (hlen : (X ++ L).length ≤ 8000000) :
    Calls Tryf.prog 16 #[.pointer (some ⟨rb, 0, none⟩), .int .i64 (k : Int)] w fun e w' => e = .returned (.tuple #[]) ∧ RS rb L w' ∧ ∀ N, Kept rb N w w' := by
  have HR : Hid (RS rb (X ++ L) w) := h
  obtain ⟨⟨a, c, hc, hlc, hr⟩, ⟨a1, c1, h1⟩, h2, h3, hf⟩ := h
  have f0 := hf 0 (by omega)
  have f2 := hf 2 (by omega)
  obtain ⟨len, hlen'⟩ : ∃ len, len = (X ++ L).length := ⟨_, rfl⟩
  rw [← hlen'] at hc hlc h2 hlen
  have hLL : L.length = len - k := by rw [hlen']; simp; omega
  have hkl : k ≤ len := by rw [hlen']; simp; omega
  clear hf
  by_cases hL : L = []
  · have hke : k = len := by rw [hlen', hL]; simpa using hk.symm
    obtain ⟨g, o, rfl, hg, hb⟩ := hr
    obtain ⟨o', hsl⟩ := slice_end g o len c
    have HL : Hid (L = []) := hL
    subst hke
    clear hlen' hLL hL hk hb
    go_enter Tryf.func16, Tryf.ntmps16
    go_wp2_with fail
    go_loopw [1] (fun v wr => v = .int .i64 (k : Int) ∧ wr = w.setCell ⟨rb, 2, none⟩ (.int .i64 0)) (fun _ _ => 0)
    case atStart => exact ⟨rfl, rfl⟩
    case round =>
      obtain ⟨rfl, rfl⟩ := hrel
      go_wp2_with fail
      refine bodyPost_ret (results_none rfl _ _ _) rfl ⟨rfl, ?_, fun N => ((Kept.refl rb N w).setCell (.inl rfl) _).setCell (.inl rfl) _⟩
      have hl := HL.out
      have := HR.out.skipped (a' := some ⟨g, o', none⟩) (c' := c - k) (by rw [hl]; simp) ⟨g, o', rfl, hg, by rw [hl]; intro j hj; simp at hj⟩
      rw [hl] at this ⊢
      exact this
  · have hkl' : k < len := by
      have : 0 < L.length := List.length_pos_iff.2 hL
      omega
    obtain ⟨g, o, rfl, hg, hb⟩ := hr
    have hsl := slice_from g o len c k hkl' hlc
    have HB : Hid (BytesAt w g o (X ++ L)) := hb
    have HLL : Hid (L.length = len - k) := hLL
    have HK : Hid (X.length = k) := hk
    clear hlen' hb hL hLL hk
    go_enter Tryf.func16, Tryf.ntmps16
    go_wp2_with fail
    refine bodyPost_ret (results_none rfl _ _ _) rfl ⟨rfl, ?_, fun N => ((Kept.refl rb N w).setCell (.inl rfl) _).setCell (.inl rfl) _⟩
    have hbd := HB.out.drop
    rw [HK.out] at hbd
    have := HR.out.skipped (a' := some ⟨g, o + k, none⟩) (c' := c - k) (by rw [HLL.out]; omega) ⟨g, o + k, rfl, hg, hbd⟩
    rw [HLL.out, Int.ofNat_sub hkl] at this
    exact this

/-- A new Reader: all its bytes lie in the one slice that waits. -/
structure NS (rb q : Nat) (L : List UInt8) (w : World) : Prop where
  b : w.cell? ⟨rb, 0, none⟩ = some (.slice none 0 0)
  next : w.cell? ⟨rb, 1, none⟩ = some (.slice (some ⟨q, 0, none⟩) 1 1)
  left : w.cell? ⟨rb, 2, none⟩ = some (.int .i64 (L.length : Int))
  err : w.cell? ⟨rb, 3, none⟩ = some .nilIface
  free : ∀ j, j < 4 → w.frozen? ⟨rb, j, none⟩ = false
  other : q ≠ rb
  row : ∃ g o c, w.cell? ⟨q, 0, none⟩ = some (.slice (some ⟨g, o, none⟩) L.length c) ∧ L.length ≤ c ∧ g ≠ rb ∧ BytesAt w g o L
def nextLen (rb : Nat) (w : World) : Nat := match w.cell? ⟨rb, 1, none⟩ with
  | some (.slice _ n _) => n
  | _ => 0
theorem NS.nextLen {rb q : Nat} {L : List UInt8} {w : World} (h : NS rb q L w) : nextLen rb w = 1 := by simp [Qxb6613954aFmt.nextLen, h.next]
theorem RS.nextLen {rb : Nat} {L : List UInt8} {w : World} (h : RS rb L w) : nextLen rb w = 0 := by
  obtain ⟨a, c, hc⟩ := h.next
  simp [Qxb6613954aFmt.nextLen, hc]
theorem NS.set2 {rb q : Nat} {L : List UInt8} {w : World} (h : NS rb q L w) : NS rb q L (w.setCell ⟨rb, 2, none⟩ (.int .i64 (L.length : Int))) := by
  obtain ⟨h0, h1, h2, h3, hf, ho, g, o, c, hq, hlc, hg, hb⟩ := h
  exact ⟨by rw [World.cell?_setCell_other _ _ _ _ (by simp)]; exact h0, by rw [World.cell?_setCell_other _ _ _ _ (by simp)]; exact h1, World.cell?_setCell_same _ _ _ h2, by rw [World.cell?_setCell_other _ _ _ _ (by simp)]; exact h3,
    fun j hj => by simpa using hf j hj, ho, g, o, c, by rw [cell_other (Ne.symm ho)]; exact hq, hlc, hg, hb.other fun i _ => cell_other (Ne.symm hg)⟩

theorem NS.moved {rb q : Nat} {L : List UInt8} {w : World} {g o c : Nat} (h : NS rb q L w) (hlc : L.length ≤ c) (hg : g ≠ rb) (hb : BytesAt w g o L) :
    RS rb L (((w.setCell ⟨rb, 0, none⟩ (.slice none 0 0)).setCell ⟨rb, 0, none⟩ (.slice (some ⟨g, o, none⟩) L.length c)).setCell ⟨rb, 1, none⟩ (.slice (some ⟨q, 0, none⟩) 0 0)).drew := by
  obtain ⟨h0, h1, h2, h3, hf, _, _⟩ := h
  refine ⟨⟨some ⟨g, o, none⟩, c, ?_, hlc, ⟨g, o, rfl, hg, hb.other fun i _ => ?_⟩⟩, ⟨some ⟨q, 0, none⟩, 0, ?_⟩, ?_, ?_, fun j hj => ?_⟩
  · rw [World.cell?_drew, World.cell?_setCell_other _ _ _ _ (by simp)]
    exact World.cell?_setCell_same _ _ _ (World.cell?_setCell_same _ _ _ h0)
  · rw [World.cell?_drew, cell_other (Ne.symm hg), cell_other (Ne.symm hg), cell_other (Ne.symm hg)]
  · rw [World.cell?_drew]
    exact World.cell?_setCell_same _ _ _ (u := .slice (some ⟨q, 0, none⟩) 1 1) (by rw [World.cell?_setCell_other _ _ _ _ (by simp), World.cell?_setCell_other _ _ _ _ (by simp)]; exact h1)
  · rw [World.cell?_drew, World.cell?_setCell_other _ _ _ _ (by simp), World.cell?_setCell_other _ _ _ _ (by simp), World.cell?_setCell_other _ _ _ _ (by simp)]; exact h2
  · rw [World.cell?_drew, World.cell?_setCell_other _ _ _ _ (by simp), World.cell?_setCell_other _ _ _ _ (by simp), World.cell?_setCell_other _ _ _ _ (by simp)]; exact h3
  · simpa using hf j hj
theorem RS.reset {rb : Nat} {L : List UInt8} {w : World} {g o c' : Nat} (h : RS rb L w) (hb : BytesAt w g o L) (hg : g ≠ rb) (hlc : L.length ≤ c') :
    RS rb L (w.setCell ⟨rb, 0, none⟩ (.slice (some ⟨g, o, none⟩) L.length c')) := by
  obtain ⟨⟨a, c, hc, _, _⟩, ⟨a1, c1, h1⟩, h2, h3, hf⟩ := h
  refine ⟨⟨some ⟨g, o, none⟩, c', World.cell?_setCell_same _ _ _ hc, hlc, ⟨g, o, rfl, hg, hb.other fun i _ => cell_other (Ne.symm hg)⟩⟩, ⟨a1, c1, ?_⟩, ?_, ?_, fun j hj => by simpa using hf j hj⟩
  · rw [World.cell?_setCell_other _ _ _ _ (by simp)]; exact h1
  · rw [World.cell?_setCell_other _ _ _ _ (by simp)]; exact h2
  · rw [World.cell?_setCell_other _ _ _ _ (by simp)]; exact h3

set_option maxHeartbeats 1000000 in
set_option maxRecDepth 100000 in
theorem skip16_new (rb q : Nat) (L : List UInt8) (w : World) (h : NS rb q L w) (hL : 0 < L.length) (hlen : L.length ≤ 8000000) :
    Calls Tryf.prog 16 #[.pointer (some ⟨rb, 0, none⟩), .int .i64 0] w fun e w' => e = .returned (.tuple #[]) ∧ RS rb L w' ∧ ∀ N, Kept rb N w w' := by
  have HN : Hid (NS rb q L w) := h
  obtain ⟨h0, h1, h2, h3, hf, ho, g, o, c, hq, hlc, hg, hb⟩ := h
  have f0 := hf 0 (by omega)
  have f1 := hf 1 (by omega)
  have f2 := hf 2 (by omega)
  obtain ⟨len, hlen'⟩ : ∃ len, len = L.length := ⟨_, rfl⟩
  rw [← hlen'] at hq hlc h2 hlen hL
  have HLE : Hid (len = L.length) := hlen'
  have HB : Hid (BytesAt w g o L) := hb
  clear hf hb hlen'
  have hsl := slice_from g o len c 0 hL hlc
  go_enter Tryf.func16, Tryf.ntmps16
  go_wp2_with fail
  go_loopw [1] (fun v wr => v = .int .i64 0 ∧ (NS rb q L wr ∨ RS rb L wr) ∧ ∀ N, Kept rb N w wr) (fun _ wr => nextLen rb wr)
  case atStart =>
    refine ⟨rfl, .inl ?_, fun N => (Kept.refl rb N w).setCell (.inl rfl) _⟩
    rw [HLE.out]
    exact HN.out.set2
  case round =>
    clear h0 h1 h2 h3 hq f0 f1 f2 HB HN hsl
    obtain ⟨rfl, hst, hk⟩ := hrel
    rcases hst with hN | hR
    · have HN : Hid (NS rb q L wr) := hN
      obtain ⟨h0, h1, h2, h3, hf, ho, g, o, c, hq, hlc, hg, hb⟩ := hN
      have f0 := hf 0 (by omega)
      have f1 := hf 1 (by omega)
      have HB : Hid (BytesAt wr g o L) := hb
      clear hf hb
      have hne : ¬ rb = q := fun e => ho e.symm
      go_wp2_with fail
      go_region
      have hR := HN.out.moved hlc hg HB.out
      refine ⟨?_, ?measure⟩
      iterate 60 (try apply Exists.intro)
      refine ⟨?rel, rfl⟩
      case rel => exact ⟨rfl, .inr hR, fun N => (((((hk N).setCell (.inl rfl) _).setCell (.inl rfl) _).setCell (.inl rfl) _)).drew⟩
      case measure => rw [hR.nextLen, HN.out.nextLen]; omega
    · have HR : Hid (RS rb L wr) := hR
      obtain ⟨⟨a, c, hc, hlc, hr⟩, ⟨a1, c1, h1⟩, h2, h3, hf⟩ := hR
      have f0 := hf 0 (by omega)
      obtain ⟨g, o, rfl, hg, hb⟩ := hr
      rw [← HLE.out] at hc hlc h2
      have HB : Hid (BytesAt wr g o L) := hb
      have hsl := slice_from g o len c 0 hL hlc
      clear hf hb
      go_wp2_with fail
      refine bodyPost_ret (results_none rfl _ _ _) rfl ⟨rfl, ?_, fun N => (hk N).setCell (.inl rfl) _⟩
      have h5 := HR.out.reset HB.out hg (c' := c) (by rw [← HLE.out]; exact hlc)
      rw [← HLE.out] at h5
      exact h5

set_option maxHeartbeats 1000000 in
set_option maxRecDepth 100000 in
theorem peek21 (rb m t o' cc : Nat) (L : List UInt8) (w : World) (h : RS rb L w) (hlen : L.length ≤ 8000000) :
    Calls Tryf.prog 21 #[.pointer (some ⟨rb, 0, none⟩), .slice (some ⟨t, o', none⟩) m cc] w fun e w' => (∃ g o c, e = .returned (.slice (some ⟨g, o, none⟩) (min m L.length) c) ∧ BytesAt w g o L) ∧ w = w' := by
  obtain ⟨⟨a, c, hc, hlc, hr⟩, ⟨a1, c1, h1⟩, h2, h3, hf⟩ := h
  obtain ⟨g, o, rfl, hg, hb⟩ := hr
  obtain ⟨len, hlen'⟩ : ∃ len, len = L.length := ⟨_, rfl⟩
  rw [← hlen'] at hc hlc h2 hlen ⊢
  have HB : Hid (BytesAt w g o L) := hb
  clear hf hb hlen'
  go_enter Tryf.func21, Tryf.ntmps21
  go_wp2_with fail
  go_ret
  exact ⟨⟨g, o, c, by congr; simp; congr; omega, HB.out⟩, rfl⟩
end Go.Proofs.Qxb6613954aFmt
