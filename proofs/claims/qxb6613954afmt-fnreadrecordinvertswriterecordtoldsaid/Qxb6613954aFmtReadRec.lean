/-
  The contracts of readRecord and ZZreadRecord.
-/
import Derived.Test.Qxb6613954aFmtReader
namespace Go.Proofs.Qxb6613954aFmt
open Go.RowKit
attribute [local go_sem] run_store_float

theorem BytesAt.set {w : World} {g o b j : Nat} {L : List UInt8} {u : Value} (h : BytesAt w g o L) (hc : w.cell? ⟨b, j, none⟩ = some u) (hu : ∀ n : Int, u ≠ .int .u8 n) (v : Value) : BytesAt (w.setCell ⟨b, j, none⟩ v) g o L := fun i hi => by
  rw [World.cell?_setCell_other, h i hi]
  intro e
  have := h i hi
  rw [← e, hc] at this
  exact hu _ (Option.some.inj this)
theorem RS.set {rb : Nat} {L : List UInt8} {w : World} {b j : Nat} {u : Value} (h : RS rb L w) (hb : b ≠ rb) (hc : w.cell? ⟨b, j, none⟩ = some u) (hu : ∀ n : Int, u ≠ .int .u8 n) (v : Value) : RS rb L (w.setCell ⟨b, j, none⟩ v) := by
  obtain ⟨⟨a, c, h0, hlc, g, o, rfl, hg, hB⟩, ⟨a1, c1, h1⟩, h2, h3, hf⟩ := h
  exact ⟨⟨_, c, by rw [cell_other hb]; exact h0, hlc, g, o, rfl, hg, hB.set hc hu v⟩, ⟨a1, c1, by rw [cell_other hb]; exact h1⟩, by rw [cell_other hb]; exact h2, by rw [cell_other hb]; exact h3, fun i hi => by simpa using hf i hi⟩
theorem RS.drew {rb : Nat} {L : List UInt8} {w : World} (h : RS rb L w) : RS rb L w.drew := RS.mk h.b h.next h.left h.err h.free

/-- Four cells of a Record variable. -/
structure RecAt (b : Nat) (v0 v1 v2 v3 : Value) (w : World) : Prop where
  c0 : w.cell? ⟨b, 0, none⟩ = some v0
  c1 : w.cell? ⟨b, 1, none⟩ = some v1
  c2 : w.cell? ⟨b, 2, none⟩ = some v2
  c3 : w.cell? ⟨b, 3, none⟩ = some v3
  f : ∀ j, j < 4 → w.frozen? ⟨b, j, none⟩ = false
theorem RecAt.new {w : World} (v0 v1 v2 v3 : Value) : RecAt w.heap.size v0 v1 v2 v3 (w.alloc (.cells #[v0, v1, v2, v3] 32)) := by
  have c : ∀ j, (w.alloc (.cells #[v0, v1, v2, v3] 32)).cell? ⟨w.heap.size, j, none⟩ = (#[v0, v1, v2, v3] : Array Value)[j]? := fun j => by rw [World.cell?_alloc_at _ _ _ _ rfl]
  exact ⟨c 0, c 1, c 2, c 3, fun j _ => by rw [World.frozen?_alloc_at _ _ _ _ rfl]⟩
theorem RecAt.kept {b rb N : Nat} {v0 v1 v2 v3 : Value} {w w' : World} (h : RecAt b v0 v1 v2 v3 w) (hk : Kept rb N w w') (hb : b ≠ rb) (hN : b < N) : RecAt b v0 v1 v2 v3 w' :=
  ⟨(hk.cell hN hb).trans h.c0, (hk.cell hN hb).trans h.c1, (hk.cell hN hb).trans h.c2, (hk.cell hN hb).trans h.c3, fun j hj => (hk.frozen hN hb).trans (h.f j hj)⟩
theorem RecAt.lt {b : Nat} {v0 v1 v2 v3 : Value} {w : World} (h : RecAt b v0 v1 v2 v3 w) : b < w.heap.size := lt_of_cell h.c0
theorem RecAt.later {b : Nat} {v0 v1 v2 v3 : Value} {w w' : World} (h : RecAt b v0 v1 v2 v3 w) (hb : Below w.heap.size w w') : RecAt b v0 v1 v2 v3 w' :=
  h.kept (rb := b + 1) (Kept.ofBelow hb) (by omega) h.lt
theorem RecAt.other {b x j : Nat} {v0 v1 v2 v3 : Value} {w : World} (h : RecAt b v0 v1 v2 v3 w) (hx : x ≠ b) (v : Value) : RecAt b v0 v1 v2 v3 (w.setCell ⟨x, j, none⟩ v) :=
  ⟨by rw [cell_other hx]; exact h.c0, by rw [cell_other hx]; exact h.c1, by rw [cell_other hx]; exact h.c2, by rw [cell_other hx]; exact h.c3, fun i hi => by simpa using h.f i hi⟩
theorem RecAt.set1 {b : Nat} {v0 v1 v2 v3 : Value} {w : World} (h : RecAt b v0 v1 v2 v3 w) (v : Value) : RecAt b v0 v v2 v3 (w.setCell ⟨b, 1, none⟩ v) :=
  ⟨by rw [World.cell?_setCell_other _ _ _ _ (by simp)]; exact h.c0, World.cell?_setCell_same _ _ _ h.c1, by rw [World.cell?_setCell_other _ _ _ _ (by simp)]; exact h.c2, by rw [World.cell?_setCell_other _ _ _ _ (by simp)]; exact h.c3, fun i hi => by simpa using h.f i hi⟩
theorem RecAt.set3 {b : Nat} {v0 v1 v2 v3 : Value} {w : World} (h : RecAt b v0 v1 v2 v3 w) (v : Value) : RecAt b v0 v1 v2 v (w.setCell ⟨b, 3, none⟩ v) :=
  ⟨by rw [World.cell?_setCell_other _ _ _ _ (by simp)]; exact h.c0, by rw [World.cell?_setCell_other _ _ _ _ (by simp)]; exact h.c1, by rw [World.cell?_setCell_other _ _ _ _ (by simp)]; exact h.c2, World.cell?_setCell_same _ _ _ h.c3, fun i hi => by simpa using h.f i hi⟩

theorem RS.fill {rb A : Nat} {L : List UInt8} {w : World} {x : Nat} {y : Int} {s : ByteArray} {q : Option Addr} (h : RS rb L w) (hA : RecAt A (.float .f64 x) (.int .i64 y) (.string s) (.pointer q) w) (hne : A ≠ rb) (x0 x1 x2 x3 : Value) :
    RS rb L ((((w.setCell ⟨A, 0, none⟩ x0).setCell ⟨A, 1, none⟩ x1).setCell ⟨A, 2, none⟩ x2).setCell ⟨A, 3, none⟩ x3) := by
  refine (((h.set hne hA.c0 (by simp) x0).set hne (u := .int .i64 y) ?_ (by simp) x1).set hne (u := .string s) ?_ (by simp) x2).set hne (u := .pointer q) ?_ (by simp) x3
  · rw [World.cell?_setCell_other _ _ _ _ (by simp)]; exact hA.c1
  · rw [World.cell?_setCell_other _ _ _ _ (by simp), World.cell?_setCell_other _ _ _ _ (by simp)]; exact hA.c2
  · rw [World.cell?_setCell_other _ _ _ _ (by simp), World.cell?_setCell_other _ _ _ _ (by simp), World.cell?_setCell_other _ _ _ _ (by simp)]; exact hA.c3

/-- Inside the loop that reads the keys after the first: k of them are read. -/
structure FL (rb A R M n key : Nat) (F : Nat → Nat) (T : List UInt8) (k : Nat) (w : World) : Prop where
  rs : RS rb (fFrom F k (n - k) ++ T) w
  row : w.cell? ⟨M + 1, 0, none⟩ = some (.slice (some ⟨M, 0, none⟩) n n)
  done : ∀ j, j < k → w.cell? ⟨M, j, none⟩ = some (.float .f64 (F j))
  todo : ∀ j, k ≤ j → j < n → w.cell? ⟨M, j, none⟩ = some (.float .f64 0)
  free : ∀ j, j < n → w.frozen? ⟨M, j, none⟩ = false
  a : RecAt A (.float .f64 0) (.int .i64 0) (.string ⟨#[]⟩) (.pointer none) w
  r : RecAt R (.float .f64 key) (.int .i64 0) (.string ⟨#[]⟩) (.pointer none) w
theorem FL.start {rb A R n key : Nat} {F : Nat → Nat} {T : List UInt8} {w : World} {cur : List Value} (hR : RS rb (fFrom F 0 n ++ T) w) (hA : RecAt A (.float .f64 0) (.int .i64 0) (.string ⟨#[]⟩) (.pointer none) w) (hr : RecAt R (.float .f64 key) (.int .i64 0) (.string ⟨#[]⟩) (.pointer none) w)
    (hcur : ∀ j, j < n → cur[j]? = some (.float .f64 0)) : FL rb A R w.heap.size n key F T 0 ((w.alloc (.cells cur.toArray 22)).alloc (.cells #[.slice (some ⟨w.heap.size, 0, none⟩) n n] 23)) := by
  have hs : (w.alloc (.cells cur.toArray 22)).heap.size = w.heap.size + 1 := by simp
  have hb : Below w.heap.size w ((w.alloc (.cells cur.toArray 22)).alloc (.cells #[.slice (some ⟨w.heap.size, 0, none⟩) n n] 23)) := ((Below.refl _ _).alloc (Nat.le_refl _) _).alloc (by simp) _
  refine ⟨by simpa using hR.later hb, ?_, fun j hj => by omega, fun j _ hj => ?_, fun j hj => ?_, hA.later hb, hr.later hb⟩
  · rw [World.cell?_alloc_at _ _ _ _ hs.symm]; rfl
  · rw [World.cell?_alloc_past _ _ _ (by rw [hs]; show w.heap.size < _; omega), World.cell?_alloc_at _ _ _ _ rfl]; simpa using hcur j hj
  · rw [World.frozen?_alloc_past _ _ _ (by rw [hs]; show w.heap.size < _; omega), World.frozen?_alloc_at _ _ _ _ rfl]
theorem FL.drew {rb A R M n key : Nat} {F : Nat → Nat} {T : List UInt8} {k : Nat} {w : World} (h : FL rb A R M n key F T k w) : FL rb A R M n key F T k w.drew :=
  ⟨h.rs.drew, h.row, h.done, h.todo, h.free, ⟨h.a.c0, h.a.c1, h.a.c2, h.a.c3, h.a.f⟩, ⟨h.r.c0, h.r.c1, h.r.c2, h.r.c3, h.r.f⟩⟩
theorem FL.step {rb A R M n key : Nat} {F : Nat → Nat} {T : List UInt8} {k : Nat} {w w' : World} (h : FL rb A R M n key F T k w) (hk : k < n) (hM : M ≠ rb) (hM1 : M + 1 ≠ rb) (hAn : A ≠ rb) (hRn : R ≠ rb) (hAM : A < M) (hRM : R < M)
    (hr : RS rb (fFrom F (k + 1) (n - (k + 1)) ++ T) w') (hkp : Kept rb w.heap.size w w') : FL rb A R M n key F T (k + 1) (w'.setCell ⟨M, k, none⟩ (.float .f64 (F k))) := by
  have hMl := lt_of_cell (h.todo k (Nat.le_refl _) hk)
  have hMl1 := lt_of_cell h.row
  have hold := (hkp.cell (o := k) hMl hM).trans (h.todo k (Nat.le_refl _) hk)
  refine ⟨hr.set hM hold (by simp) _, ?_, fun j hj => ?_, fun j h1 h2 => ?_, fun j hj => ?_, (h.a.kept hkp hAn h.a.lt).other (by omega) _, (h.r.kept hkp hRn h.r.lt).other (by omega) _⟩
  · rw [cell_other (by show M ≠ M + 1; omega)]; exact (hkp.cell hMl1 hM1).trans h.row
  · by_cases e : j = k
    · subst e; exact World.cell?_setCell_same _ _ _ hold
    · rw [World.cell?_setCell_other _ _ _ _ (by intro x; injection x; omega)]; exact (hkp.cell hMl hM).trans (h.done j (by omega))
  · rw [World.cell?_setCell_other _ _ _ _ (by intro x; injection x; omega)]; exact (hkp.cell hMl hM).trans (h.todo j (by omega) h2)
  · have := (hkp.frozen (o := j) hMl hM).trans (h.free j hj); simpa using this

/-- What readRecord says. -/
def ReadSays (rb key : Nat) (seq : Int) (line : ByteArray) (n : Nat) (F : Nat → Nat) (L : List UInt8) (w : World) (e : Ending) (w' : World) : Prop :=
  ∃ p, e = .returned (.agg #[.float .f64 key, .int .i64 seq, .string line, .pointer p]) ∧ RestIs w.heap.size w' p n F ∧ RS rb L w' ∧ Kept rb w.heap.size w w'

set_option maxHeartbeats 2000000 in
set_option maxRecDepth 100000 in
theorem read17 (rb key : Nat) (seq : Int) (line : ByteArray) (n : Nat) (F : Nat → Nat) (L : List UInt8) (w : World) (h : RS rb (recBytes key seq line n F ++ L) w) (hlen : (recBytes key seq line n F ++ L).length ≤ 8000000)
    (hkey : key < 18446744073709551616) (hF : FOk n F) (h0 : -9223372036854775808 ≤ seq) (h1 : seq ≤ 9223372036854775807) (hn : n ≤ 131072) (hl : line.size ≤ 1048576) :
    Calls Tryf.prog 17 #[.pointer (some ⟨rb, 0, none⟩)] w (ReadSays rb key seq line n F L w) := by
  obtain ⟨T1, HT1⟩ : ∃ T1, Hid (T1 = Lib.uvarint line.size ++ (line.data.toList ++ L)) := ⟨_, rfl⟩
  obtain ⟨T2, HT2⟩ : ∃ T2, Hid (T2 = Lib.uvarint (Lib.zigzag seq) ++ T1) := ⟨_, rfl⟩
  have e1 : recBytes key seq line n F ++ L = Lib.beBytes 8 key ++ (Lib.uvarint n ++ (fFrom F 0 n ++ T2)) := by
    rw [HT2.out, HT1.out]; simp [recBytes]
  rw [e1] at h hlen
  have l1 : (Lib.uvarint n ++ (fFrom F 0 n ++ T2)).length ≤ 8000000 := by rw [List.length_append] at hlen; omega
  have l2 : (fFrom F 0 n ++ T2).length ≤ 8000000 := by rw [List.length_append] at l1; omega
  have l3 : T2.length ≤ 8000000 := by rw [List.length_append] at l2; omega
  have l4 : T1.length ≤ 8000000 := by rw [HT2.out, List.length_append] at l3; omega
  have HL1 : Hid ((Lib.uvarint n ++ (fFrom F 0 n ++ T2)).length ≤ 8000000) := l1
  have HL2 : Hid ((fFrom F 0 n ++ T2).length ≤ 8000000) := l2
  have HL3 : Hid (T2.length ≤ 8000000) := l3
  have HL4 : Hid (T1.length ≤ 8000000) := l4
  have hrb : rb < w.heap.size := lt_of_cell h.err
  clear e1 l1 l2 l3 l4
  have hb0 : Below w.heap.size w (w.alloc (.cells #[.float .f64 0, .int .i64 0, .string ⟨#[]⟩, .pointer none] 32)) := (Below.refl _ _).alloc (Nat.le_refl _) _
  have hA := RecAt.new (w := w) (.float .f64 0) (.int .i64 0) (.string ⟨#[]⟩) (.pointer none)
  have hP := r_float rb key _ _ hkey (h.later hb0) hlen
  clear h hlen
  go_enter Tryf.func17, Tryf.ntmps17
  go_wp2_with fail
  generalize (w.alloc (.cells #[.float .f64 0, .int .i64 0, .string ⟨#[]⟩, .pointer none] 32)) = w0 at hb0 hA hP ⊢
  refine hP.mono ?_
  rintro e w1 ⟨rfl, hR, hk⟩
  have hA1 := hA.kept hk (by omega) hA.lt
  have hK1 : Kept rb w.heap.size w w1 := (Kept.ofBelow hb0).trans (hk.mono hb0.size)
  clear hP hA hk hb0 w0
  go_wp2_with fail
  have hb2 : Below w1.heap.size w1 (w1.alloc (.cells #[.float .f64 key, .int .i64 0, .string ⟨#[]⟩, .pointer none] 32)) := (Below.refl _ _).alloc (Nat.le_refl _) _
  have hRr := RecAt.new (w := w1) (.float .f64 key) (.int .i64 0) (.string ⟨#[]⟩) (.pointer none)
  have hP := r_count rb n _ _ hn (by rw [List.length_append, fFrom_length]; omega) (hR.later hb2) HL1.out
  have hA2 := hA1.later hb2
  have hK2 := hK1.below hb2 hK1.size
  have hsz1 := hK1.size
  have hAlt := hA1.lt
  clear hR hA1 hK1
  generalize (w1.alloc (.cells #[.float .f64 key, .int .i64 0, .string ⟨#[]⟩, .pointer none] 32)) = w2 at hb2 hRr hP hA2 hK2 ⊢
  refine hP.mono ?_
  rintro e w3 ⟨rfl, hR, hk⟩
  have hA3 := hA2.kept hk (by omega) hA2.lt
  have hR3 := hRr.kept hk (by omega) hRr.lt
  have hK3 := hK2.trans (hk.mono hK2.size)
  obtain ⟨R, hRe⟩ : ∃ R, w1.heap.size = R := ⟨_, rfl⟩
  rw [hRe] at hR3 hAlt hsz1 ⊢
  clear hP hA2 hRr hK2 hk hb2 w2 hRe w1
  by_cases hn0 : n = 0
  · subst hn0
    have hR : RS rb T2 w3 := by simpa [fFrom] using hR
    have hrest : RestIs (R + 1) w3 none 0 F := .inl ⟨rfl, rfl⟩
    go_wp2_with fail
    refine (r_int rb seq T1 w3 h0 h1 (HT2.out ▸ hR) (HT2.out ▸ HL3.out)).mono ?_
    rintro e w4 ⟨rfl, hR4, hk4⟩
    have hA4 := hA3.kept hk4 (by omega) hA3.lt
    have hRr4 := hR3.kept hk4 (by omega) hR3.lt
    have hK4 := hK3.trans (hk4.mono hK3.size)
    have hrest4 := hrest.kept (by omega) hk4 (Nat.le_refl _)
    have hRlt4 := hRr4.lt
    have c1 := hRr4.c1
    have f1 := hRr4.f 1 (by omega)
    clear hR hA3 hR3 hK3 hrest hk4
    go_wp2_with fail
    have hR5 := hR4.set (b := R) (by omega) hRr4.c1 (by simp) (.int .i64 seq)
    have hA5 := hA4.other (x := R) (j := 1) (by omega) (.int .i64 seq)
    have hRr5 := hRr4.set1 (.int .i64 seq)
    have hK5 := hK4.setCell (p := ⟨R, 1, none⟩) (.inr (by show w.heap.size ≤ R; omega)) (.int .i64 seq)
    have hrest5 := hrest4.set (x := ⟨R, 1, none⟩) (by show R < R + 1; omega) (.int .i64 seq)
    clear c1 f1 hR4 hA4 hRr4 hK4 hrest4
    generalize w4.setCell ⟨R, 1, none⟩ (.int .i64 seq) = w5 at hR5 hA5 hRr5 hK5 hrest5 ⊢
    refine (r_text rb line L w5 hl (HT1.out ▸ hR5) (HT1.out ▸ HL4.out)).mono ?_
    rintro e w6 ⟨rfl, hR6, hk6⟩
    have hA6 := hA5.kept hk6 (by omega) hA5.lt
    have hRr6 := hRr5.kept hk6 (by omega) hRr5.lt
    have hK6 := hK5.trans (hk6.mono hK5.size)
    have hrest6 := hrest5.kept (by omega) hk6 (Nat.le_refl _)
    have hRlt6 := hRr6.lt
    clear hR5 hA5 hRr5 hK5 hrest5 hk6
    obtain ⟨a0, a1, a2, a3, af⟩ := hA6
    obtain ⟨b0, b1, b2, b3, bf⟩ := hRr6
    have af0 := af 0 (by omega)
    have af1 := af 1 (by omega)
    have af2 := af 2 (by omega)
    have af3 := af 3 (by omega)
    have bf2 := bf 2 (by omega)
    have hAR : ¬ R = w.heap.size := by omega
    have hRA : ¬ w.heap.size = R := by omega
    clear af bf
    go_wp2_with fail
    refine bodyPost_ret (v := .agg #[.float .f64 key, .int .i64 seq, .string line, .pointer none]) (by simp [results, Tryf.results17, go_sem, a0, a1, a2, a3]) rfl ⟨none, rfl, ?_, ?_, ?_⟩
    · exact (((((hrest6.set (by show R < R + 1; omega) _).set (by show w.heap.size < R + 1; omega) _).set (by show w.heap.size < R + 1; omega) _).set (by show w.heap.size < R + 1; omega) _).set (by show w.heap.size < R + 1; omega) _).mono (by omega)
    · exact (hR6.set (by omega) b2 (by simp) _).fill (RecAt.other ⟨a0, a1, a2, a3, fun j hj => by match j, hj with
        | 0, _ => exact af0
        | 1, _ => exact af1
        | 2, _ => exact af2
        | 3, _ => exact af3⟩ (by omega) _) (by omega) _ _ _ _
    · exact ((((hK6.setCell (.inr (by show w.heap.size ≤ R; omega)) _).setCell (.inr (Nat.le_refl _)) _).setCell (.inr (Nat.le_refl _)) _).setCell (.inr (Nat.le_refl _)) _).setCell (.inr (Nat.le_refl _)) _
  · obtain ⟨cur, hcl, hcur, hmk⟩ := make_floats n (by omega)
    have HC : Hid (∀ j, j < n → cur[j]? = some (.float .f64 0)) := hcur
    have hRlt3 := hR3.lt
    have hpos : 0 < n := by omega
    clear hcl hcur hn0
    go_wp2_with fail
    have hFL := FL.start (cur := cur) hR hA3 hR3 HC.out
    have hK4 : Kept rb w.heap.size w ((w3.alloc (.cells cur.toArray 22)).alloc (.cells #[.slice (some ⟨w3.heap.size, 0, none⟩) n n] 23)) := (hK3.alloc hK3.size _).alloc (Nat.le_trans hK3.size (by simp)) _
    obtain ⟨M, hM⟩ : ∃ M, w3.heap.size = M := ⟨_, rfl⟩
    have hsz3 := hK3.size
    rw [hM] at hFL hK4 hRlt3 hsz3 ⊢
    clear hR hA3 hR3 hK3 hmk HC hM
    generalize ((w3.alloc (.cells cur.toArray 22)).alloc (.cells #[.slice (some ⟨M, 0, none⟩) n n] 23)) = w4 at hFL hK4 ⊢
    go_loopw [18] (fun i wr => ∃ k : Nat, k ≤ n ∧ i = .int .i64 k ∧ FL rb w.heap.size R M n key F T2 k wr ∧ Kept rb w.heap.size w wr) (fun i _ => n - (intOf i).toNat)
    case atStart => exact ⟨0, Nat.zero_le _, rfl, hFL, hK4⟩
    case round =>
      clear hFL hK4
      obtain ⟨k, hk, rfl, hFL, hK⟩ := hrel
      by_cases hlt : k < n
      · have HFL : Hid (FL rb w.heap.size R M n key F T2 k wr) := hFL
        have hP := r_float rb (F k) (fFrom F (k + 1) (n - (k + 1)) ++ T2) wr.drew (hF k hlt) (by
          have := HFL.out.rs.drew
          rw [show n - k = n - (k + 1) + 1 from by omega, fFrom, List.append_assoc] at this
          exact this) (by
          have := HL2.out
          simp only [List.length_append, fFrom_length, Lib.beBytes_length] at this ⊢
          omega)
        have g1 := hFL.row
        have g2 := hFL.todo k (Nat.le_refl _) hlt
        have g3 := hFL.free k hlt
        have gl1 := lt_of_cell g1
        have gl2 := lt_of_cell g2
        clear hFL
        go_wp2_with fail
        go_region_with (go_at_call 26; refine hP.mono ?_; rintro e w5 ⟨rfl, hR5, hk5⟩; have d1 := (hk5.cell (o := 0) gl1 (by omega)).trans g1; have d2 := (hk5.cell (o := k) gl2 (by omega)).trans g2; have d3 := (hk5.frozen (o := k) gl2 (by omega)).trans g3)
        all_goals
          go_wp2_with fail
          exact ⟨⟨k + 1, by omega, by go_num, HFL.out.drew.step hlt (by omega) (by omega) (by omega) (by omega) (by omega) (by omega) hR5 hk5, ((hK.drew).trans (hk5.mono hK.size)).setCell (.inr (by show w.heap.size ≤ M; omega)) _⟩, by simp [intOf]; omega⟩
      · have hkn : k = n := by omega
        subst hkn
        have hA3' := hFL.a
        have hR3' := hFL.r
        have hR' := hFL.rs
        simp only [Nat.sub_self, fFrom, List.nil_append] at hR'
        have b3 := hR3'.c3
        have bf3 := hR3'.f 3 (by omega)
        have HFL : Hid (FL rb w.heap.size R M k key F T2 k wr) := hFL
        clear hFL
        go_wp2_with fail
        have hR := hR'.set (b := R) (by omega) b3 (by simp) (.pointer (some ⟨M + 1, 0, none⟩))
        have hA3 := hA3'.other (x := R) (j := 3) (by omega) (.pointer (some ⟨M + 1, 0, none⟩))
        have hR3 := hR3'.set3 (.pointer (some ⟨M + 1, 0, none⟩))
        have hK3 := hK.setCell (p := ⟨R, 3, none⟩) (.inr (by show w.heap.size ≤ R; omega)) (.pointer (some ⟨M + 1, 0, none⟩))
        have hrest' : RestIs (R + 1) wr (some ⟨M + 1, 0, none⟩) k F := .inr ⟨M + 1, _, _, rfl, by omega, HFL.out.row, .inr ⟨M, 0, rfl, by omega, fun i hi => by simpa using HFL.out.done i hi⟩⟩
        have hrest := hrest'.set (x := ⟨R, 3, none⟩) (by show R < R + 1; omega) (.pointer (some ⟨M + 1, 0, none⟩))
        clear hA3' hR3' hR' b3 bf3 HFL hrest' hK
        generalize wr.setCell ⟨R, 3, none⟩ (.pointer (some ⟨M + 1, 0, none⟩)) = wX at hR hA3 hR3 hK3 hrest ⊢
        refine (r_int rb seq T1 wX h0 h1 (HT2.out ▸ hR) (HT2.out ▸ HL3.out)).mono ?_
        rintro e w4 ⟨rfl, hR4, hk4⟩
        have hA4 := hA3.kept hk4 (by omega) hA3.lt
        have hRr4 := hR3.kept hk4 (by omega) hR3.lt
        have hK4 := hK3.trans (hk4.mono hK3.size)
        have hrest4 := hrest.kept (by omega) hk4 (Nat.le_refl _)
        have hRlt4 := hRr4.lt
        have c1 := hRr4.c1
        have f1 := hRr4.f 1 (by omega)
        clear hR hA3 hR3 hK3 hrest hk4
        go_wp2_with fail
        have hR5 := hR4.set (b := R) (by omega) hRr4.c1 (by simp) (.int .i64 seq)
        have hA5 := hA4.other (x := R) (j := 1) (by omega) (.int .i64 seq)
        have hRr5 := hRr4.set1 (.int .i64 seq)
        have hK5 := hK4.setCell (p := ⟨R, 1, none⟩) (.inr (by show w.heap.size ≤ R; omega)) (.int .i64 seq)
        have hrest5 := hrest4.set (x := ⟨R, 1, none⟩) (by show R < R + 1; omega) (.int .i64 seq)
        clear c1 f1 hR4 hA4 hRr4 hK4 hrest4
        generalize w4.setCell ⟨R, 1, none⟩ (.int .i64 seq) = w5 at hR5 hA5 hRr5 hK5 hrest5 ⊢
        refine (r_text rb line L w5 hl (HT1.out ▸ hR5) (HT1.out ▸ HL4.out)).mono ?_
        rintro e w6 ⟨rfl, hR6, hk6⟩
        have hA6 := hA5.kept hk6 (by omega) hA5.lt
        have hRr6 := hRr5.kept hk6 (by omega) hRr5.lt
        have hK6 := hK5.trans (hk6.mono hK5.size)
        have hrest6 := hrest5.kept (by omega) hk6 (Nat.le_refl _)
        have hRlt6 := hRr6.lt
        clear hR5 hA5 hRr5 hK5 hrest5 hk6
        obtain ⟨a0, a1, a2, a3, af⟩ := hA6
        obtain ⟨b0, b1, b2, b3, bf⟩ := hRr6
        have af0 := af 0 (by omega)
        have af1 := af 1 (by omega)
        have af2 := af 2 (by omega)
        have af3 := af 3 (by omega)
        have bf2 := bf 2 (by omega)
        have hAR : ¬ R = w.heap.size := by omega
        have hRA : ¬ w.heap.size = R := by omega
        clear af bf
        go_wp2_with fail
        refine bodyPost_ret (v := .agg #[.float .f64 key, .int .i64 seq, .string line, .pointer (some ⟨M + 1, 0, none⟩)]) (by simp [results, Tryf.results17, go_sem, a0, a1, a2, a3]) rfl ⟨(some ⟨M + 1, 0, none⟩), rfl, ?_, ?_, ?_⟩
        · exact (((((hrest6.set (by show R < R + 1; omega) _).set (by show w.heap.size < R + 1; omega) _).set (by show w.heap.size < R + 1; omega) _).set (by show w.heap.size < R + 1; omega) _).set (by show w.heap.size < R + 1; omega) _).mono (by omega)
        · exact (hR6.set (by omega) b2 (by simp) _).fill (RecAt.other ⟨a0, a1, a2, a3, fun j hj => by match j, hj with
            | 0, _ => exact af0
            | 1, _ => exact af1
            | 2, _ => exact af2
            | 3, _ => exact af3⟩ (by omega) _) (by omega) _ _ _ _
        · exact ((((hK6.setCell (.inr (by show w.heap.size ≤ R; omega)) _).setCell (.inr (Nat.le_refl _)) _).setCell (.inr (Nat.le_refl _)) _).setCell (.inr (Nat.le_refl _)) _).setCell (.inr (Nat.le_refl _)) _

set_option maxHeartbeats 1000000 in
theorem read8 (rb key : Nat) (seq : Int) (line : ByteArray) (n : Nat) (F : Nat → Nat) (L : List UInt8) (w : World) (h : RS rb (recBytes key seq line n F ++ L) w) (hlen : (recBytes key seq line n F ++ L).length ≤ 8000000)
    (hkey : key < 18446744073709551616) (hF : FOk n F) (h0 : -9223372036854775808 ≤ seq) (h1 : seq ≤ 9223372036854775807) (hn : n ≤ 131072) (hl : line.size ≤ 1048576) :
    Calls Tryf.prog 8 #[.pointer (some ⟨rb, 0, none⟩)] w (ReadSays rb key seq line n F L w) := by
  have hrb : rb < w.heap.size := lt_of_cell h.err
  have hb0 : Below w.heap.size w (w.alloc (.cells #[.float .f64 0, .int .i64 0, .string ⟨#[]⟩, .pointer none] 32)) := (Below.refl _ _).alloc (Nat.le_refl _) _
  have hA := RecAt.new (w := w) (.float .f64 0) (.int .i64 0) (.string ⟨#[]⟩) (.pointer none)
  have hP := read17 rb key seq line n F L _ (h.later hb0) hlen hkey hF h0 h1 hn hl
  clear h hlen
  go_enter Tryf.func8, Tryf.ntmps8
  go_wp2_with fail
  generalize (w.alloc (.cells #[.float .f64 0, .int .i64 0, .string ⟨#[]⟩, .pointer none] 32)) = w0 at hb0 hA hP ⊢
  refine hP.mono ?_
  rintro e w1 ⟨p, rfl, hrest, hR, hk⟩
  have hAl := hA.lt
  have hA1 := hA.kept hk (by omega) hA.lt
  have hK1 : Kept rb w.heap.size w w1 := (Kept.ofBelow hb0).trans (hk.mono hb0.size)
  clear hP hA hk
  have a0 := hA1.c0
  have a1 := hA1.c1
  have a2 := hA1.c2
  have a3 := hA1.c3
  have af0 := hA1.f 0 (by omega)
  have af1 := hA1.f 1 (by omega)
  have af2 := hA1.f 2 (by omega)
  have af3 := hA1.f 3 (by omega)
  have HA : Hid (RecAt w.heap.size (.float .f64 0) (.int .i64 0) (.string ⟨#[]⟩) (.pointer none) w1) := hA1
  clear hA1
  go_wp2_with fail
  refine bodyPost_ret (v := .agg #[.float .f64 key, .int .i64 seq, .string line, .pointer p]) (by simp [results, Tryf.results8, go_sem, a0, a1, a2, a3]) rfl ⟨p, rfl, ?_, ?_, ?_⟩
  · exact ((((hrest.set hAl _).set hAl _).set hAl _).set hAl _).mono (by omega)
  · exact hR.fill HA.out (by omega) _ _ _ _
  · exact (((hK1.setCell (.inr (Nat.le_refl _)) _).setCell (.inr (Nat.le_refl _)) _).setCell (.inr (Nat.le_refl _)) _).setCell (.inr (Nat.le_refl _)) _

theorem NS.new {q : Nat} {L : List UInt8} {w : World} {g o c : Nat} (hq : w.cell? ⟨q, 0, none⟩ = some (.slice (some ⟨g, o, none⟩) L.length c)) (hlc : L.length ≤ c) (hB : BytesAt w g o L) (hL : 0 < L.length) (t : TypeId) :
    NS w.heap.size q L (w.alloc (.cells #[.slice none 0 0, .slice (some ⟨q, 0, none⟩) 1 1, .int .i64 (L.length : Int), .nilIface] t)) := by
  have hql := lt_of_cell hq
  have hgl := lt_of_cell (hB 0 hL)
  have c : ∀ j, (w.alloc (.cells #[.slice none 0 0, .slice (some ⟨q, 0, none⟩) 1 1, .int .i64 (L.length : Int), .nilIface] t)).cell? ⟨w.heap.size, j, none⟩ = (#[.slice none 0 0, .slice (some ⟨q, 0, none⟩) 1 1, .int .i64 (L.length : Int), .nilIface] : Array Value)[j]? := fun j => by rw [World.cell?_alloc_at _ _ _ _ rfl]
  refine ⟨c 0, c 1, c 2, c 3, fun j _ => ?_, by omega, g, o, _, ?_, hlc, by omega, fun j hj => ?_⟩
  · rw [World.frozen?_alloc_at _ _ _ _ rfl]
  · rw [World.cell?_alloc_past _ _ _ hql]; exact hq
  · rw [World.cell?_alloc_past _ _ _ hgl]; exact hB j hj

set_option maxHeartbeats 1000000 in
set_option maxRecDepth 100000 in
theorem new7 (q : Nat) (L : List UInt8) (w : World) (g o c : Nat) (hq : w.cell? ⟨q, 0, none⟩ = some (.slice (some ⟨g, o, none⟩) L.length c)) (hlc : L.length ≤ c) (hB : BytesAt w g o L) (hL : 0 < L.length) (hlen : L.length ≤ 8000000) :
    Calls Tryf.prog 7 #[.slice (some ⟨q, 0, none⟩) 1 1] w fun e w' => ∃ rb, e = .returned (.pointer (some ⟨rb, 0, none⟩)) ∧ RS rb L w' ∧ w.heap.size ≤ rb ∧ Below w.heap.size w w' := by
  have hql := lt_of_cell hq
  have HB : Hid (BytesAt w g o L) := hB
  obtain ⟨len, hle⟩ : ∃ len, L.length = len := ⟨_, rfl⟩
  have HQ : Hid (w.cell? ⟨q, 0, none⟩ = some (.slice (some ⟨g, o, none⟩) L.length c)) := hq
  have HLC : Hid (L.length ≤ c) := hlc
  have HLN : Hid (L.length ≤ 8000000) := hlen
  have HL0 : Hid (0 < L.length) := hL
  have HLE : Hid (L.length = len) := hle
  rw [hle] at hq hlc hlen hL
  clear hB hle
  go_enter Tryf.func7, Tryf.ntmps7
  go_wp2_with fail
  go_loopw [11] (fun i wr => (i = .int .i64 0 ∧ wr = w.alloc (.cells #[.slice none 0 0, .slice (some ⟨q, 0, none⟩) 1 1, .int .i64 0, .nilIface] 49)) ∨ (i = .int .i64 1 ∧ NS w.heap.size q L wr ∧ Below w.heap.size w wr)) (fun i _ => 1 - (intOf i).toNat)
  case atStart => exact .inl ⟨rfl, rfl⟩
  case round =>
    rcases hrel with ⟨rfl, rfl⟩ | ⟨rfl, hN, hb⟩
    · have hne : ¬ w.heap.size = q := by omega
      go_wp2_with fail
      refine ⟨.inr ⟨rfl, ?_, (Below.refl _ _).alloc (Nat.le_refl _) _⟩, by simp [intOf]⟩
      rw [← HLE.out]
      exact NS.new HQ.out HLC.out HB.out HL0.out 49
    · go_wp2_with fail
      refine (skip16_new w.heap.size q L wr hN HL0.out HLN.out).mono ?_
      rintro e w2 ⟨rfl, hR, hk⟩
      go_wp2_with fail
      go_ret
      exact ⟨_, rfl, hR, Nat.le_refl _, hb.trans ((hk _).toBelow (Nat.le_refl _))⟩
end Go.Proofs.Qxb6613954aFmt
