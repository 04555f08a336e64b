/-
  Parts for 'FnGetPrependShadows': zzBytes_'s contract, a row that is filled, the plain law.
-/
import Derived.Test.Qxb6605724aCopy
namespace Go.Proofs.Qxb6605724a
open Go.RowKit

set_option maxHeartbeats 1000000 in
theorem bytes10 (a0 a1 : Option Addr) (n0 c0 n1 c1 : Nat) (s o : ByteArray) (v : Int) (S : Nat → ByteArray) (w : World) (h0 : StrRow w a0 n0 S)
    (hn0 : n0 ≤ 9223372036854775807) (hn1 : n1 ≤ 9223372036854775807) (hs : s.size ≤ 9223372036854775807) (ho : o.size ≤ 9223372036854775807) :
    Calls Try.prog 10 #[.slice a0 n0 c0, .slice a1 n1 c1, .string s, .string o, .int .i64 v] w fun e w' => SaysBool e ∧ w = w' := by
  rcases h0 with h0 | ⟨b, off, rfl, hc⟩
  · subst h0
    go_enter Try.func10, Try.ntmps10
    go_wp2
    go_loop [11, 12] (fun z i => i = .int .i64 (0 : Nat) ∧ z = .int .i64 0) (fun _ _ => 0)
    case atStart => exact ⟨rfl, rfl⟩
    case round =>
      obtain ⟨rfl, rfl⟩ := hrel
      go_wp2
      all_goals (go_ret; exact ⟨⟨_, rfl⟩, rfl⟩)
  · go_enter Try.func10, Try.ntmps10
    go_wp2
    · go_ret; exact ⟨⟨_, rfl⟩, rfl⟩
    · go_loop [11, 12] (fun z i => ∃ k : Nat, k ≤ n0 ∧ i = .int .i64 k ∧ ∃ t : Int, 0 ≤ t ∧ t ≤ 1048576 ∧ z = .int .i64 t) (fun _ i => n0 - (intOf i).toNat)
      case atStart => exact ⟨0, Nat.zero_le _, rfl, _, by omega, by omega, rfl⟩
      case round =>
        obtain ⟨k, hk, rfl, t, ht0, ht1, rfl⟩ := hrel
        by_cases hlt : k < n0
        · have hck := hc k hlt
          go_wp2
          · go_ret; exact ⟨⟨_, rfl⟩, rfl⟩
          · go_ret; exact ⟨⟨_, rfl⟩, rfl⟩
          · go_round
            case rel => exact ⟨k + 1, by omega, by go_num, _, by omega, by omega, rfl⟩
            case measure => simp [intOf]; omega
        · go_wp2
          all_goals (go_ret; exact ⟨⟨_, rfl⟩, rfl⟩)

/-- A function with one value laid in front. -/
def pre {α : Type} (x : α) (F : Nat → α) : Nat → α
  | 0 => x
  | i + 1 => F i

/-- A row of the call's own of which the first k cells are filled. -/
def Fill (F : Nat → Value) (n k g : Nat) (w : World) : Prop :=
  ∀ j, j < n → (j < k → w.cell? ⟨g, j, none⟩ = some (F j)) ∧ (∃ u, w.cell? ⟨g, j, none⟩ = some u) ∧ w.frozen? ⟨g, j, none⟩ = false

theorem Fill.next {F : Nat → Value} {n k g : Nat} {w : World} (h : Fill F n k g w) (hk : k < n) : Fill F n (k + 1) g (w.setCell ⟨g, k, none⟩ (F k)) := by
  intro j hj
  obtain ⟨h1, ⟨u, hu⟩, h3⟩ := h j hj
  by_cases e : j = k
  · subst e
    have := World.cell?_setCell_same w ⟨g, j, none⟩ (F j) hu
    exact ⟨fun _ => this, ⟨_, this⟩, by simpa using h3⟩
  · have ne : (⟨g, k, none⟩ : Addr) ≠ ⟨g, j, none⟩ := by intro c; injection c; omega
    rw [World.cell?_setCell_other w _ _ _ ne]
    exact ⟨fun hj' => h1 (by omega), ⟨u, hu⟩, by simpa using h3⟩
theorem Fill.other {F : Nat → Value} {n k g : Nat} {w w' : World} (h : Fill F n k g w) (hg : w'.heap[g]? = w.heap[g]?) : Fill F n k g w' := by
  intro j hj
  have e1 : w'.cell? ⟨g, j, none⟩ = w.cell? ⟨g, j, none⟩ := World.cell?_of_block (w := w) hg
  have e2 : w'.frozen? ⟨g, j, none⟩ = w.frozen? ⟨g, j, none⟩ := World.frozen?_of_block (w := w) hg
  rw [e1, e2]; exact h j hj
theorem Fill.start {F : Nat → Value} {n : Nat} {w : World} {C : Array Value} {e : TypeId} {z : Value} (hC : ∀ j, j < n → C[j]? = some z) : Fill F n 0 w.heap.size (w.alloc (.cells C e)) := by
  intro j hj
  have := hC j hj
  rw [World.cell?_alloc_at _ _ _ _ rfl, World.frozen?_alloc_at _ _ _ _ rfl]
  exact ⟨fun h => absurd h (Nat.not_lt_zero _), ⟨_, this⟩, rfl⟩
theorem Fill.start1 {F : Nat → Value} {n : Nat} {w : World} {C : Array Value} {e : TypeId} {z x : Value} (hC : ∀ j, j < n → C[j]? = some z) (hx : F 0 = x) : Fill F n 1 w.heap.size (w.alloc (.cells (C.setIfInBounds 0 x) e)) := by
  intro j hj
  have hj' := hC j hj
  rw [World.cell?_alloc_at _ _ _ _ rfl, World.frozen?_alloc_at _ _ _ _ rfl, Array.getElem?_setIfInBounds]
  by_cases e0 : 0 = j
  · subst e0
    have hs : 0 < C.size := by
      rcases Nat.lt_or_ge 0 C.size with h | h
      · exact h
      · rw [Array.getElem?_eq_none h] at hj'; cases hj'
    simp [hs, hx]
  · rw [if_neg e0]
    exact ⟨fun h => by omega, ⟨_, hj'⟩, rfl⟩
theorem Fill.strs {S : Nat → ByteArray} {n g : Nat} {w : World} (h : Fill (fun j => .string (S j)) n n g w) : StrRow w (some ⟨g, 0, none⟩) n S :=
  .inr ⟨g, 0, rfl, fun i hi => by simpa using (h i hi).1 hi⟩
theorem Fill.ints {Z : Nat → Int} {n g : Nat} {w : World} (h : Fill (fun j => .int .i64 (Z j)) n n g w) : IntRow w (some ⟨g, 0, none⟩) n Z :=
  .inr ⟨g, 0, rfl, fun i hi => by simpa using (h i hi).1 hi⟩

/-- 'make([]T, n)' of one-cell elements, the zero cells named. -/
theorem make_zero {t e : TypeId} {z : Value} {by_ : Nat} (hu : Try.prog.underlying t = some (.slice e)) (hinfo : (Try.prog.info? e).map (fun i => (i.zero, i.size, i.bytes)) = some (some z, 1, by_))
    (hz : z.cells = #[z]) (n : Nat) (hb : by_ * n ≤ 281474976710656) (hn : n ≤ 9223372036854775807) :
    ∃ C : Array Value, (∀ j, j < n → C[j]? = some z) ∧ ∀ w : World, (Instr.makeSlice t (.int .i64 (n : Int)) (.int .i64 (n : Int))).run Try.prog w = .ok (.slice (some ⟨w.heap.size, 0, none⟩) n n) (w.alloc (.cells C e)) := by
  obtain ⟨i0, hi, hz0, hz1, hz2⟩ := info_parts hinfo
  refine ⟨madeCells #[z] n, fun j hj => by simp [madeCells, hj, Nat.mod_one], fun w => ?_⟩
  have hb' : (i0.bytes : Int) * (n : Int) ≤ 281474976710656 := by
    rw [hz2]
    have h : ((by_ * n : Nat) : Int) ≤ 281474976710656 := by omega
    rwa [Int.natCast_mul] at h
  have := run_make (P := Try.prog) w t e i0 _ hu hi hz0 .i64 .i64 n n (by omega) (by omega) hb' (by omega)
  rw [hz1, hz] at this
  simpa using this

/-! ### The plain law -/
theorem IntSays.front {S : Nat → ByteArray} {Z : Nat → Int} {n0 n1 : Nat} {s : ByteArray} {v : Int} {e : Ending} (h : IntSays (pre s S) (pre v Z) (n0 + 1) (n1 + 1) s e) :
    e = .returned (.tuple #[.int .i64 v, .bool true, .bool true]) := by
  rcases h with ⟨i, _, _, hno, rfl⟩ | ⟨hno, _⟩
  · match i, hno with
    | 0, _ => simp [pre]
    | i + 1, hno => exact absurd rfl (hno 0 (by omega))
  · exact absurd rfl (hno 0 (by omega))
theorem IntSays.form {S : Nat → ByteArray} {Z : Nat → Int} {n0 n1 : Nat} {s : ByteArray} {e : Ending} (h : IntSays S Z n0 n1 s e) :
    ∃ g i f, e = .returned (.tuple #[.int .i64 g, .bool i, .bool f]) := by
  rcases h with ⟨i, _, _, _, rfl⟩ | ⟨_, rfl⟩ <;> exact ⟨_, _, _, rfl⟩
theorem IntSays.same {S : Nat → ByteArray} {Z : Nat → Int} {n0 n1 : Nat} {s o : ByteArray} {v : Int} {e e' : Ending} (ho : s ≠ o) (h : IntSays S Z n0 n1 o e) (h' : IntSays (pre s S) (pre v Z) (n0 + 1) (n1 + 1) o e') : e' = e := by
  rcases h with ⟨i, hi, hS, hno, rfl⟩ | ⟨hno, rfl⟩
  · rcases h' with ⟨j, hj, hS', hno', rfl⟩ | ⟨hno', _⟩
    · match j, hj, hS', hno' with
      | 0, _, hS', _ => exact absurd hS' ho
      | j + 1, hj, hS', hno' =>
        obtain rfl : i = j := by
          rcases Nat.lt_trichotomy i j with h | h | h
          · exact absurd hS (hno' (i + 1) (by omega))
          · exact h
          · exact absurd hS' (hno j h)
        simp [pre]
    · exact absurd hS (hno' (i + 1) (by omega))
  · rcases h' with ⟨j, hj, hS', hno', rfl⟩ | ⟨_, rfl⟩
    · match j, hj, hS' with
      | 0, _, hS' => exact absurd hS' ho
      | j + 1, hj, hS' => exact absurd hS' (hno j (by omega))
    · rfl

end Go.Proofs.Qxb6605724a
