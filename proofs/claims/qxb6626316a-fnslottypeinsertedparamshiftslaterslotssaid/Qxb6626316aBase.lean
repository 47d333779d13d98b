import Derived.Test.Qxb6626316aRows
import Derived.WalkKit
import Derived.WalkSpells
import Derived.WalkLawsBesides
import Derived.Deep.QuietTactic
import Derived.BigQuiet
namespace Go.Proofs.Qxb6626316a
open Go.RowKit

/-- a slice value, nil or not, and its elements -/
def Row (w : World) (v : Value) (xs : List Value) : Prop :=
  (v = .slice none 0 0 ∧ xs = []) ∨
  ∃ a c, v = .slice (some a) xs.length c ∧ ∀ j (h : j < xs.length), w.cell? (a.add j) = some xs[j]

theorem Row.form {w : World} {v : Value} {xs : List Value} (h : Row w v xs) : ∃ ao c, v = .slice ao xs.length c := by
  rcases h with ⟨rfl, rfl⟩ | ⟨a, c, rfl, _⟩
  · exact ⟨none, 0, rfl⟩
  · exact ⟨some a, c, rfl⟩

/-- where there is an element the slice leads to plain memory -/
theorem Row.at {w : World} {ao : Option Addr} {n c : Nat} {xs : List Value} (h : Row w (.slice ao n c) xs) (hp : 0 < xs.length) :
    ∃ b off, ao = some ⟨b, off, none⟩ ∧ b < w.heap.size ∧ ∀ j (h : j < xs.length), w.cell? ⟨b, off + j, none⟩ = some xs[j] := by
  rcases h with ⟨_, rfl⟩ | ⟨a, c, hv, hc⟩
  · simp at hp
  · obtain ⟨b, off, spot⟩ := a
    have hspot : spot = none := by simpa [Addr.add] using World.cell?_spot (hc 0 hp)
    subst hspot
    simp only [Value.slice.injEq] at hv
    obtain ⟨rfl, rfl, rfl⟩ := hv
    refine ⟨b, off, rfl, ?_, fun j hj => by rw [← Go.WideShapes.add_plain]; exact hc j hj⟩
    exact World.block_lt_of_cell? _ _ (hc 0 hp)

theorem Row.len {w : World} {ao : Option Addr} {n c : Nat} {xs : List Value} (h : Row w (.slice ao n c) xs) : n = xs.length := by
  rcases h with ⟨hv, rfl⟩ | ⟨a, c, hv, hc⟩
  · simp only [Value.slice.injEq] at hv; exact hv.2.1
  · simp only [Value.slice.injEq] at hv; exact hv.2.1

theorem Row.later {w w' : World} {v : Value} {xs : List Value} (h : Row w v xs) (hb : Below w.heap.size w w') : Row w' v xs := by
  rcases h with h | ⟨a, c, hv, hc⟩
  · exact Or.inl h
  · exact Or.inr ⟨a, c, hv, fun j hj => cell_later hb (hc j hj)⟩

/-- a new row of n cells, whose first k are copied from xs -/
def filled (xs : List Value) (z : Value) (n k : Nat) : Array Value := (xs.take k ++ List.replicate (n - k) z).toArray

theorem filled_zero (xs : List Value) (z : Value) (n : Nat) : madeCells #[z] n = filled xs z n 0 := by
  apply Array.toList_inj.mp
  rw [toList_madeCells_one]
  simp [filled]

theorem filled_size (xs : List Value) (z : Value) (n k : Nat) (h : k ≤ xs.length) (h2 : k ≤ n) : (filled xs z n k).size = n := by
  simp [filled, Nat.min_eq_left h]; omega

theorem filled_set (xs : List Value) (z : Value) (n k : Nat) (h : k < xs.length) (h2 : k < n) : (filled xs z n k).setIfInBounds k xs[k] = filled xs z n (k + 1) := by
  apply Array.toList_inj.mp
  unfold filled
  rw [Array.toList_setIfInBounds]
  apply List.ext_getElem
  · simp; omega
  · intro i h1 h3
    simp only [List.getElem_set, List.getElem_append, List.length_take, List.getElem_take, List.getElem_replicate]
    by_cases hi : k = i
    · subst hi; rw [if_pos rfl, dif_pos (by omega)]
    · rw [if_neg hi]
      by_cases h4 : i < k
      · rw [dif_pos (by omega), dif_pos (by omega)]
      · rw [dif_neg (by omega), dif_neg (by omega)]

theorem filled_at (xs : List Value) (z : Value) (n k : Nat) (h : k ≤ xs.length) (h2 : k < n) : (filled xs z n k)[k]? = some z := by
  unfold filled
  rw [List.getElem?_toArray, List.getElem?_append_right (by simp; omega)]
  rw [List.getElem?_replicate, if_pos (by simp only [List.length_take]; omega)]

theorem filled_full (xs : List Value) (z : Value) : filled xs z xs.length xs.length = xs.toArray := by
  simp [filled]

theorem row_new (w : World) (xs : List Value) (t : TypeId) : Row (w.alloc (.cells xs.toArray t)) (.slice (some ⟨w.heap.size, 0, none⟩) xs.length xs.length) xs :=
  Or.inr ⟨_, _, rfl, fun j hj => by
    rw [Go.WideShapes.add_plain, World.cell?_alloc_at _ _ _ _ rfl]
    simp [hj]⟩

theorem Try.info29 : (Try.prog.info? 29).map (fun i => (i.zero, i.size, i.bytes)) = some (some (.int .u32 0), 1, 4) := by kernel_rfl
theorem Try.info9 : (Try.prog.info? 9).map (fun i => (i.zero, i.size, i.bytes)) = some (some (.string ByteArray.empty), 1, 16) := by kernel_rfl
theorem Try.info5 : (Try.prog.info? 5).map (fun i => (i.zero, i.size, i.bytes)) = some (some (.int .u8 0), 1, 1) := by kernel_rfl

theorem make28 (w : World) (xs : List Value) (n : Nat) (h : n ≤ 1000000000) : (Instr.makeSlice 28 (.int .i64 (n : Int)) (.int .i64 (n : Int))).run Try.prog w = .ok (.slice (some ⟨w.heap.size, 0, none⟩) n n) (w.alloc (.cells (filled xs (.int .u32 0) n 0) 29)) := by
  obtain ⟨i0, hi, hz0, hz1, hz2⟩ := info_parts Try.info29
  rw [run_make (P := Try.prog) w 28 29 i0 (.int .u32 0) Try.underlying28 hi hz0 .i64 .i64 n n (by omega) (by omega) (by rw [hz2]; omega) (by omega), hz1, ← filled_zero]
  simp [Value.cells]
theorem make23 (w : World) (xs : List Value) (n : Nat) (h : n ≤ 1000000000) : (Instr.makeSlice 23 (.int .i64 (n : Int)) (.int .i64 (n : Int))).run Try.prog w = .ok (.slice (some ⟨w.heap.size, 0, none⟩) n n) (w.alloc (.cells (filled xs (.string ByteArray.empty) n 0) 9)) := by
  obtain ⟨i0, hi, hz0, hz1, hz2⟩ := info_parts Try.info9
  rw [run_make (P := Try.prog) w 23 9 i0 (.string ByteArray.empty) Try.underlying23 hi hz0 .i64 .i64 n n (by omega) (by omega) (by rw [hz2]; omega) (by omega), hz1, ← filled_zero]
  simp [Value.cells]
theorem make25 (w : World) (xs : List Value) (n : Nat) (h : n ≤ 1000000000) : (Instr.makeSlice 25 (.int .i64 (n : Int)) (.int .i64 (n : Int))).run Try.prog w = .ok (.slice (some ⟨w.heap.size, 0, none⟩) n n) (w.alloc (.cells (filled xs (.int .u8 0) n 0) 5)) := by
  obtain ⟨i0, hi, hz0, hz1, hz2⟩ := info_parts Try.info5
  rw [run_make (P := Try.prog) w 25 5 i0 (.int .u8 0) Try.underlying25 hi hz0 .i64 .i64 n n (by omega) (by omega) (by rw [hz2]; omega) (by omega), hz1, ← filled_zero]
  simp [Value.cells]

end Go.Proofs.Qxb6626316a
