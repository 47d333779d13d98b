import Derived.Test.Qxb6626374aRows
import Derived.Test.Qxb6626374aFlc
import Derived.WalkKit
import Derived.WalkSpells
import Derived.WalkLawsBesides
import Derived.Deep.QuietTactic
import Derived.Deep.MidRow
import Derived.BigQuiet
namespace Go.Proofs.Qxb6626374a
open Go.RowKit

/-- one command's five cells -/
structure Cmd where
  ix : Int
  ls : Int
  al : Int
  ms : Int
  bs : Int

def Cmd.cells (c : Cmd) : List Value := [.int .u64 c.ix, .int .i64 c.ls, .int .i64 c.al, .int .i64 c.ms, .int .i64 c.bs]

/-- a slice value and its commands -/
def RowC (w : World) (v : Value) (cs : List Cmd) : Prop :=
  ∃ ao c, v = .slice ao cs.length c ∧ ∀ j (h : j < cs.length), ∃ b off, ao = some ⟨b, off, none⟩ ∧ b < w.heap.size ∧ w.rangeAt b (off + j * 5) cs[j].cells

theorem range_later {w w' : World} {b o : Nat} {cs : List Value} (hb : Below w.heap.size w w') (h : w.rangeAt b o cs) : w'.rangeAt b o cs :=
  fun j v hv => cell_later hb (h j v hv)

theorem RowC.later {w w' : World} {v : Value} {cs : List Cmd} (h : RowC w v cs) (hb : Below w.heap.size w w') : RowC w' v cs := by
  obtain ⟨ao, c, rfl, hc⟩ := h
  refine ⟨ao, c, rfl, fun j hj => ?_⟩
  obtain ⟨b, off, e, hl, hr⟩ := hc j hj
  exact ⟨b, off, e, Nat.lt_of_lt_of_le hl hb.size, range_later hb hr⟩

theorem RowC.form {w : World} {v : Value} {cs : List Cmd} (h : RowC w v cs) : ∃ ao c, v = .slice ao cs.length c := by
  obtain ⟨ao, c, rfl, _⟩ := h; exact ⟨ao, c, rfl⟩

theorem RowC.at {w : World} {ao : Option Addr} {n c : Nat} {cs : List Cmd} (h : RowC w (.slice ao n c) cs) (hp : 0 < cs.length) :
    ∃ b off, ao = some ⟨b, off, none⟩ ∧ b < w.heap.size ∧ ∀ j (h : j < cs.length), w.rangeAt b (off + j * 5) cs[j].cells := by
  obtain ⟨ao', c', hv, hc⟩ := h
  simp only [Value.slice.injEq] at hv
  obtain ⟨rfl, rfl, rfl⟩ := hv
  obtain ⟨b, off, e, hl, _⟩ := hc 0 hp
  refine ⟨b, off, e, hl, fun j hj => ?_⟩
  obtain ⟨b', off', e', _, hr⟩ := hc j hj
  rw [e] at e'
  cases e'
  exact hr

theorem Try.size27 : (Try.prog.info? 27).map (·.size) = some 5 := by kernel_rfl
theorem Try.size30 : (Try.prog.info? 30).map (·.size) = some 5 := by kernel_rfl
theorem Try.info30 : (Try.prog.info? 30).map (fun i => (i.zero, i.size, i.bytes)) = some (some (.agg #[.int .u64 0, .int .i64 0, .int .i64 0, .int .i64 0, .int .i64 0]), 5, 40) := by kernel_rfl

theorem load27 {w : World} {b o : Nat} {c : Cmd} (h : w.rangeAt b o c.cells) :
    (Instr.loadAt 27 (.pointer (some ⟨b, o, none⟩))).run Try.prog w = .ok (.agg #[.int .u64 c.ix, .int .i64 c.ls, .int .i64 c.al, .int .i64 c.ms, .int .i64 c.bs]) w :=
  run_loadAt_mid w b o 27 c.cells _ h Try.underlying27 rfl Try.size27
theorem load30 {w : World} {b o : Nat} {c : Cmd} (h : w.rangeAt b o c.cells) :
    (Instr.loadAt 30 (.pointer (some ⟨b, o, none⟩))).run Try.prog w = .ok (.agg #[.int .u64 c.ix, .int .i64 c.ls, .int .i64 c.al, .int .i64 c.ms, .int .i64 c.bs]) w :=
  run_loadAt_mid w b o 30 c.cells _ h Try.underlying30 rfl Try.size30
theorem store30 {w : World} {b o : Nat} (c : Cmd) (h : w.there b o 5) :
    (Instr.storeAt 30 (.pointer (some ⟨b, o, none⟩)) (.agg #[.int .u64 c.ix, .int .i64 c.ls, .int .i64 c.al, .int .i64 c.ms, .int .i64 c.bs])).run Try.prog w = .ok () (w.setCells b o c.cells) :=
  run_storeAt_mid w b o 30 _ h Try.size30 (by simp [Value.oneCell'])

/-- a bool comes back -/
def SomeBool (e : Ending) : Prop := ∃ b, e = .returned (.bool b)

theorem bytes10_any (r g s : Int) (a : Option Addr) (n c : Nat) (w : World) :
    Calls Try.prog 10 #[.int .i64 r, .int .i64 g, .int .u64 s, .slice a n c] w fun e w' => SomeBool e ∧ w' = w := by
  go_enter Try.func10, Try.ntmps10
  go_wp2
  all_goals
    go_ret
    exact ⟨⟨_, rfl⟩, rfl⟩

theorem bytes5_any (r g s : Int) (a : Option Addr) (n c : Nat) (k : Int) (w : World) :
    Calls Try.prog 5 #[.int .i64 r, .int .i64 g, .int .u64 s, .slice a n c, .int .i64 k] w fun e w' => SomeBool e ∧ w' = w := by
  go_enter Try.func5, Try.ntmps5
  go_wp2
  all_goals
    go_ret
    exact ⟨⟨_, rfl⟩, rfl⟩

/-- 'out of range', told -/
def Ranged (e : Ending) (v : Int) : Prop := ∃ b, e = .returned (.bool b) ∧ (b = false → v.natAbs ≤ 68719476736)

theorem range_any (v : Int) (w : World) :
    Calls Try.prog 6 #[.int .i64 v] w fun e w' => Ranged e v ∧ w' = w := by
  by_cases h1 : 68719476736 < v
  · go_enter Try.func6, Try.ntmps6
    go_wp2
    go_ret
    exact ⟨⟨true, rfl, fun h => by cases h⟩, rfl⟩
  · by_cases h2 : v < -68719476736
    · go_enter Try.func6, Try.ntmps6
      go_wp2
      go_ret
      exact ⟨⟨true, rfl, fun h => by cases h⟩, rfl⟩
    · go_enter Try.func6, Try.ntmps6
      go_wp2
      go_ret
      exact ⟨⟨false, rfl, fun _ => by omega⟩, rfl⟩

end Go.Proofs.Qxb6626374a
