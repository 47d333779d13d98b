import Derived.Test.Qxb6626222aCrush
import Derived.Maps.OwnSet
import Derived.Maps.StringElems
import Derived.Deep.QuietTactic
import Derived.BigQuiet
namespace Go.Proofs.Qxb6626222a
open Go.RowKit

/-- a slice value, nil or not, and its elements -/
def Row (w : World) (v : Value) (xs : List Value) : Prop :=
  (v = .slice none 0 0 ∧ xs = []) ∨
  ∃ a c, v = .slice (some a) xs.length c ∧ ∀ j (h : j < xs.length), w.cell? (a.add j) = some xs[j]

theorem Row.form {w : World} {v : Value} {xs : List Value} (h : Row w v xs) : ∃ ao c, v = .slice ao xs.length c := by
  rcases h with ⟨rfl, rfl⟩ | ⟨a, c, rfl, _⟩
  · exact ⟨none, 0, rfl⟩
  · exact ⟨some a, c, rfl⟩

theorem Row.at {w : World} {ao : Option Addr} {n c : Nat} {xs : List Value} (h : Row w (.slice ao n c) xs) (hp : 0 < xs.length) :
    ∃ b off, ao = some ⟨b, off, none⟩ ∧ b < w.heap.size ∧ ∀ j (h : j < xs.length), w.cell? ⟨b, off + j, none⟩ = some xs[j] := by
  rcases h with ⟨_, rfl⟩ | ⟨a, c, hv, hc⟩
  · simp at hp
  · obtain ⟨b, off, spot⟩ := a
    have hspot : spot = none := by simpa [Addr.add] using World.cell?_spot (hc 0 hp)
    subst hspot
    simp only [Value.slice.injEq] at hv
    obtain ⟨rfl, rfl, rfl⟩ := hv
    refine ⟨b, off, rfl, ?_, fun j hj => by rw [← Go.WideShapes.add_plain]; exact hc j hj⟩
    exact World.block_lt_of_cell? _ _ (hc 0 hp)

theorem Row.later {w w' : World} {v : Value} {xs : List Value} (h : Row w v xs) (hb : Below w.heap.size w w') : Row w' v xs := by
  rcases h with h | ⟨a, c, hv, hc⟩
  · exact Or.inl h
  · exact Or.inr ⟨a, c, hv, fun j hj => cell_later hb (hc j hj)⟩

theorem Row.ints {w : World} {k : IntKind} {b off : Nat} {zs : List Int} (hc : ∀ j (h : j < (zs.map (Value.int k)).length), w.cell? ⟨b, off + j, none⟩ = some (zs.map (Value.int k))[j]) (j : Nat) (h : j < zs.length) :
    w.cell? ⟨b, off + j, none⟩ = some (.int k zs[j]) := by
  rw [hc j (by simpa using h)]
  simp

/-- what a map of strings says at each key, in this world and in every later one -/
structure MapAt (w : World) (mv : Value) (g : Int → Option ByteArray) : Prop where
  ok : ∀ k, (Lit.int .i32 k).wf = true → (Instr.lookup 23 mv (.int .i32 k) true).run Try.prog w = .ok (.tuple #[.string ((g k).getD ⟨#[]⟩), .bool (g k).isSome]) w
  no : ∀ k, (Lit.int .i32 k).wf = true → (Instr.lookup 23 mv (.int .i32 k) false).run Try.prog w = .ok (.string ((g k).getD ⟨#[]⟩)) w
  size : ∀ k s, g k = some s → s.size ≤ 140737488351232
  len : ∃ n : Nat, ∀ ty, (Builtin.len_ #[23] ty #[mv]).run Try.prog w = .ok (.int .i64 (n : Int)) w

def Maps (w : World) (mv : Value) (g : Int → Option ByteArray) : Prop := ∀ w', Below w.heap.size w w' → MapAt w' mv g
theorem Maps.here {w : World} {mv : Value} {g : Int → Option ByteArray} (h : Maps w mv g) : MapAt w mv g := h w (Below.refl _ _)
theorem Maps.later {w w' : World} {mv : Value} {g : Int → Option ByteArray} (h : Maps w mv g) (hb : Below w.heap.size w w') : Maps w' mv g := fun w'' hb' => h w'' (hb.trans (hb'.mono hb.size))

/-- is the bucket of this id a shadow? -/
def shad (g : Int → Option ByteArray) (id : Int) : Bool := match g id with | none => false | some s => !okName s

set_option maxHeartbeats 1000000 in
theorem shadow_any (mv : Value) (g : Int → Option ByteArray) (id : Int) (w : World) (hm : MapAt w mv g) (hk : (Lit.int .i32 id).wf = true) :
    Calls Try.prog 14 #[mv, .int .i32 id] w fun e w' => e = .returned (.bool (shad g id)) ∧ w' = w := by
  have hok := hm.ok id hk
  have hsz := hm.size id
  unfold shad
  cases hg : g id with
  | none =>
    rw [hg] at hok
    simp only [Option.getD_none, Option.isSome_none] at hok ⊢
    clear hsz hm hg
    go_enter Try.func14, Try.ntmps14
    go_wp2_with fail
    go_ret
    exact ⟨rfl, rfl⟩
  | some s =>
    rw [hg] at hok
    have hs := hsz s hg
    simp only [Option.getD_some, Option.isSome_some] at hok ⊢
    clear hsz hm hg
    go_enter Try.func14, Try.ntmps14
    go_wp2_with fail
    refine (valid_any _ _ (by omega)).mono ?_
    rintro e w1 ⟨rfl, hw⟩
    subst hw
    go_wp2_with fail
    go_ret
    exact ⟨rfl, rfl⟩

set_option maxHeartbeats 1000000 in
theorem isShadow_any (mb : Nat) (mv : Value) (g : Int → Option ByteArray) (id : Int) (w : World) (hc : w.cell? ⟨mb, 4, none⟩ = some mv) (hm : MapAt w mv g) (hk : (Lit.int .i32 id).wf = true) :
    Calls Try.prog 11 #[.pointer (some ⟨mb, 0, none⟩), .int .i32 id] w fun e w' => e = .returned (.bool (shad g id)) ∧ Below w.heap.size w w' := by
  have hok := hm.ok id hk
  unfold shad
  cases hg : g id with
  | none =>
    rw [hg] at hok
    simp only [Option.getD_none, Option.isSome_none] at hok ⊢
    clear hm hg
    go_enter Try.func11, Try.ntmps11
    go_wp2_with fail
    go_ret
    exact ⟨rfl, Below.refl _ _⟩
  | some s =>
    rw [hg] at hok
    simp only [Option.getD_some, Option.isSome_some] at hok ⊢
    clear hm hg
    go_enter Try.func11, Try.ntmps11
    go_wp2_with fail
    refine (crush_any _ _).mono ?_
    rintro e w1 ⟨rfl, hb⟩
    have HB : Hid (Below w.heap.size w w1) := hb
    clear hb
    go_wp2_with fail
    go_ret
    exact ⟨rfl, HB.out⟩

end Go.Proofs.Qxb6626222a
