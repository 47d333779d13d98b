import Derived.Test.Qxb6625893aRows
import Derived.WalkKit
import Derived.WalkSpells
import Derived.WalkLawsBesides
import Derived.Deep.QuietTactic
import Derived.BigQuiet
import Derived.Deep.RegionWith
namespace Go.Proofs.Qxb6625893a
open Go.RowKit

/-- what was there stays as it was, and no cell's mark turns -/
structure Gr (w w' : World) : Prop where
  below : Below w.heap.size w w'
  marks : ∀ a, w'.frozen? a = w.frozen? a

theorem Gr.refl (w : World) : Gr w w := ⟨Below.refl _ _, fun _ => rfl⟩
theorem Gr.trans {a b c : World} (h : Gr a b) (k : Gr b c) : Gr a c :=
  ⟨h.below.trans (k.below.mono h.below.size), fun x => (k.marks x).trans (h.marks x)⟩
theorem Gr.drew {a b : World} (h : Gr a b) : Gr a b.drew := ⟨h.below.drew, h.marks⟩
theorem Gr.drewN {a b : World} (h : Gr a b) (n : Nat) : Gr a (b.drewN n) := ⟨below_drewN h.below n, h.marks⟩
theorem Gr.alloc {a b : World} (h : Gr a b) (c : Array Value) (t : TypeId) : Gr a (b.alloc (.cells c t)) :=
  ⟨h.below.alloc h.below.size _, fun x => (frozen?_alloc_cells _ _ _ x).trans (h.marks x)⟩

/-- the value of a Registry -/
abbrev regV (h n m s d : ByteArray) : Value := .agg #[.string h, .string n, .string m, .string s, .string d]

def slash : ByteArray := ⟨#[47]⟩
def protoS (n m s : ByteArray) : ByteArray := n ++ slash ++ m ++ slash ++ s
def pkgS (h n m s : ByteArray) : ByteArray := h ++ slash ++ protoS n m s

set_option maxHeartbeats 400000 in
theorem protocol_any (h n m s d : ByteArray) (w : World) (hn : n.size ≤ 65536) (hm : m.size ≤ 65536) (hs : s.size ≤ 65536) :
    Calls Try.prog 10 #[regV h n m s d] w fun e w' => e = .returned (.string (protoS n m s)) ∧ Gr w w' := by
  go_enter Try.func10, Try.ntmps10
  go_wp2
  go_ret
  exact ⟨rfl, (Gr.refl _).alloc _ _⟩


theorem protoS_size (n m s : ByteArray) : (protoS n m s).size = n.size + m.size + s.size + 2 := by
  have h1 : slash.size = 1 := rfl
  simp only [protoS, ByteArray.size_append]; omega
theorem Gr.cell {a b : World} (h : Gr a b) : ∀ k o, k < a.heap.size → b.cell? ⟨k, o, none⟩ = a.cell? ⟨k, o, none⟩ := fun _ _ hk => h.below.cell hk

set_option maxHeartbeats 400000 in
theorem package_any (h n m s d : ByteArray) (w : World) (hh : h.size ≤ 65536) (hn : n.size ≤ 65536) (hm : m.size ≤ 65536) (hs : s.size ≤ 65536) :
    Calls Try.prog 6 #[regV h n m s d] w fun e w' => e = .returned (.string (pkgS h n m s)) ∧ Gr w w' := by
  have hz : (protoS n m s).size ≤ 200000 := by rw [protoS_size]; omega
  go_enter Try.func6, Try.ntmps6
  go_wp2
  go_region_with (go_at_call 10; refine (protocol_any _ _ _ _ _ _ hn hm hs).mono ?_; rintro e w1 ⟨rfl, hg⟩; have hc := hg.cell)
  all_goals
    go_wp2
    go_ret
    exact ⟨rfl, ((Gr.refl _).alloc _ _).drew.trans hg⟩

end Go.Proofs.Qxb6625893a
