import Derived.Test.Qxb6626222aLawB
namespace Go.Proofs.Qxb6626222a
open Go.RowKit

set_option maxRecDepth 100000 in
set_option maxHeartbeats 2000000 in
theorem lawB_early (vb : Value) (rt rn : Option Nat) (bs : List (Option Bk)) (gt gn : Int → Option ByteArray) (id newID newType : Int) (w : World) (hc : Came w vb (.map rt) (.map rn) bs gt gn) (nt nn : Nat)
    (ht : ∀ ty, (Builtin.len_ #[23] ty #[.map rt]).run Try.prog w = .ok (.int .i64 (nt : Int)) w) (hn : ∀ ty, (Builtin.len_ #[23] ty #[.map rn]).run Try.prog w = .ok (.int .i64 (nn : Int)) w)
    (h : 4096 < bs.length ∨ (bs.length ≤ 4096 ∧ 65536 < nt) ∨ (bs.length ≤ 4096 ∧ nt ≤ 65536 ∧ 65536 < nn)) :
    Calls Try.prog 4 #[vb, .map rt, .map rn, .int .i64 id, .int .i32 newID, .int .u16 newType] w fun e w' => e = .returned (.bool true) ∧ Below w.heap.size w w' := by
  obtain ⟨ao, c, rfl⟩ := hc.b.form
  clear hc
  rcases h with h | ⟨h0, h⟩ | ⟨h0, h1, h⟩
  all_goals
    go_enter Try.func4, Try.ntmps4
    go_wp2_with fail
    go_ret
    exact ⟨rfl, Below.refl _ _⟩

theorem lawB_any (vb : Value) (rt rn : Option Nat) (bs : List (Option Bk)) (gt gn : Int → Option ByteArray) (id newID newType : Int) (w : World) (hc : Came w vb (.map rt) (.map rn) bs gt gn) (hw4 : (Lit.int .i32 newID).wf = true) (hw5 : (Lit.int .u16 newType).wf = true) :
    Calls Try.prog 4 #[vb, .map rt, .map rn, .int .i64 id, .int .i32 newID, .int .u16 newType] w fun e w' => e = .returned (.bool true) ∧ Below w.heap.size w w' := by
  obtain ⟨nt, ht⟩ := hc.t.here.len
  obtain ⟨nn, hn⟩ := hc.n.here.len
  by_cases h : bs.length ≤ 4096 ∧ nt ≤ 65536 ∧ nn ≤ 65536
  · exact lawB_late vb rt rn bs gt gn id newID newType w hc nt nn ht hn h.1 h.2.1 h.2.2 hw4 hw5
  · exact lawB_early vb rt rn bs gt gn id newID newType w hc nt nn ht hn (by omega)

end Go.Proofs.Qxb6626222a
