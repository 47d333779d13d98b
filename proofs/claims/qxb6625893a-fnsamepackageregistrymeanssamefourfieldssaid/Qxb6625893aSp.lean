import Derived.Test.Qxb6625893aWk
namespace Go.Proofs.Qxb6625893a
open Go.RowKit
abbrev locI (p : ByteArray) : Value := .iface 28 (.agg #[.string p])
abbrev remI (p d : ByteArray) : Value := .iface 26 (.agg #[.string p, .string d])
abbrev regI (h n m s d : ByteArray) : Value := .iface 24 (regV h n m s d)

theorem ta_24_24 (v : Value) (w : World) : (Instr.typeAssert (.iface 24 v) 34 24 true).run Try.prog w = .ok (.tuple #[v, .bool true]) w := by kernel_rfl
theorem ta_24_26 (v : Value) (w : World) : (Instr.typeAssert (.iface 24 v) 34 26 true).run Try.prog w = .ok (.tuple #[.agg #[.string ⟨#[]⟩, .string ⟨#[]⟩], .bool false]) w := by kernel_rfl
theorem ta_24_28 (v : Value) (w : World) : (Instr.typeAssert (.iface 24 v) 34 28 true).run Try.prog w = .ok (.tuple #[.agg #[.string ⟨#[]⟩], .bool false]) w := by kernel_rfl
theorem ta_26_24 (v : Value) (w : World) : (Instr.typeAssert (.iface 26 v) 34 24 true).run Try.prog w = .ok (.tuple #[.agg #[.string ⟨#[]⟩, .string ⟨#[]⟩, .string ⟨#[]⟩, .string ⟨#[]⟩, .string ⟨#[]⟩], .bool false]) w := by kernel_rfl
theorem ta_26_26 (v : Value) (w : World) : (Instr.typeAssert (.iface 26 v) 34 26 true).run Try.prog w = .ok (.tuple #[v, .bool true]) w := by kernel_rfl
theorem ta_26_28 (v : Value) (w : World) : (Instr.typeAssert (.iface 26 v) 34 28 true).run Try.prog w = .ok (.tuple #[.agg #[.string ⟨#[]⟩], .bool false]) w := by kernel_rfl
theorem ta_28_24 (v : Value) (w : World) : (Instr.typeAssert (.iface 28 v) 34 24 true).run Try.prog w = .ok (.tuple #[.agg #[.string ⟨#[]⟩, .string ⟨#[]⟩, .string ⟨#[]⟩, .string ⟨#[]⟩, .string ⟨#[]⟩], .bool false]) w := by kernel_rfl
theorem ta_28_26 (v : Value) (w : World) : (Instr.typeAssert (.iface 28 v) 34 26 true).run Try.prog w = .ok (.tuple #[.agg #[.string ⟨#[]⟩, .string ⟨#[]⟩], .bool false]) w := by kernel_rfl
theorem ta_28_28 (v : Value) (w : World) : (Instr.typeAssert (.iface 28 v) 34 28 true).run Try.prog w = .ok (.tuple #[v, .bool true]) w := by kernel_rfl
attribute [local go_sem] ta_24_24 ta_24_26 ta_24_28 ta_26_24 ta_26_26 ta_26_28 ta_28_24 ta_28_26 ta_28_28

/-- two strings are the same, as the walk writes it -/
def eqS (p q : ByteArray) : Bool := p.toList == q.toList
theorem eqS_refl (p : ByteArray) : eqS p p = true := by simp [eqS]

set_option maxHeartbeats 400000 in
theorem same_ll (p p2 : ByteArray) (w : World) :
    Calls Try.prog 7 #[locI p, locI p2] w fun e w' => e = .returned (.bool (eqS p p2)) ∧ Gr w w' := by
  go_enter Try.func7, Try.ntmps7
  go_wp2
  go_ret
  exact ⟨rfl, (((Gr.refl _).alloc _ _).alloc _ _)⟩

set_option maxHeartbeats 400000 in
theorem same_lm (p p2 d2 : ByteArray) (w : World) :
    Calls Try.prog 7 #[locI p, remI p2 d2] w fun e w' => e = .returned (.bool (false)) ∧ Gr w w' := by
  go_enter Try.func7, Try.ntmps7
  go_wp2
  go_ret
  exact ⟨rfl, (((Gr.refl _).alloc _ _).alloc _ _)⟩

set_option maxHeartbeats 400000 in
theorem same_lr (p h2 n2 m2 s2 d2 : ByteArray) (w : World) :
    Calls Try.prog 7 #[locI p, regI h2 n2 m2 s2 d2] w fun e w' => e = .returned (.bool (false)) ∧ Gr w w' := by
  go_enter Try.func7, Try.ntmps7
  go_wp2
  go_ret
  exact ⟨rfl, (((Gr.refl _).alloc _ _).alloc _ _)⟩

set_option maxHeartbeats 400000 in
theorem same_ml (p d p2 : ByteArray) (w : World) :
    Calls Try.prog 7 #[remI p d, locI p2] w fun e w' => e = .returned (.bool (false)) ∧ Gr w w' := by
  go_enter Try.func7, Try.ntmps7
  go_wp2
  go_ret
  exact ⟨rfl, (((Gr.refl _).alloc _ _).alloc _ _)⟩

set_option maxHeartbeats 400000 in
theorem same_mm (p d p2 d2 : ByteArray) (w : World) :
    Calls Try.prog 7 #[remI p d, remI p2 d2] w fun e w' => e = .returned (.bool (eqS p p2)) ∧ Gr w w' := by
  go_enter Try.func7, Try.ntmps7
  go_wp2
  go_ret
  exact ⟨rfl, (((Gr.refl _).alloc _ _).alloc _ _)⟩

set_option maxHeartbeats 400000 in
theorem same_mr (p d h2 n2 m2 s2 d2 : ByteArray) (w : World) :
    Calls Try.prog 7 #[remI p d, regI h2 n2 m2 s2 d2] w fun e w' => e = .returned (.bool (false)) ∧ Gr w w' := by
  go_enter Try.func7, Try.ntmps7
  go_wp2
  go_ret
  exact ⟨rfl, (((Gr.refl _).alloc _ _).alloc _ _)⟩

set_option maxHeartbeats 400000 in
theorem same_rl (h n m s d p2 : ByteArray) (w : World) :
    Calls Try.prog 7 #[regI h n m s d, locI p2] w fun e w' => e = .returned (.bool (false)) ∧ Gr w w' := by
  go_enter Try.func7, Try.ntmps7
  go_wp2
  go_quiet (fail)
  go_wp2
  go_ret
  exact ⟨rfl, ((((Gr.refl _).alloc _ _).alloc _ _).drewN _)⟩

set_option maxHeartbeats 400000 in
theorem same_rm (h n m s d p2 d2 : ByteArray) (w : World) :
    Calls Try.prog 7 #[regI h n m s d, remI p2 d2] w fun e w' => e = .returned (.bool (false)) ∧ Gr w w' := by
  go_enter Try.func7, Try.ntmps7
  go_wp2
  go_quiet (fail)
  go_wp2
  go_ret
  exact ⟨rfl, ((((Gr.refl _).alloc _ _).alloc _ _).drewN _)⟩

set_option maxHeartbeats 400000 in
theorem same_rr (h n m s d h2 n2 m2 s2 d2 : ByteArray) (w : World) (bh : h.size ≤ 65536) (bn : n.size ≤ 65536) (bm : m.size ≤ 65536) (bs : s.size ≤ 65536) (bh2 : h2.size ≤ 65536) (bn2 : n2.size ≤ 65536) (bm2 : m2.size ≤ 65536) (bs2 : s2.size ≤ 65536) :
    Calls Try.prog 7 #[regI h n m s d, regI h2 n2 m2 s2 d2] w fun e w' => e = .returned (.bool (eqS (pkgS h n m s) (pkgS h2 n2 m2 s2))) ∧ Gr w w' := by
  go_enter Try.func7, Try.ntmps7
  go_wp2
  go_region_with (go_at_call 6; (try (have hg0 := hg; clear hg)); refine (package_any _ _ _ _ _ _ (by assumption) (by assumption) (by assumption) (by assumption)).mono ?_; rintro e w1 ⟨rfl, hg⟩; have hc := hg.cell; have hz := hg.below.size)
  all_goals
    go_wp2
    go_ret
    exact ⟨rfl, ((((Gr.refl _).alloc _ _).alloc _ _).drew.trans hg0).trans hg⟩

theorem same_ll_t (p : ByteArray) (w : World) : Calls Try.prog 7 #[locI p, locI p] w fun e w' => e = .returned (.bool true) ∧ Gr w w' :=
  (same_ll p p w).mono fun _ _ h => by rw [eqS_refl] at h; exact h
theorem same_mm_t (p d d2 : ByteArray) (w : World) : Calls Try.prog 7 #[remI p d, remI p d2] w fun e w' => e = .returned (.bool true) ∧ Gr w w' :=
  (same_mm p d p d2 w).mono fun _ _ h => by rw [eqS_refl] at h; exact h
theorem same_rr_t (h n m s d d2 : ByteArray) (w : World) (bh : h.size ≤ 65536) (bn : n.size ≤ 65536) (bm : m.size ≤ 65536) (bs : s.size ≤ 65536) : Calls Try.prog 7 #[regI h n m s d, regI h n m s d2] w fun e w' => e = .returned (.bool true) ∧ Gr w w' :=
  (same_rr h n m s d h n m s d2 w bh bn bm bs bh bn bm bs).mono fun _ _ h => by rw [eqS_refl] at h; exact h

end Go.Proofs.Qxb6625893a
