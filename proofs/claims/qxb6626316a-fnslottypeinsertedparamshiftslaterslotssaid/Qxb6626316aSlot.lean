import Derived.Test.Qxb6626316aBase
namespace Go.Proofs.Qxb6626316a
open Go.RowKit

abbrev U32s (zs : List Int) : List Value := zs.map (Value.int .u32)

theorem u32_at {w : World} {b off : Nat} {zs : List Int} (hc : ∀ j (h : j < (U32s zs).length), w.cell? ⟨b, off + j, none⟩ = some (U32s zs)[j]) (j : Nat) (h : j < zs.length) :
    w.cell? ⟨b, off + j, none⟩ = some (.int .u32 (zs.getD j 0)) := by
  rw [hc j (by simpa using h)]
  simp [List.getD_eq_getElem?_getD, h]

theorem getD_left (zp zv : List Int) (i : Nat) (h : i < zp.length) : (zp ++ zv).getD i 0 = zp.getD i 0 := by
  simp [List.getD_eq_getElem?_getD, List.getElem?_append_left h]
theorem getD_right (zp zv : List Int) (i : Nat) (h : zp.length ≤ i) : (zp ++ zv).getD i 0 = zv.getD (i - zp.length) 0 := by
  simp [List.getD_eq_getElem?_getD, List.getElem?_append_right h]

set_option maxHeartbeats 1000000 in
theorem slot_any (fb i : Nat) (vp vv : Value) (zp zv : List Int) (w : World) (c2 : w.cell? ⟨fb, 2, none⟩ = some vp) (c5 : w.cell? ⟨fb, 5, none⟩ = some vv)
    (rp : Row w vp (U32s zp)) (rv : Row w vv (U32s zv)) (hi : i < zp.length + zv.length) (hp : zp.length ≤ 1000000000) (hv : zv.length ≤ 1000000000) :
    Calls Try.prog 10 #[.pointer (some ⟨fb, 0, none⟩), .int .i64 i] w fun e w' => e = .returned (.int .u32 ((zp ++ zv).getD i 0)) ∧ Below w.heap.size w w' := by
  obtain ⟨ap, cp, rfl⟩ := rp.form
  obtain ⟨av, cv, rfl⟩ := rv.form
  by_cases h : i < zp.length
  · obtain ⟨b, off, ha, hb, hc⟩ := rp.at (by simp; omega)
    subst ha
    have hcell := u32_at hc i h
    rw [getD_left zp zv i h]
    obtain ⟨u, hu⟩ : ∃ u, zp.getD i 0 = u := ⟨_, rfl⟩
    rw [hu] at hcell ⊢
    clear hu
    simp only [List.length_map] at *
    clear hc rp rv
    go_enter Try.func10, Try.ntmps10
    go_wp2
    go_ret
    exact ⟨rfl, Below.refl _ _⟩
  · obtain ⟨b, off, ha, hb, hc⟩ := rv.at (by simp; omega)
    subst ha
    have hcell := u32_at hc (i - zp.length) (by omega)
    rw [getD_right zp zv i (by omega)]
    obtain ⟨u, hu⟩ : ∃ u, zv.getD (i - zp.length) 0 = u := ⟨_, rfl⟩
    rw [hu] at hcell ⊢
    clear hu
    simp only [List.length_map] at *
    clear hc rp rv
    obtain ⟨j, hj⟩ : ∃ j, i - zp.length = j := ⟨_, rfl⟩
    rw [hj] at hcell
    obtain rfl : i = zp.length + j := by omega
    have hb0 : (0 : Int) ≤ (j : Int) := by omega
    have hb1 : (j : Int) < (zv.length : Int) := by omega
    have hb2 : ((zp.length + j : Nat) : Int) - (zp.length : Int) = (j : Int) := by omega
    clear hj
    go_enter Try.func10, Try.ntmps10
    go_wp2
    go_quiet (fail)
    go_wp2
    go_ret
    exact ⟨rfl, below_drewN (Below.refl _ _) _⟩

end Go.Proofs.Qxb6626316a
