import Derived.Test.Qxb6625893aTwo
namespace Go.Proofs.Qxb6625893a
open Go.RowKit

set_option maxRecDepth 100000 in
set_option maxHeartbeats 4000000 in
theorem two_ne3 (a0 a1 a2 a3 a4 a5 a6 a7 a8 a9 : ByteArray) (w : World) (b0 : a0.size ≤ 65536) (b1 : a1.size ≤ 65536) (b2 : a2.size ≤ 65536) (b3 : a3.size ≤ 65536) (b4 : a4.size ≤ 65536) (b5 : a5.size ≤ 65536) (b6 : a6.size ≤ 65536) (b7 : a7.size ≤ 65536) (b8 : a8.size ≤ 65536) (b9 : a9.size ≤ 65536) (s0 : hasSl a0 = false) (s1 : hasSl a1 = false) (s2 : hasSl a2 = false) (s3 : hasSl a3 = false) (s5 : hasSl a5 = false) (s6 : hasSl a6 = false) (s7 : hasSl a7 = false) (s8 : hasSl a8 = false) (e0 : (a0.toList == a5.toList) = true) (e1 : (a1.toList == a6.toList) = true) (e2 : (a2.toList == a7.toList) = true) (e3 : (a3.toList == a8.toList) = false) (hx : eqS (pkgS a0 a1 a2 a3) (pkgS a5 a6 a7 a8) = false) (hy : eqS (pkgS a5 a6 a7 a8) (pkgS a0 a1 a2 a3) = false) :
    Calls Try.prog 4 #[.string a0, .string a1, .string a2, .string a3, .string a4, .string a5, .string a6, .string a7, .string a8, .string a9] w fun e w' => e = .returned (.bool true) ∧ Gr w w' := by
  go_enter Try.func4, Try.ntmps4
  go_wp2_with fail
  refine (bytes10_any _ _ _ _ _ _ _ _ _ _ _ (by unfold maxLen; omega) (by unfold maxLen; omega) (by unfold maxLen; omega) (by unfold maxLen; omega) (by unfold maxLen; omega) (by unfold maxLen; omega) (by unfold maxLen; omega) (by unfold maxLen; omega) (by unfold maxLen; omega) (by unfold maxLen; omega)).mono ?_
  rintro e w1 ⟨b, rfl, hw1⟩
  subst hw1
  cases b
  · go_wp2_with fail
    go_ret
    exact ⟨rfl, Gr.refl _⟩
  go_wp2_with fail
  refine (slash_any _ _ (by unfold maxLen; omega)).mono ?_
  rw [s0]
  rintro e w2 ⟨rfl, hw2⟩
  subst hw2
  go_wp2_with fail
  refine (slash_any _ _ (by unfold maxLen; omega)).mono ?_
  rw [s1]
  rintro e w2 ⟨rfl, hw2⟩
  subst hw2
  go_wp2_with fail
  refine (slash_any _ _ (by unfold maxLen; omega)).mono ?_
  rw [s2]
  rintro e w2 ⟨rfl, hw2⟩
  subst hw2
  go_wp2_with fail
  refine (slash_any _ _ (by unfold maxLen; omega)).mono ?_
  rw [s3]
  rintro e w2 ⟨rfl, hw2⟩
  subst hw2
  go_wp2_with fail
  refine (slash_any _ _ (by unfold maxLen; omega)).mono ?_
  rw [s5]
  rintro e w2 ⟨rfl, hw2⟩
  subst hw2
  go_wp2_with fail
  refine (slash_any _ _ (by unfold maxLen; omega)).mono ?_
  rw [s6]
  rintro e w2 ⟨rfl, hw2⟩
  subst hw2
  go_wp2_with fail
  refine (slash_any _ _ (by unfold maxLen; omega)).mono ?_
  rw [s7]
  rintro e w2 ⟨rfl, hw2⟩
  subst hw2
  go_wp2_with fail
  refine (slash_any _ _ (by unfold maxLen; omega)).mono ?_
  rw [s8]
  rintro e w2 ⟨rfl, hw2⟩
  subst hw2
  go_wp2_with fail
  clear s0 s1 s2 s3 s5 s6 s7 s8
  have hG : Gr w2 ((w2.alloc (.cells #[.string a0, .string a1, .string a2, .string a3, .string a4] 24)).alloc (.cells #[.string a5, .string a6, .string a7, .string a8, .string a9] 24)) := ((Gr.refl w2).alloc _ _).alloc _ _
  have fa0 : ((w2.alloc (.cells #[.string a0, .string a1, .string a2, .string a3, .string a4] 24)).alloc (.cells #[.string a5, .string a6, .string a7, .string a8, .string a9] 24)).cell? ⟨w2.heap.size, 0, none⟩ = some (.string a0) := by simp [go_sem]
  have fa1 : ((w2.alloc (.cells #[.string a0, .string a1, .string a2, .string a3, .string a4] 24)).alloc (.cells #[.string a5, .string a6, .string a7, .string a8, .string a9] 24)).cell? ⟨w2.heap.size, 1, none⟩ = some (.string a1) := by simp [go_sem]
  have fa2 : ((w2.alloc (.cells #[.string a0, .string a1, .string a2, .string a3, .string a4] 24)).alloc (.cells #[.string a5, .string a6, .string a7, .string a8, .string a9] 24)).cell? ⟨w2.heap.size, 2, none⟩ = some (.string a2) := by simp [go_sem]
  have fa3 : ((w2.alloc (.cells #[.string a0, .string a1, .string a2, .string a3, .string a4] 24)).alloc (.cells #[.string a5, .string a6, .string a7, .string a8, .string a9] 24)).cell? ⟨w2.heap.size, 3, none⟩ = some (.string a3) := by simp [go_sem]
  have fa4 : ((w2.alloc (.cells #[.string a0, .string a1, .string a2, .string a3, .string a4] 24)).alloc (.cells #[.string a5, .string a6, .string a7, .string a8, .string a9] 24)).cell? ⟨w2.heap.size, 4, none⟩ = some (.string a4) := by simp [go_sem]
  have fb0 : ((w2.alloc (.cells #[.string a0, .string a1, .string a2, .string a3, .string a4] 24)).alloc (.cells #[.string a5, .string a6, .string a7, .string a8, .string a9] 24)).cell? ⟨w2.heap.size + 1, 0, none⟩ = some (.string a5) := by simp [go_sem]
  have fb1 : ((w2.alloc (.cells #[.string a0, .string a1, .string a2, .string a3, .string a4] 24)).alloc (.cells #[.string a5, .string a6, .string a7, .string a8, .string a9] 24)).cell? ⟨w2.heap.size + 1, 1, none⟩ = some (.string a6) := by simp [go_sem]
  have fb2 : ((w2.alloc (.cells #[.string a0, .string a1, .string a2, .string a3, .string a4] 24)).alloc (.cells #[.string a5, .string a6, .string a7, .string a8, .string a9] 24)).cell? ⟨w2.heap.size + 1, 2, none⟩ = some (.string a7) := by simp [go_sem]
  have fb3 : ((w2.alloc (.cells #[.string a0, .string a1, .string a2, .string a3, .string a4] 24)).alloc (.cells #[.string a5, .string a6, .string a7, .string a8, .string a9] 24)).cell? ⟨w2.heap.size + 1, 3, none⟩ = some (.string a8) := by simp [go_sem]
  have fb4 : ((w2.alloc (.cells #[.string a0, .string a1, .string a2, .string a3, .string a4] 24)).alloc (.cells #[.string a5, .string a6, .string a7, .string a8, .string a9] 24)).cell? ⟨w2.heap.size + 1, 4, none⟩ = some (.string a9) := by simp [go_sem]
  refine (package_any _ _ _ _ _ _ b0 b1 b2 b3).mono ?_
  rintro e u0 ⟨rfl, hg⟩
  have hG' : Gr w2 (u0.alloc (.cells #[.string (pkgS a0 a1 a2 a3), .string a4] 26)) := (hG.trans hg).alloc _ _
  have hg' : Gr ((w2.alloc (.cells #[.string a0, .string a1, .string a2, .string a3, .string a4] 24)).alloc (.cells #[.string a5, .string a6, .string a7, .string a8, .string a9] 24)) (u0.alloc (.cells #[.string (pkgS a0 a1 a2 a3), .string a4] 26)) := hg.alloc _ _
  have fa0' := hg'.stays fa0
  have fa1' := hg'.stays fa1
  have fa2' := hg'.stays fa2
  have fa3' := hg'.stays fa3
  have fa4' := hg'.stays fa4
  have fb0' := hg'.stays fb0
  have fb1' := hg'.stays fb1
  have fb2' := hg'.stays fb2
  have fb3' := hg'.stays fb3
  have fb4' := hg'.stays fb4
  clear hG hg hg' fa0 fa1 fa2 fa3 fa4 fb0 fb1 fb2 fb3 fb4
  have hG := hG'
  have fa0 := fa0'
  have fa1 := fa1'
  have fa2 := fa2'
  have fa3 := fa3'
  have fa4 := fa4'
  have fb0 := fb0'
  have fb1 := fb1'
  have fb2 := fb2'
  have fb3 := fb3'
  have fb4 := fb4'
  clear hG' fa0' fa1' fa2' fa3' fa4' fb0' fb1' fb2' fb3' fb4'
  have fra0 : (u0.alloc (.cells #[.string (pkgS a0 a1 a2 a3), .string a4] 26)).cell? ⟨u0.heap.size, 0, none⟩ = some (.string (pkgS a0 a1 a2 a3)) := by simp [go_sem]
  have fra1 : (u0.alloc (.cells #[.string (pkgS a0 a1 a2 a3), .string a4] 26)).cell? ⟨u0.heap.size, 1, none⟩ = some (.string a4) := by simp [go_sem]
  go_wp2_with fail
  refine (package_any _ _ _ _ _ _ b5 b6 b7 b8).mono ?_
  rintro e u1 ⟨rfl, hg⟩
  have hG' : Gr w2 (u1.alloc (.cells #[.string (pkgS a5 a6 a7 a8), .string a9] 26)) := (hG.trans hg).alloc _ _
  have hg' : Gr (u0.alloc (.cells #[.string (pkgS a0 a1 a2 a3), .string a4] 26)) (u1.alloc (.cells #[.string (pkgS a5 a6 a7 a8), .string a9] 26)) := hg.alloc _ _
  have fa0' := hg'.stays fa0
  have fa1' := hg'.stays fa1
  have fa2' := hg'.stays fa2
  have fa3' := hg'.stays fa3
  have fa4' := hg'.stays fa4
  have fb0' := hg'.stays fb0
  have fb1' := hg'.stays fb1
  have fb2' := hg'.stays fb2
  have fb3' := hg'.stays fb3
  have fb4' := hg'.stays fb4
  have fra0' := hg'.stays fra0
  have fra1' := hg'.stays fra1
  clear hG hg hg' fa0 fa1 fa2 fa3 fa4 fb0 fb1 fb2 fb3 fb4 fra0 fra1
  have hG := hG'
  have fa0 := fa0'
  have fa1 := fa1'
  have fa2 := fa2'
  have fa3 := fa3'
  have fa4 := fa4'
  have fb0 := fb0'
  have fb1 := fb1'
  have fb2 := fb2'
  have fb3 := fb3'
  have fb4 := fb4'
  have fra0 := fra0'
  have fra1 := fra1'
  clear hG' fa0' fa1' fa2' fa3' fa4' fb0' fb1' fb2' fb3' fb4' fra0' fra1'
  have frb0 : (u1.alloc (.cells #[.string (pkgS a5 a6 a7 a8), .string a9] 26)).cell? ⟨u1.heap.size, 0, none⟩ = some (.string (pkgS a5 a6 a7 a8)) := by simp [go_sem]
  have frb1 : (u1.alloc (.cells #[.string (pkgS a5 a6 a7 a8), .string a9] 26)).cell? ⟨u1.heap.size, 1, none⟩ = some (.string a9) := by simp [go_sem]
  go_wp2_with fail
  refine (package_any _ _ _ _ _ _ b0 b1 b2 b3).mono ?_
  rintro e u2 ⟨rfl, hg⟩
  have hG' : Gr w2 (u2.alloc (.cells #[.string (pkgS a0 a1 a2 a3)] 28)) := (hG.trans hg).alloc _ _
  have hg' : Gr (u1.alloc (.cells #[.string (pkgS a5 a6 a7 a8), .string a9] 26)) (u2.alloc (.cells #[.string (pkgS a0 a1 a2 a3)] 28)) := hg.alloc _ _
  have fa0' := hg'.stays fa0
  have fa1' := hg'.stays fa1
  have fa2' := hg'.stays fa2
  have fa3' := hg'.stays fa3
  have fa4' := hg'.stays fa4
  have fb0' := hg'.stays fb0
  have fb1' := hg'.stays fb1
  have fb2' := hg'.stays fb2
  have fb3' := hg'.stays fb3
  have fb4' := hg'.stays fb4
  have fra0' := hg'.stays fra0
  have fra1' := hg'.stays fra1
  have frb0' := hg'.stays frb0
  have frb1' := hg'.stays frb1
  clear hG hg hg' fa0 fa1 fa2 fa3 fa4 fb0 fb1 fb2 fb3 fb4 fra0 fra1 frb0 frb1
  have hG := hG'
  have fa0 := fa0'
  have fa1 := fa1'
  have fa2 := fa2'
  have fa3 := fa3'
  have fa4 := fa4'
  have fb0 := fb0'
  have fb1 := fb1'
  have fb2 := fb2'
  have fb3 := fb3'
  have fb4 := fb4'
  have fra0 := fra0'
  have fra1 := fra1'
  have frb0 := frb0'
  have frb1 := frb1'
  clear hG' fa0' fa1' fa2' fa3' fa4' fb0' fb1' fb2' fb3' fb4' fra0' fra1' frb0' frb1'
  have fla0 : (u2.alloc (.cells #[.string (pkgS a0 a1 a2 a3)] 28)).cell? ⟨u2.heap.size, 0, none⟩ = some (.string (pkgS a0 a1 a2 a3)) := by simp [go_sem]
  go_wp2_with fail
  refine (package_any _ _ _ _ _ _ b5 b6 b7 b8).mono ?_
  rintro e u3 ⟨rfl, hg⟩
  have hG' : Gr w2 (u3.alloc (.cells #[.string (pkgS a5 a6 a7 a8)] 28)) := (hG.trans hg).alloc _ _
  have hg' : Gr (u2.alloc (.cells #[.string (pkgS a0 a1 a2 a3)] 28)) (u3.alloc (.cells #[.string (pkgS a5 a6 a7 a8)] 28)) := hg.alloc _ _
  have fa0' := hg'.stays fa0
  have fa1' := hg'.stays fa1
  have fa2' := hg'.stays fa2
  have fa3' := hg'.stays fa3
  have fa4' := hg'.stays fa4
  have fb0' := hg'.stays fb0
  have fb1' := hg'.stays fb1
  have fb2' := hg'.stays fb2
  have fb3' := hg'.stays fb3
  have fb4' := hg'.stays fb4
  have fra0' := hg'.stays fra0
  have fra1' := hg'.stays fra1
  have frb0' := hg'.stays frb0
  have frb1' := hg'.stays frb1
  have fla0' := hg'.stays fla0
  clear hG hg hg' fa0 fa1 fa2 fa3 fa4 fb0 fb1 fb2 fb3 fb4 fra0 fra1 frb0 frb1 fla0
  have hG := hG'
  have fa0 := fa0'
  have fa1 := fa1'
  have fa2 := fa2'
  have fa3 := fa3'
  have fa4 := fa4'
  have fb0 := fb0'
  have fb1 := fb1'
  have fb2 := fb2'
  have fb3 := fb3'
  have fb4 := fb4'
  have fra0 := fra0'
  have fra1 := fra1'
  have frb0 := frb0'
  have frb1 := frb1'
  have fla0 := fla0'
  clear hG' fa0' fa1' fa2' fa3' fa4' fb0' fb1' fb2' fb3' fb4' fra0' fra1' frb0' frb1' fla0'
  have flb0 : (u3.alloc (.cells #[.string (pkgS a5 a6 a7 a8)] 28)).cell? ⟨u3.heap.size, 0, none⟩ = some (.string (pkgS a5 a6 a7 a8)) := by simp [go_sem]
  go_wp2_with fail
  refine (same_rr_x _ _ _ _ _ _ _ _ _ _ _ b0 b1 b2 b3 b5 b6 b7 b8 _ hx).mono ?_
  rintro e v0 ⟨rfl, hg⟩
  have hG' := hG.trans hg
  have fa0' := hg.stays fa0
  have fa1' := hg.stays fa1
  have fa2' := hg.stays fa2
  have fa3' := hg.stays fa3
  have fa4' := hg.stays fa4
  have fb0' := hg.stays fb0
  have fb1' := hg.stays fb1
  have fb2' := hg.stays fb2
  have fb3' := hg.stays fb3
  have fb4' := hg.stays fb4
  have fra0' := hg.stays fra0
  have fra1' := hg.stays fra1
  have frb0' := hg.stays frb0
  have frb1' := hg.stays frb1
  have fla0' := hg.stays fla0
  have flb0' := hg.stays flb0
  clear hG hg fa0 fa1 fa2 fa3 fa4 fb0 fb1 fb2 fb3 fb4 fra0 fra1 frb0 frb1 fla0 flb0
  have hG := hG'
  have fa0 := fa0'
  have fa1 := fa1'
  have fa2 := fa2'
  have fa3 := fa3'
  have fa4 := fa4'
  have fb0 := fb0'
  have fb1 := fb1'
  have fb2 := fb2'
  have fb3 := fb3'
  have fb4 := fb4'
  have fra0 := fra0'
  have fra1 := fra1'
  have frb0 := frb0'
  have frb1 := frb1'
  have fla0 := fla0'
  have flb0 := flb0'
  clear hG' fa0' fa1' fa2' fa3' fa4' fb0' fb1' fb2' fb3' fb4' fra0' fra1' frb0' frb1' fla0' flb0'
  go_wp2_with fail
  refine (same_rr_x _ _ _ _ _ _ _ _ _ _ _ b5 b6 b7 b8 b0 b1 b2 b3 _ hy).mono ?_
  rintro e v1 ⟨rfl, hg⟩
  have hG' := hG.trans hg
  have fa0' := hg.stays fa0
  have fa1' := hg.stays fa1
  have fa2' := hg.stays fa2
  have fa3' := hg.stays fa3
  have fa4' := hg.stays fa4
  have fb0' := hg.stays fb0
  have fb1' := hg.stays fb1
  have fb2' := hg.stays fb2
  have fb3' := hg.stays fb3
  have fb4' := hg.stays fb4
  have fra0' := hg.stays fra0
  have fra1' := hg.stays fra1
  have frb0' := hg.stays frb0
  have frb1' := hg.stays frb1
  have fla0' := hg.stays fla0
  have flb0' := hg.stays flb0
  clear hG hg fa0 fa1 fa2 fa3 fa4 fb0 fb1 fb2 fb3 fb4 fra0 fra1 frb0 frb1 fla0 flb0
  have hG := hG'
  have fa0 := fa0'
  have fa1 := fa1'
  have fa2 := fa2'
  have fa3 := fa3'
  have fa4 := fa4'
  have fb0 := fb0'
  have fb1 := fb1'
  have fb2 := fb2'
  have fb3 := fb3'
  have fb4 := fb4'
  have fra0 := fra0'
  have fra1 := fra1'
  have frb0 := frb0'
  have frb1 := frb1'
  have fla0 := fla0'
  have flb0 := flb0'
  clear hG' fa0' fa1' fa2' fa3' fa4' fb0' fb1' fb2' fb3' fb4' fra0' fra1' frb0' frb1' fla0' flb0'
  go_wp2_with fail
  refine (same_mm_x _ _ _ _ _ _ hx).mono ?_
  rintro e v2 ⟨rfl, hg⟩
  have hG' := hG.trans hg
  have fa0' := hg.stays fa0
  have fa1' := hg.stays fa1
  have fa2' := hg.stays fa2
  have fa3' := hg.stays fa3
  have fa4' := hg.stays fa4
  have fb0' := hg.stays fb0
  have fb1' := hg.stays fb1
  have fb2' := hg.stays fb2
  have fb3' := hg.stays fb3
  have fb4' := hg.stays fb4
  have fra0' := hg.stays fra0
  have fra1' := hg.stays fra1
  have frb0' := hg.stays frb0
  have frb1' := hg.stays frb1
  have fla0' := hg.stays fla0
  have flb0' := hg.stays flb0
  clear hG hg fa0 fa1 fa2 fa3 fa4 fb0 fb1 fb2 fb3 fb4 fra0 fra1 frb0 frb1 fla0 flb0
  have hG := hG'
  have fa0 := fa0'
  have fa1 := fa1'
  have fa2 := fa2'
  have fa3 := fa3'
  have fa4 := fa4'
  have fb0 := fb0'
  have fb1 := fb1'
  have fb2 := fb2'
  have fb3 := fb3'
  have fb4 := fb4'
  have fra0 := fra0'
  have fra1 := fra1'
  have frb0 := frb0'
  have frb1 := frb1'
  have fla0 := fla0'
  have flb0 := flb0'
  clear hG' fa0' fa1' fa2' fa3' fa4' fb0' fb1' fb2' fb3' fb4' fra0' fra1' frb0' frb1' fla0' flb0'
  go_wp2_with fail
  refine (same_ll_x _ _ _ _ hx).mono ?_
  rintro e v3 ⟨rfl, hg⟩
  have hG' := hG.trans hg
  have fa0' := hg.stays fa0
  have fa1' := hg.stays fa1
  have fa2' := hg.stays fa2
  have fa3' := hg.stays fa3
  have fa4' := hg.stays fa4
  have fb0' := hg.stays fb0
  have fb1' := hg.stays fb1
  have fb2' := hg.stays fb2
  have fb3' := hg.stays fb3
  have fb4' := hg.stays fb4
  have fra0' := hg.stays fra0
  have fra1' := hg.stays fra1
  have frb0' := hg.stays frb0
  have frb1' := hg.stays frb1
  have fla0' := hg.stays fla0
  have flb0' := hg.stays flb0
  clear hG hg fa0 fa1 fa2 fa3 fa4 fb0 fb1 fb2 fb3 fb4 fra0 fra1 frb0 frb1 fla0 flb0
  have hG := hG'
  have fa0 := fa0'
  have fa1 := fa1'
  have fa2 := fa2'
  have fa3 := fa3'
  have fa4 := fa4'
  have fb0 := fb0'
  have fb1 := fb1'
  have fb2 := fb2'
  have fb3 := fb3'
  have fb4 := fb4'
  have fra0 := fra0'
  have fra1 := fra1'
  have frb0 := frb0'
  have frb1 := frb1'
  have fla0 := fla0'
  have flb0 := flb0'
  clear hG' fa0' fa1' fa2' fa3' fa4' fb0' fb1' fb2' fb3' fb4' fra0' fra1' frb0' frb1' fla0' flb0'
  go_wp2_with fail
  go_ret
  exact ⟨rfl, hG⟩

set_option maxRecDepth 100000 in
set_option maxHeartbeats 4000000 in
theorem two_eq (a0 a1 a2 a3 a4 a5 a6 a7 a8 a9 : ByteArray) (w : World) (b0 : a0.size ≤ 65536) (b1 : a1.size ≤ 65536) (b2 : a2.size ≤ 65536) (b3 : a3.size ≤ 65536) (b4 : a4.size ≤ 65536) (b5 : a5.size ≤ 65536) (b6 : a6.size ≤ 65536) (b7 : a7.size ≤ 65536) (b8 : a8.size ≤ 65536) (b9 : a9.size ≤ 65536) (s0 : hasSl a0 = false) (s1 : hasSl a1 = false) (s2 : hasSl a2 = false) (s3 : hasSl a3 = false) (s5 : hasSl a5 = false) (s6 : hasSl a6 = false) (s7 : hasSl a7 = false) (s8 : hasSl a8 = false) (e0 : (a0.toList == a5.toList) = true) (e1 : (a1.toList == a6.toList) = true) (e2 : (a2.toList == a7.toList) = true) (e3 : (a3.toList == a8.toList) = true) (hx : eqS (pkgS a0 a1 a2 a3) (pkgS a5 a6 a7 a8) = true) (hy : eqS (pkgS a5 a6 a7 a8) (pkgS a0 a1 a2 a3) = true) :
    Calls Try.prog 4 #[.string a0, .string a1, .string a2, .string a3, .string a4, .string a5, .string a6, .string a7, .string a8, .string a9] w fun e w' => e = .returned (.bool true) ∧ Gr w w' := by
  go_enter Try.func4, Try.ntmps4
  go_wp2_with fail
  refine (bytes10_any _ _ _ _ _ _ _ _ _ _ _ (by unfold maxLen; omega) (by unfold maxLen; omega) (by unfold maxLen; omega) (by unfold maxLen; omega) (by unfold maxLen; omega) (by unfold maxLen; omega) (by unfold maxLen; omega) (by unfold maxLen; omega) (by unfold maxLen; omega) (by unfold maxLen; omega)).mono ?_
  rintro e w1 ⟨b, rfl, hw1⟩
  subst hw1
  cases b
  · go_wp2_with fail
    go_ret
    exact ⟨rfl, Gr.refl _⟩
  go_wp2_with fail
  refine (slash_any _ _ (by unfold maxLen; omega)).mono ?_
  rw [s0]
  rintro e w2 ⟨rfl, hw2⟩
  subst hw2
  go_wp2_with fail
  refine (slash_any _ _ (by unfold maxLen; omega)).mono ?_
  rw [s1]
  rintro e w2 ⟨rfl, hw2⟩
  subst hw2
  go_wp2_with fail
  refine (slash_any _ _ (by unfold maxLen; omega)).mono ?_
  rw [s2]
  rintro e w2 ⟨rfl, hw2⟩
  subst hw2
  go_wp2_with fail
  refine (slash_any _ _ (by unfold maxLen; omega)).mono ?_
  rw [s3]
  rintro e w2 ⟨rfl, hw2⟩
  subst hw2
  go_wp2_with fail
  refine (slash_any _ _ (by unfold maxLen; omega)).mono ?_
  rw [s5]
  rintro e w2 ⟨rfl, hw2⟩
  subst hw2
  go_wp2_with fail
  refine (slash_any _ _ (by unfold maxLen; omega)).mono ?_
  rw [s6]
  rintro e w2 ⟨rfl, hw2⟩
  subst hw2
  go_wp2_with fail
  refine (slash_any _ _ (by unfold maxLen; omega)).mono ?_
  rw [s7]
  rintro e w2 ⟨rfl, hw2⟩
  subst hw2
  go_wp2_with fail
  refine (slash_any _ _ (by unfold maxLen; omega)).mono ?_
  rw [s8]
  rintro e w2 ⟨rfl, hw2⟩
  subst hw2
  go_wp2_with fail
  clear s0 s1 s2 s3 s5 s6 s7 s8
  have hG : Gr w2 ((w2.alloc (.cells #[.string a0, .string a1, .string a2, .string a3, .string a4] 24)).alloc (.cells #[.string a5, .string a6, .string a7, .string a8, .string a9] 24)) := ((Gr.refl w2).alloc _ _).alloc _ _
  have fa0 : ((w2.alloc (.cells #[.string a0, .string a1, .string a2, .string a3, .string a4] 24)).alloc (.cells #[.string a5, .string a6, .string a7, .string a8, .string a9] 24)).cell? ⟨w2.heap.size, 0, none⟩ = some (.string a0) := by simp [go_sem]
  have fa1 : ((w2.alloc (.cells #[.string a0, .string a1, .string a2, .string a3, .string a4] 24)).alloc (.cells #[.string a5, .string a6, .string a7, .string a8, .string a9] 24)).cell? ⟨w2.heap.size, 1, none⟩ = some (.string a1) := by simp [go_sem]
  have fa2 : ((w2.alloc (.cells #[.string a0, .string a1, .string a2, .string a3, .string a4] 24)).alloc (.cells #[.string a5, .string a6, .string a7, .string a8, .string a9] 24)).cell? ⟨w2.heap.size, 2, none⟩ = some (.string a2) := by simp [go_sem]
  have fa3 : ((w2.alloc (.cells #[.string a0, .string a1, .string a2, .string a3, .string a4] 24)).alloc (.cells #[.string a5, .string a6, .string a7, .string a8, .string a9] 24)).cell? ⟨w2.heap.size, 3, none⟩ = some (.string a3) := by simp [go_sem]
  have fa4 : ((w2.alloc (.cells #[.string a0, .string a1, .string a2, .string a3, .string a4] 24)).alloc (.cells #[.string a5, .string a6, .string a7, .string a8, .string a9] 24)).cell? ⟨w2.heap.size, 4, none⟩ = some (.string a4) := by simp [go_sem]
  have fb0 : ((w2.alloc (.cells #[.string a0, .string a1, .string a2, .string a3, .string a4] 24)).alloc (.cells #[.string a5, .string a6, .string a7, .string a8, .string a9] 24)).cell? ⟨w2.heap.size + 1, 0, none⟩ = some (.string a5) := by simp [go_sem]
  have fb1 : ((w2.alloc (.cells #[.string a0, .string a1, .string a2, .string a3, .string a4] 24)).alloc (.cells #[.string a5, .string a6, .string a7, .string a8, .string a9] 24)).cell? ⟨w2.heap.size + 1, 1, none⟩ = some (.string a6) := by simp [go_sem]
  have fb2 : ((w2.alloc (.cells #[.string a0, .string a1, .string a2, .string a3, .string a4] 24)).alloc (.cells #[.string a5, .string a6, .string a7, .string a8, .string a9] 24)).cell? ⟨w2.heap.size + 1, 2, none⟩ = some (.string a7) := by simp [go_sem]
  have fb3 : ((w2.alloc (.cells #[.string a0, .string a1, .string a2, .string a3, .string a4] 24)).alloc (.cells #[.string a5, .string a6, .string a7, .string a8, .string a9] 24)).cell? ⟨w2.heap.size + 1, 3, none⟩ = some (.string a8) := by simp [go_sem]
  have fb4 : ((w2.alloc (.cells #[.string a0, .string a1, .string a2, .string a3, .string a4] 24)).alloc (.cells #[.string a5, .string a6, .string a7, .string a8, .string a9] 24)).cell? ⟨w2.heap.size + 1, 4, none⟩ = some (.string a9) := by simp [go_sem]
  refine (package_any _ _ _ _ _ _ b0 b1 b2 b3).mono ?_
  rintro e u0 ⟨rfl, hg⟩
  have hG' : Gr w2 (u0.alloc (.cells #[.string (pkgS a0 a1 a2 a3), .string a4] 26)) := (hG.trans hg).alloc _ _
  have hg' : Gr ((w2.alloc (.cells #[.string a0, .string a1, .string a2, .string a3, .string a4] 24)).alloc (.cells #[.string a5, .string a6, .string a7, .string a8, .string a9] 24)) (u0.alloc (.cells #[.string (pkgS a0 a1 a2 a3), .string a4] 26)) := hg.alloc _ _
  have fa0' := hg'.stays fa0
  have fa1' := hg'.stays fa1
  have fa2' := hg'.stays fa2
  have fa3' := hg'.stays fa3
  have fa4' := hg'.stays fa4
  have fb0' := hg'.stays fb0
  have fb1' := hg'.stays fb1
  have fb2' := hg'.stays fb2
  have fb3' := hg'.stays fb3
  have fb4' := hg'.stays fb4
  clear hG hg hg' fa0 fa1 fa2 fa3 fa4 fb0 fb1 fb2 fb3 fb4
  have hG := hG'
  have fa0 := fa0'
  have fa1 := fa1'
  have fa2 := fa2'
  have fa3 := fa3'
  have fa4 := fa4'
  have fb0 := fb0'
  have fb1 := fb1'
  have fb2 := fb2'
  have fb3 := fb3'
  have fb4 := fb4'
  clear hG' fa0' fa1' fa2' fa3' fa4' fb0' fb1' fb2' fb3' fb4'
  have fra0 : (u0.alloc (.cells #[.string (pkgS a0 a1 a2 a3), .string a4] 26)).cell? ⟨u0.heap.size, 0, none⟩ = some (.string (pkgS a0 a1 a2 a3)) := by simp [go_sem]
  have fra1 : (u0.alloc (.cells #[.string (pkgS a0 a1 a2 a3), .string a4] 26)).cell? ⟨u0.heap.size, 1, none⟩ = some (.string a4) := by simp [go_sem]
  go_wp2_with fail
  refine (package_any _ _ _ _ _ _ b5 b6 b7 b8).mono ?_
  rintro e u1 ⟨rfl, hg⟩
  have hG' : Gr w2 (u1.alloc (.cells #[.string (pkgS a5 a6 a7 a8), .string a9] 26)) := (hG.trans hg).alloc _ _
  have hg' : Gr (u0.alloc (.cells #[.string (pkgS a0 a1 a2 a3), .string a4] 26)) (u1.alloc (.cells #[.string (pkgS a5 a6 a7 a8), .string a9] 26)) := hg.alloc _ _
  have fa0' := hg'.stays fa0
  have fa1' := hg'.stays fa1
  have fa2' := hg'.stays fa2
  have fa3' := hg'.stays fa3
  have fa4' := hg'.stays fa4
  have fb0' := hg'.stays fb0
  have fb1' := hg'.stays fb1
  have fb2' := hg'.stays fb2
  have fb3' := hg'.stays fb3
  have fb4' := hg'.stays fb4
  have fra0' := hg'.stays fra0
  have fra1' := hg'.stays fra1
  clear hG hg hg' fa0 fa1 fa2 fa3 fa4 fb0 fb1 fb2 fb3 fb4 fra0 fra1
  have hG := hG'
  have fa0 := fa0'
  have fa1 := fa1'
  have fa2 := fa2'
  have fa3 := fa3'
  have fa4 := fa4'
  have fb0 := fb0'
  have fb1 := fb1'
  have fb2 := fb2'
  have fb3 := fb3'
  have fb4 := fb4'
  have fra0 := fra0'
  have fra1 := fra1'
  clear hG' fa0' fa1' fa2' fa3' fa4' fb0' fb1' fb2' fb3' fb4' fra0' fra1'
  have frb0 : (u1.alloc (.cells #[.string (pkgS a5 a6 a7 a8), .string a9] 26)).cell? ⟨u1.heap.size, 0, none⟩ = some (.string (pkgS a5 a6 a7 a8)) := by simp [go_sem]
  have frb1 : (u1.alloc (.cells #[.string (pkgS a5 a6 a7 a8), .string a9] 26)).cell? ⟨u1.heap.size, 1, none⟩ = some (.string a9) := by simp [go_sem]
  go_wp2_with fail
  refine (package_any _ _ _ _ _ _ b0 b1 b2 b3).mono ?_
  rintro e u2 ⟨rfl, hg⟩
  have hG' : Gr w2 (u2.alloc (.cells #[.string (pkgS a0 a1 a2 a3)] 28)) := (hG.trans hg).alloc _ _
  have hg' : Gr (u1.alloc (.cells #[.string (pkgS a5 a6 a7 a8), .string a9] 26)) (u2.alloc (.cells #[.string (pkgS a0 a1 a2 a3)] 28)) := hg.alloc _ _
  have fa0' := hg'.stays fa0
  have fa1' := hg'.stays fa1
  have fa2' := hg'.stays fa2
  have fa3' := hg'.stays fa3
  have fa4' := hg'.stays fa4
  have fb0' := hg'.stays fb0
  have fb1' := hg'.stays fb1
  have fb2' := hg'.stays fb2
  have fb3' := hg'.stays fb3
  have fb4' := hg'.stays fb4
  have fra0' := hg'.stays fra0
  have fra1' := hg'.stays fra1
  have frb0' := hg'.stays frb0
  have frb1' := hg'.stays frb1
  clear hG hg hg' fa0 fa1 fa2 fa3 fa4 fb0 fb1 fb2 fb3 fb4 fra0 fra1 frb0 frb1
  have hG := hG'
  have fa0 := fa0'
  have fa1 := fa1'
  have fa2 := fa2'
  have fa3 := fa3'
  have fa4 := fa4'
  have fb0 := fb0'
  have fb1 := fb1'
  have fb2 := fb2'
  have fb3 := fb3'
  have fb4 := fb4'
  have fra0 := fra0'
  have fra1 := fra1'
  have frb0 := frb0'
  have frb1 := frb1'
  clear hG' fa0' fa1' fa2' fa3' fa4' fb0' fb1' fb2' fb3' fb4' fra0' fra1' frb0' frb1'
  have fla0 : (u2.alloc (.cells #[.string (pkgS a0 a1 a2 a3)] 28)).cell? ⟨u2.heap.size, 0, none⟩ = some (.string (pkgS a0 a1 a2 a3)) := by simp [go_sem]
  go_wp2_with fail
  refine (package_any _ _ _ _ _ _ b5 b6 b7 b8).mono ?_
  rintro e u3 ⟨rfl, hg⟩
  have hG' : Gr w2 (u3.alloc (.cells #[.string (pkgS a5 a6 a7 a8)] 28)) := (hG.trans hg).alloc _ _
  have hg' : Gr (u2.alloc (.cells #[.string (pkgS a0 a1 a2 a3)] 28)) (u3.alloc (.cells #[.string (pkgS a5 a6 a7 a8)] 28)) := hg.alloc _ _
  have fa0' := hg'.stays fa0
  have fa1' := hg'.stays fa1
  have fa2' := hg'.stays fa2
  have fa3' := hg'.stays fa3
  have fa4' := hg'.stays fa4
  have fb0' := hg'.stays fb0
  have fb1' := hg'.stays fb1
  have fb2' := hg'.stays fb2
  have fb3' := hg'.stays fb3
  have fb4' := hg'.stays fb4
  have fra0' := hg'.stays fra0
  have fra1' := hg'.stays fra1
  have frb0' := hg'.stays frb0
  have frb1' := hg'.stays frb1
  have fla0' := hg'.stays fla0
  clear hG hg hg' fa0 fa1 fa2 fa3 fa4 fb0 fb1 fb2 fb3 fb4 fra0 fra1 frb0 frb1 fla0
  have hG := hG'
  have fa0 := fa0'
  have fa1 := fa1'
  have fa2 := fa2'
  have fa3 := fa3'
  have fa4 := fa4'
  have fb0 := fb0'
  have fb1 := fb1'
  have fb2 := fb2'
  have fb3 := fb3'
  have fb4 := fb4'
  have fra0 := fra0'
  have fra1 := fra1'
  have frb0 := frb0'
  have frb1 := frb1'
  have fla0 := fla0'
  clear hG' fa0' fa1' fa2' fa3' fa4' fb0' fb1' fb2' fb3' fb4' fra0' fra1' frb0' frb1' fla0'
  have flb0 : (u3.alloc (.cells #[.string (pkgS a5 a6 a7 a8)] 28)).cell? ⟨u3.heap.size, 0, none⟩ = some (.string (pkgS a5 a6 a7 a8)) := by simp [go_sem]
  go_wp2_with fail
  refine (same_rr_x _ _ _ _ _ _ _ _ _ _ _ b0 b1 b2 b3 b5 b6 b7 b8 _ hx).mono ?_
  rintro e v0 ⟨rfl, hg⟩
  have hG' := hG.trans hg
  have fa0' := hg.stays fa0
  have fa1' := hg.stays fa1
  have fa2' := hg.stays fa2
  have fa3' := hg.stays fa3
  have fa4' := hg.stays fa4
  have fb0' := hg.stays fb0
  have fb1' := hg.stays fb1
  have fb2' := hg.stays fb2
  have fb3' := hg.stays fb3
  have fb4' := hg.stays fb4
  have fra0' := hg.stays fra0
  have fra1' := hg.stays fra1
  have frb0' := hg.stays frb0
  have frb1' := hg.stays frb1
  have fla0' := hg.stays fla0
  have flb0' := hg.stays flb0
  clear hG hg fa0 fa1 fa2 fa3 fa4 fb0 fb1 fb2 fb3 fb4 fra0 fra1 frb0 frb1 fla0 flb0
  have hG := hG'
  have fa0 := fa0'
  have fa1 := fa1'
  have fa2 := fa2'
  have fa3 := fa3'
  have fa4 := fa4'
  have fb0 := fb0'
  have fb1 := fb1'
  have fb2 := fb2'
  have fb3 := fb3'
  have fb4 := fb4'
  have fra0 := fra0'
  have fra1 := fra1'
  have frb0 := frb0'
  have frb1 := frb1'
  have fla0 := fla0'
  have flb0 := flb0'
  clear hG' fa0' fa1' fa2' fa3' fa4' fb0' fb1' fb2' fb3' fb4' fra0' fra1' frb0' frb1' fla0' flb0'
  go_wp2_with fail
  refine (same_rr_x _ _ _ _ _ _ _ _ _ _ _ b5 b6 b7 b8 b0 b1 b2 b3 _ hy).mono ?_
  rintro e v1 ⟨rfl, hg⟩
  have hG' := hG.trans hg
  have fa0' := hg.stays fa0
  have fa1' := hg.stays fa1
  have fa2' := hg.stays fa2
  have fa3' := hg.stays fa3
  have fa4' := hg.stays fa4
  have fb0' := hg.stays fb0
  have fb1' := hg.stays fb1
  have fb2' := hg.stays fb2
  have fb3' := hg.stays fb3
  have fb4' := hg.stays fb4
  have fra0' := hg.stays fra0
  have fra1' := hg.stays fra1
  have frb0' := hg.stays frb0
  have frb1' := hg.stays frb1
  have fla0' := hg.stays fla0
  have flb0' := hg.stays flb0
  clear hG hg fa0 fa1 fa2 fa3 fa4 fb0 fb1 fb2 fb3 fb4 fra0 fra1 frb0 frb1 fla0 flb0
  have hG := hG'
  have fa0 := fa0'
  have fa1 := fa1'
  have fa2 := fa2'
  have fa3 := fa3'
  have fa4 := fa4'
  have fb0 := fb0'
  have fb1 := fb1'
  have fb2 := fb2'
  have fb3 := fb3'
  have fb4 := fb4'
  have fra0 := fra0'
  have fra1 := fra1'
  have frb0 := frb0'
  have frb1 := frb1'
  have fla0 := fla0'
  have flb0 := flb0'
  clear hG' fa0' fa1' fa2' fa3' fa4' fb0' fb1' fb2' fb3' fb4' fra0' fra1' frb0' frb1' fla0' flb0'
  go_wp2_with fail
  refine (same_mm_x _ _ _ _ _ _ hx).mono ?_
  rintro e v2 ⟨rfl, hg⟩
  have hG' := hG.trans hg
  have fa0' := hg.stays fa0
  have fa1' := hg.stays fa1
  have fa2' := hg.stays fa2
  have fa3' := hg.stays fa3
  have fa4' := hg.stays fa4
  have fb0' := hg.stays fb0
  have fb1' := hg.stays fb1
  have fb2' := hg.stays fb2
  have fb3' := hg.stays fb3
  have fb4' := hg.stays fb4
  have fra0' := hg.stays fra0
  have fra1' := hg.stays fra1
  have frb0' := hg.stays frb0
  have frb1' := hg.stays frb1
  have fla0' := hg.stays fla0
  have flb0' := hg.stays flb0
  clear hG hg fa0 fa1 fa2 fa3 fa4 fb0 fb1 fb2 fb3 fb4 fra0 fra1 frb0 frb1 fla0 flb0
  have hG := hG'
  have fa0 := fa0'
  have fa1 := fa1'
  have fa2 := fa2'
  have fa3 := fa3'
  have fa4 := fa4'
  have fb0 := fb0'
  have fb1 := fb1'
  have fb2 := fb2'
  have fb3 := fb3'
  have fb4 := fb4'
  have fra0 := fra0'
  have fra1 := fra1'
  have frb0 := frb0'
  have frb1 := frb1'
  have fla0 := fla0'
  have flb0 := flb0'
  clear hG' fa0' fa1' fa2' fa3' fa4' fb0' fb1' fb2' fb3' fb4' fra0' fra1' frb0' frb1' fla0' flb0'
  go_wp2_with fail
  refine (same_ll_x _ _ _ _ hx).mono ?_
  rintro e v3 ⟨rfl, hg⟩
  have hG' := hG.trans hg
  have fa0' := hg.stays fa0
  have fa1' := hg.stays fa1
  have fa2' := hg.stays fa2
  have fa3' := hg.stays fa3
  have fa4' := hg.stays fa4
  have fb0' := hg.stays fb0
  have fb1' := hg.stays fb1
  have fb2' := hg.stays fb2
  have fb3' := hg.stays fb3
  have fb4' := hg.stays fb4
  have fra0' := hg.stays fra0
  have fra1' := hg.stays fra1
  have frb0' := hg.stays frb0
  have frb1' := hg.stays frb1
  have fla0' := hg.stays fla0
  have flb0' := hg.stays flb0
  clear hG hg fa0 fa1 fa2 fa3 fa4 fb0 fb1 fb2 fb3 fb4 fra0 fra1 frb0 frb1 fla0 flb0
  have hG := hG'
  have fa0 := fa0'
  have fa1 := fa1'
  have fa2 := fa2'
  have fa3 := fa3'
  have fa4 := fa4'
  have fb0 := fb0'
  have fb1 := fb1'
  have fb2 := fb2'
  have fb3 := fb3'
  have fb4 := fb4'
  have fra0 := fra0'
  have fra1 := fra1'
  have frb0 := frb0'
  have frb1 := frb1'
  have fla0 := fla0'
  have flb0 := flb0'
  clear hG' fa0' fa1' fa2' fa3' fa4' fb0' fb1' fb2' fb3' fb4' fra0' fra1' frb0' frb1' fla0' flb0'
  go_wp2_with fail
  go_ret
  exact ⟨rfl, hG⟩

end Go.Proofs.Qxb6625893a
