import Derived.Test.Qxb6625893aSp
import Derived.Test.Qxb6625893aBy
namespace Go.Proofs.Qxb6625893a
open Go.RowKit

/-- what the eight locals of the law hold -/
structure St (n m : Nat) (a0 a1 a2 a3 a4 a5 a6 a7 ad : ByteArray) (w : World) : Prop where
  f00 : w.cell? ⟨n, 0, none⟩ = some (.string a0)
  f01 : w.cell? ⟨n, 1, none⟩ = some (.string a1)
  f02 : w.cell? ⟨n, 2, none⟩ = some (.string a2)
  f03 : w.cell? ⟨n, 3, none⟩ = some (.string a3)
  f04 : w.cell? ⟨n, 4, none⟩ = some (.string a4)
  f10 : w.cell? ⟨n + 1, 0, none⟩ = some (.string a0)
  f11 : w.cell? ⟨n + 1, 1, none⟩ = some (.string a1)
  f12 : w.cell? ⟨n + 1, 2, none⟩ = some (.string a2)
  f13 : w.cell? ⟨n + 1, 3, none⟩ = some (.string a3)
  f14 : w.cell? ⟨n + 1, 4, none⟩ = some (.string a5)
  f20 : w.cell? ⟨n + 1 + 1, 0, none⟩ = some (.string a6)
  f21 : w.cell? ⟨n + 1 + 1, 1, none⟩ = some (.string a4)
  f30 : w.cell? ⟨n + 1 + 1 + 1, 0, none⟩ = some (.string a6)
  f31 : w.cell? ⟨n + 1 + 1 + 1, 1, none⟩ = some (.string a5)
  f40 : w.cell? ⟨n + 1 + 1 + 1 + 1, 0, none⟩ = some (.string a7)
  f50 : w.cell? ⟨m, 0, none⟩ = some (.string ad)
  f51 : w.cell? ⟨m, 1, none⟩ = some (.string a4)
  f60 : w.cell? ⟨m + 1, 0, none⟩ = some (.string ad)
  f70 : w.cell? ⟨m + 1 + 1, 0, none⟩ = some (.string a7)
  f71 : w.cell? ⟨m + 1 + 1, 1, none⟩ = some (.string ⟨#[]⟩)

theorem Gr.held {w w' : World} (h : Gr w w') {a : Addr} {v : Value} (hc : w.cell? a = some v) : w'.cell? a = some v := cell_later h.below hc

theorem St.keep {n m : Nat} {a0 a1 a2 a3 a4 a5 a6 a7 ad : ByteArray} {w w' : World} (s : St n m a0 a1 a2 a3 a4 a5 a6 a7 ad w) (h : Gr w w') : St n m a0 a1 a2 a3 a4 a5 a6 a7 ad w' :=
  ⟨h.held s.f00, h.held s.f01, h.held s.f02, h.held s.f03, h.held s.f04, h.held s.f10, h.held s.f11, h.held s.f12, h.held s.f13, h.held s.f14, h.held s.f20, h.held s.f21, h.held s.f30, h.held s.f31, h.held s.f40, h.held s.f50, h.held s.f51, h.held s.f60, h.held s.f70, h.held s.f71⟩

theorem st_first (a0 a1 a2 a3 a4 a5 a6 a7 ad : ByteArray) (w w2 : World) (hg : Gr (((((w.alloc (.cells #[.string a0, .string a1, .string a2, .string a3, .string a4] 24)).alloc (.cells #[.string a0, .string a1, .string a2, .string a3, .string a5] 24)).alloc (.cells #[.string a6, .string a4] 26)).alloc (.cells #[.string a6, .string a5] 26)).alloc (.cells #[.string a7] 28)) w2) : St w.heap.size w2.heap.size a0 a1 a2 a3 a4 a5 a6 a7 ad (((w2.alloc (.cells #[.string ad, .string a4] 26)).alloc (.cells #[.string ad] 28)).alloc (.cells #[.string a7, .string ⟨#[]⟩] 26)) := by
  have g3 : Gr w2 (((w2.alloc (.cells #[.string ad, .string a4] 26)).alloc (.cells #[.string ad] 28)).alloc (.cells #[.string a7, .string ⟨#[]⟩] 26)) := (((Gr.refl w2).alloc _ _).alloc _ _).alloc _ _
  constructor
  case f50 => simp [go_sem]
  case f51 => simp [go_sem]
  case f60 => simp [go_sem]
  case f70 => simp [go_sem]
  case f71 => simp [go_sem]
  all_goals
    refine g3.held (hg.held ?_)
    simp [go_sem]

theorem gr_first (a0 a1 a2 a3 a4 a5 a6 a7 ad : ByteArray) (w w2 : World) (hg : Gr (((((w.alloc (.cells #[.string a0, .string a1, .string a2, .string a3, .string a4] 24)).alloc (.cells #[.string a0, .string a1, .string a2, .string a3, .string a5] 24)).alloc (.cells #[.string a6, .string a4] 26)).alloc (.cells #[.string a6, .string a5] 26)).alloc (.cells #[.string a7] 28)) w2) : Gr w (((w2.alloc (.cells #[.string ad, .string a4] 26)).alloc (.cells #[.string ad] 28)).alloc (.cells #[.string a7, .string ⟨#[]⟩] 26)) :=
  ((((((((((Gr.refl w).alloc _ _).alloc _ _).alloc _ _).alloc _ _).alloc _ _).trans hg)).alloc _ _).alloc _ _).alloc _ _

set_option maxRecDepth 100000 in
set_option maxHeartbeats 4000000 in
theorem one_all (a0 a1 a2 a3 a4 a5 a6 a7 : ByteArray) (w : World) (b0 : a0.size ≤ 65536) (b1 : a1.size ≤ 65536) (b2 : a2.size ≤ 65536) (b3 : a3.size ≤ 65536) (b4 : a4.size ≤ 65536) (b5 : a5.size ≤ 65536) (b6 : a6.size ≤ 65536) (b7 : a7.size ≤ 65536) :
    Calls Try.prog 3 #[.string a0, .string a1, .string a2, .string a3, .string a4, .string a5, .string a6, .string a7] w fun e w' => e = .returned (.bool true) ∧ Gr w w' := by
  go_enter Try.func3, Try.ntmps3
  go_wp2_with fail
  refine (bytes8_any _ _ _ _ _ _ _ _ _ (by unfold maxLen; omega) (by unfold maxLen; omega) (by unfold maxLen; omega) (by unfold maxLen; omega) (by unfold maxLen; omega) (by unfold maxLen; omega) (by unfold maxLen; omega) (by unfold maxLen; omega)).mono ?_
  rintro e w1 ⟨b, rfl, hw1⟩
  subst hw1
  cases b
  · go_wp2_with fail
    go_ret
    exact ⟨rfl, Gr.refl _⟩
  go_wp2_with fail
  refine (package_any _ _ _ _ _ _ (by assumption) (by assumption) (by assumption) (by assumption)).mono ?_
  rintro e w2 ⟨rfl, hg⟩
  obtain ⟨f00, f01, f02, f03, f04, f10, f11, f12, f13, f14, f20, f21, f30, f31, f40, f50, f51, f60, f70, f71⟩ := st_first a0 a1 a2 a3 a4 a5 a6 a7 (pkgS a0 a1 a2 a3) w1 w2 hg
  have hG := gr_first a0 a1 a2 a3 a4 a5 a6 a7 (pkgS a0 a1 a2 a3) w1 w2 hg
  clear hg
  go_wp2_with fail
  refine (same_rr_t _ _ _ _ _ _ _ b0 b1 b2 b3).mono ?_
  rintro e v0 ⟨rfl, hg⟩
  have hG0 := hG.trans hg
  have st := St.keep (⟨f00, f01, f02, f03, f04, f10, f11, f12, f13, f14, f20, f21, f30, f31, f40, f50, f51, f60, f70, f71⟩ : St w1.heap.size w2.heap.size a0 a1 a2 a3 a4 a5 a6 a7 (pkgS a0 a1 a2 a3) _) hg
  clear hG hg f00 f01 f02 f03 f04 f10 f11 f12 f13 f14 f20 f21 f30 f31 f40 f50 f51 f60 f70 f71
  obtain ⟨f00, f01, f02, f03, f04, f10, f11, f12, f13, f14, f20, f21, f30, f31, f40, f50, f51, f60, f70, f71⟩ := st
  go_wp2_with fail
  refine (same_rr_t _ _ _ _ _ _ _ b0 b1 b2 b3).mono ?_
  rintro e v1 ⟨rfl, hg⟩
  have hG1 := hG0.trans hg
  have st := St.keep (⟨f00, f01, f02, f03, f04, f10, f11, f12, f13, f14, f20, f21, f30, f31, f40, f50, f51, f60, f70, f71⟩ : St w1.heap.size w2.heap.size a0 a1 a2 a3 a4 a5 a6 a7 (pkgS a0 a1 a2 a3) _) hg
  clear hG0 hg f00 f01 f02 f03 f04 f10 f11 f12 f13 f14 f20 f21 f30 f31 f40 f50 f51 f60 f70 f71
  obtain ⟨f00, f01, f02, f03, f04, f10, f11, f12, f13, f14, f20, f21, f30, f31, f40, f50, f51, f60, f70, f71⟩ := st
  go_wp2_with fail
  refine (same_mm_t _ _ _ _).mono ?_
  rintro e v2 ⟨rfl, hg⟩
  have hG2 := hG1.trans hg
  have st := St.keep (⟨f00, f01, f02, f03, f04, f10, f11, f12, f13, f14, f20, f21, f30, f31, f40, f50, f51, f60, f70, f71⟩ : St w1.heap.size w2.heap.size a0 a1 a2 a3 a4 a5 a6 a7 (pkgS a0 a1 a2 a3) _) hg
  clear hG1 hg f00 f01 f02 f03 f04 f10 f11 f12 f13 f14 f20 f21 f30 f31 f40 f50 f51 f60 f70 f71
  obtain ⟨f00, f01, f02, f03, f04, f10, f11, f12, f13, f14, f20, f21, f30, f31, f40, f50, f51, f60, f70, f71⟩ := st
  go_wp2_with fail
  refine (same_mm_t _ _ _ _).mono ?_
  rintro e v3 ⟨rfl, hg⟩
  have hG3 := hG2.trans hg
  have st := St.keep (⟨f00, f01, f02, f03, f04, f10, f11, f12, f13, f14, f20, f21, f30, f31, f40, f50, f51, f60, f70, f71⟩ : St w1.heap.size w2.heap.size a0 a1 a2 a3 a4 a5 a6 a7 (pkgS a0 a1 a2 a3) _) hg
  clear hG2 hg f00 f01 f02 f03 f04 f10 f11 f12 f13 f14 f20 f21 f30 f31 f40 f50 f51 f60 f70 f71
  obtain ⟨f00, f01, f02, f03, f04, f10, f11, f12, f13, f14, f20, f21, f30, f31, f40, f50, f51, f60, f70, f71⟩ := st
  go_wp2_with fail
  refine (same_ll_t _ _).mono ?_
  rintro e v4 ⟨rfl, hg⟩
  have hG4 := hG3.trans hg
  have st := St.keep (⟨f00, f01, f02, f03, f04, f10, f11, f12, f13, f14, f20, f21, f30, f31, f40, f50, f51, f60, f70, f71⟩ : St w1.heap.size w2.heap.size a0 a1 a2 a3 a4 a5 a6 a7 (pkgS a0 a1 a2 a3) _) hg
  clear hG3 hg f00 f01 f02 f03 f04 f10 f11 f12 f13 f14 f20 f21 f30 f31 f40 f50 f51 f60 f70 f71
  obtain ⟨f00, f01, f02, f03, f04, f10, f11, f12, f13, f14, f20, f21, f30, f31, f40, f50, f51, f60, f70, f71⟩ := st
  go_wp2_with fail
  refine (same_ll_t _ _).mono ?_
  rintro e v5 ⟨rfl, hg⟩
  have hG5 := hG4.trans hg
  have st := St.keep (⟨f00, f01, f02, f03, f04, f10, f11, f12, f13, f14, f20, f21, f30, f31, f40, f50, f51, f60, f70, f71⟩ : St w1.heap.size w2.heap.size a0 a1 a2 a3 a4 a5 a6 a7 (pkgS a0 a1 a2 a3) _) hg
  clear hG4 hg f00 f01 f02 f03 f04 f10 f11 f12 f13 f14 f20 f21 f30 f31 f40 f50 f51 f60 f70 f71
  obtain ⟨f00, f01, f02, f03, f04, f10, f11, f12, f13, f14, f20, f21, f30, f31, f40, f50, f51, f60, f70, f71⟩ := st
  go_wp2_with fail
  refine (same_rm _ _ _ _ _ _ _ _).mono ?_
  rintro e v6 ⟨rfl, hg⟩
  have hG6 := hG5.trans hg
  have st := St.keep (⟨f00, f01, f02, f03, f04, f10, f11, f12, f13, f14, f20, f21, f30, f31, f40, f50, f51, f60, f70, f71⟩ : St w1.heap.size w2.heap.size a0 a1 a2 a3 a4 a5 a6 a7 (pkgS a0 a1 a2 a3) _) hg
  clear hG5 hg f00 f01 f02 f03 f04 f10 f11 f12 f13 f14 f20 f21 f30 f31 f40 f50 f51 f60 f70 f71
  obtain ⟨f00, f01, f02, f03, f04, f10, f11, f12, f13, f14, f20, f21, f30, f31, f40, f50, f51, f60, f70, f71⟩ := st
  go_wp2_with fail
  refine (same_mr _ _ _ _ _ _ _ _).mono ?_
  rintro e v7 ⟨rfl, hg⟩
  have hG7 := hG6.trans hg
  have st := St.keep (⟨f00, f01, f02, f03, f04, f10, f11, f12, f13, f14, f20, f21, f30, f31, f40, f50, f51, f60, f70, f71⟩ : St w1.heap.size w2.heap.size a0 a1 a2 a3 a4 a5 a6 a7 (pkgS a0 a1 a2 a3) _) hg
  clear hG6 hg f00 f01 f02 f03 f04 f10 f11 f12 f13 f14 f20 f21 f30 f31 f40 f50 f51 f60 f70 f71
  obtain ⟨f00, f01, f02, f03, f04, f10, f11, f12, f13, f14, f20, f21, f30, f31, f40, f50, f51, f60, f70, f71⟩ := st
  go_wp2_with fail
  refine (same_rl _ _ _ _ _ _ _).mono ?_
  rintro e v8 ⟨rfl, hg⟩
  have hG8 := hG7.trans hg
  have st := St.keep (⟨f00, f01, f02, f03, f04, f10, f11, f12, f13, f14, f20, f21, f30, f31, f40, f50, f51, f60, f70, f71⟩ : St w1.heap.size w2.heap.size a0 a1 a2 a3 a4 a5 a6 a7 (pkgS a0 a1 a2 a3) _) hg
  clear hG7 hg f00 f01 f02 f03 f04 f10 f11 f12 f13 f14 f20 f21 f30 f31 f40 f50 f51 f60 f70 f71
  obtain ⟨f00, f01, f02, f03, f04, f10, f11, f12, f13, f14, f20, f21, f30, f31, f40, f50, f51, f60, f70, f71⟩ := st
  go_wp2_with fail
  refine (same_lr _ _ _ _ _ _ _).mono ?_
  rintro e v9 ⟨rfl, hg⟩
  have hG9 := hG8.trans hg
  have st := St.keep (⟨f00, f01, f02, f03, f04, f10, f11, f12, f13, f14, f20, f21, f30, f31, f40, f50, f51, f60, f70, f71⟩ : St w1.heap.size w2.heap.size a0 a1 a2 a3 a4 a5 a6 a7 (pkgS a0 a1 a2 a3) _) hg
  clear hG8 hg f00 f01 f02 f03 f04 f10 f11 f12 f13 f14 f20 f21 f30 f31 f40 f50 f51 f60 f70 f71
  obtain ⟨f00, f01, f02, f03, f04, f10, f11, f12, f13, f14, f20, f21, f30, f31, f40, f50, f51, f60, f70, f71⟩ := st
  go_wp2_with fail
  refine (same_ml _ _ _ _).mono ?_
  rintro e v10 ⟨rfl, hg⟩
  have hG10 := hG9.trans hg
  have st := St.keep (⟨f00, f01, f02, f03, f04, f10, f11, f12, f13, f14, f20, f21, f30, f31, f40, f50, f51, f60, f70, f71⟩ : St w1.heap.size w2.heap.size a0 a1 a2 a3 a4 a5 a6 a7 (pkgS a0 a1 a2 a3) _) hg
  clear hG9 hg f00 f01 f02 f03 f04 f10 f11 f12 f13 f14 f20 f21 f30 f31 f40 f50 f51 f60 f70 f71
  obtain ⟨f00, f01, f02, f03, f04, f10, f11, f12, f13, f14, f20, f21, f30, f31, f40, f50, f51, f60, f70, f71⟩ := st
  go_wp2_with fail
  refine (same_lm _ _ _ _).mono ?_
  rintro e v11 ⟨rfl, hg⟩
  have hG11 := hG10.trans hg
  have st := St.keep (⟨f00, f01, f02, f03, f04, f10, f11, f12, f13, f14, f20, f21, f30, f31, f40, f50, f51, f60, f70, f71⟩ : St w1.heap.size w2.heap.size a0 a1 a2 a3 a4 a5 a6 a7 (pkgS a0 a1 a2 a3) _) hg
  clear hG10 hg f00 f01 f02 f03 f04 f10 f11 f12 f13 f14 f20 f21 f30 f31 f40 f50 f51 f60 f70 f71
  obtain ⟨f00, f01, f02, f03, f04, f10, f11, f12, f13, f14, f20, f21, f30, f31, f40, f50, f51, f60, f70, f71⟩ := st
  go_wp2_with fail
  refine (same_lm _ _ _ _).mono ?_
  rintro e v12 ⟨rfl, hg⟩
  have hG12 := hG11.trans hg
  have st := St.keep (⟨f00, f01, f02, f03, f04, f10, f11, f12, f13, f14, f20, f21, f30, f31, f40, f50, f51, f60, f70, f71⟩ : St w1.heap.size w2.heap.size a0 a1 a2 a3 a4 a5 a6 a7 (pkgS a0 a1 a2 a3) _) hg
  clear hG11 hg f00 f01 f02 f03 f04 f10 f11 f12 f13 f14 f20 f21 f30 f31 f40 f50 f51 f60 f70 f71
  obtain ⟨f00, f01, f02, f03, f04, f10, f11, f12, f13, f14, f20, f21, f30, f31, f40, f50, f51, f60, f70, f71⟩ := st
  go_wp2_with fail
  refine (same_ml _ _ _ _).mono ?_
  rintro e v13 ⟨rfl, hg⟩
  have hG13 := hG12.trans hg
  have st := St.keep (⟨f00, f01, f02, f03, f04, f10, f11, f12, f13, f14, f20, f21, f30, f31, f40, f50, f51, f60, f70, f71⟩ : St w1.heap.size w2.heap.size a0 a1 a2 a3 a4 a5 a6 a7 (pkgS a0 a1 a2 a3) _) hg
  clear hG12 hg f00 f01 f02 f03 f04 f10 f11 f12 f13 f14 f20 f21 f30 f31 f40 f50 f51 f60 f70 f71
  obtain ⟨f00, f01, f02, f03, f04, f10, f11, f12, f13, f14, f20, f21, f30, f31, f40, f50, f51, f60, f70, f71⟩ := st
  go_wp2_with fail
  refine (same_mr _ _ _ _ _ _ _ _).mono ?_
  rintro e v14 ⟨rfl, hg⟩
  have hG14 := hG13.trans hg
  have st := St.keep (⟨f00, f01, f02, f03, f04, f10, f11, f12, f13, f14, f20, f21, f30, f31, f40, f50, f51, f60, f70, f71⟩ : St w1.heap.size w2.heap.size a0 a1 a2 a3 a4 a5 a6 a7 (pkgS a0 a1 a2 a3) _) hg
  clear hG13 hg f00 f01 f02 f03 f04 f10 f11 f12 f13 f14 f20 f21 f30 f31 f40 f50 f51 f60 f70 f71
  obtain ⟨f00, f01, f02, f03, f04, f10, f11, f12, f13, f14, f20, f21, f30, f31, f40, f50, f51, f60, f70, f71⟩ := st
  go_wp2_with fail
  refine (same_lr _ _ _ _ _ _ _).mono ?_
  rintro e v15 ⟨rfl, hg⟩
  have hG15 := hG14.trans hg
  have st := St.keep (⟨f00, f01, f02, f03, f04, f10, f11, f12, f13, f14, f20, f21, f30, f31, f40, f50, f51, f60, f70, f71⟩ : St w1.heap.size w2.heap.size a0 a1 a2 a3 a4 a5 a6 a7 (pkgS a0 a1 a2 a3) _) hg
  clear hG14 hg f00 f01 f02 f03 f04 f10 f11 f12 f13 f14 f20 f21 f30 f31 f40 f50 f51 f60 f70 f71
  obtain ⟨f00, f01, f02, f03, f04, f10, f11, f12, f13, f14, f20, f21, f30, f31, f40, f50, f51, f60, f70, f71⟩ := st
  go_wp2_with fail
  go_ret
  exact ⟨rfl, hG15⟩

end Go.Proofs.Qxb6625893a
