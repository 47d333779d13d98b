import Derived.Test.Qxb6626374aBuild
import Derived.ProofKit
import Derived.OpenShut
import Derived.ChangeOld
namespace Go.Proofs.Qxb6626374a
open Go.ChangeShapes Go.WideShapes Go.ChangeAt Go.RowKit

theorem five {cs : List Value} (h : cs.length = 5) : ∃ x0 x1 x2 x3 x4, cs = [x0, x1, x2, x3, x4] := by
  match cs, h with
  | [x0, x1, x2, x3, x4], _ => exact ⟨x0, x1, x2, x3, x4, rfl⟩

theorem cmd_of {H : Type} {enc : TypeId × Value → H} {W : World} {n : Nat} {cs : List Value} {y : DataW H × List MemPlace}
    (h : DataW.trod enc Try.prog W 0 (fun _ => true) true n 27 cs = some y) : ∃ c : Cmd, cs = c.cells := by
  obtain ⟨xs, m, _, _, hl, hx, hf⟩ := DataW.trod_struct Try.underlying27 h
  have c27 : Try.prog.cellsOf 27 = 5 := by kernel_rfl
  have c22 : Try.prog.cellsOf 22 = 1 := by kernel_rfl
  have c3 : Try.prog.cellsOf 3 = 1 := by kernel_rfl
  rw [c27] at hl
  have hx5 : xs.length = 5 := hx
  obtain ⟨x0, x1, x2, x3, x4, rfl⟩ := five hl
  have f0 : DataW.trod enc Try.prog W 0 (fun _ => true) true m 22 (([x0, x1, x2, x3, x4].drop 0).take (Try.prog.cellsOf 22)) = xs[0]? := hf 0 _ rfl
  have f1 : DataW.trod enc Try.prog W 0 (fun _ => true) true m 3 (([x0, x1, x2, x3, x4].drop 1).take (Try.prog.cellsOf 3)) = xs[1]? := hf 1 _ rfl
  have f2 : DataW.trod enc Try.prog W 0 (fun _ => true) true m 3 (([x0, x1, x2, x3, x4].drop 2).take (Try.prog.cellsOf 3)) = xs[2]? := hf 2 _ rfl
  have f3 : DataW.trod enc Try.prog W 0 (fun _ => true) true m 3 (([x0, x1, x2, x3, x4].drop 3).take (Try.prog.cellsOf 3)) = xs[3]? := hf 3 _ rfl
  have f4 : DataW.trod enc Try.prog W 0 (fun _ => true) true m 3 (([x0, x1, x2, x3, x4].drop 4).take (Try.prog.cellsOf 3)) = xs[4]? := hf 4 _ rfl
  rw [c22, List.getElem?_eq_getElem (by omega)] at f0
  rw [c3, List.getElem?_eq_getElem (by omega)] at f1 f2 f3 f4
  obtain ⟨n0, e0, -, -⟩ := DataW.trod_int Try.underlying22 f0
  obtain ⟨n1, e1, -, -⟩ := DataW.trod_int Try.underlying3 f1
  obtain ⟨n2, e2, -, -⟩ := DataW.trod_int Try.underlying3 f2
  obtain ⟨n3, e3, -, -⟩ := DataW.trod_int Try.underlying3 f3
  obtain ⟨n4, e4, -, -⟩ := DataW.trod_int Try.underlying3 f4
  simp at e0 e1 e2 e3 e4
  subst e0 e1 e2 e3 e4
  exact ⟨⟨n0, n1, n2, n3, n4⟩, rfl⟩

theorem cmds_of {H : Type} {enc : TypeId × Value → H} {W : World} {v : Value} {d : DataW H} {p : List MemPlace} (hv : ∃ a l c, v = .slice a l c) (h : DataW.Trod enc Try.prog W 0 (fun _ => true) true 23 v d p) : ∃ cs, RowC W v cs := by
  obtain ⟨a0, l0, c0, rfl⟩ := hv
  obtain ⟨fuel, hf⟩ := h
  rcases DataW.trod_slice Try.underlying23 hf with ⟨hcs, _⟩ | ⟨a, len, cap, elems, rest, n, _, hcs, _, hb, hl, hm, hlen, hel, _, _⟩
  · simp [Value.cells] at hcs
    obtain ⟨rfl, rfl, rfl⟩ := hcs
    exact ⟨[], none, 0, rfl, fun j hj => by simp at hj⟩
  · simp [Value.cells] at hcs
    obtain ⟨rfl, rfl, rfl⟩ := hcs
    have c27 : Try.prog.cellsOf 27 = 5 := by kernel_rfl
    have hspot : 0 < l0 → a.spot = none := fun hi => by
      have h1 := hel 0 hi
      rw [List.getElem?_eq_getElem (by omega), c27, Option.bind_eq_some_iff] at h1
      obtain ⟨cs', hcs', hy⟩ := h1
      obtain ⟨c, rfl⟩ := cmd_of hy
      obtain ⟨-, -, hc⟩ := World.cells?_some hcs'
      simpa [Addr.add] using World.cell?_spot ((hc 0 (by omega)).trans rfl)
    have each : ∀ i, i < l0 → ∃ c : Cmd, ∃ b off, a = ⟨b, off, none⟩ ∧ b < W.heap.size ∧ W.rangeAt b (off + i * 5) c.cells := fun i hi => by
      have h1 := hel i hi
      rw [List.getElem?_eq_getElem (by omega), c27, Option.bind_eq_some_iff] at h1
      obtain ⟨cs', hcs', hy⟩ := h1
      obtain ⟨c, rfl⟩ := cmd_of hy
      obtain ⟨-, -, hc⟩ := World.cells?_some hcs'
      obtain ⟨b, off, spot⟩ := a
      have hsp : spot = none := hspot (by omega)
      subst hsp
      rw [Addr.add_mid] at hc
      have hlt : b < W.heap.size := World.block_lt_of_cell? _ _ ((hc 0 (by omega)).trans rfl)
      refine ⟨c, b, off, rfl, hlt, fun j v hj => ?_⟩
      have hj5 : j < 5 := (List.getElem?_eq_some_iff.1 hj).1
      have := hc j hj5
      rw [Addr.add_mid] at this
      rw [this]; exact hj
    have pick : ∀ k, k ≤ l0 → ∃ cs : List Cmd, cs.length = k ∧ ∀ j (h : j < cs.length), ∃ b off, a = ⟨b, off, none⟩ ∧ b < W.heap.size ∧ W.rangeAt b (off + j * 5) cs[j].cells := by
      intro k
      induction k with
      | zero => exact fun _ => ⟨[], rfl, fun j hj => by simp at hj⟩
      | succ k ih =>
        intro hk
        obtain ⟨cs, e1, hc⟩ := ih (by omega)
        obtain ⟨c, hcc⟩ := each k (by omega)
        refine ⟨cs ++ [c], by simp [e1], fun j hj => ?_⟩
        by_cases hjk : j < cs.length
        · rw [List.getElem_append_left hjk]; exact hc j hjk
        · have : j = k := by simp at hj; omega
          subst this
          rw [List.getElem_append_right (by omega)]
          simpa [e1] using hcc
    obtain ⟨cs, e1, hc⟩ := pick l0 (Nat.le_refl _)
    refine ⟨cs, some a, c0, by rw [e1], fun j hj => ?_⟩
    obtain ⟨b, off, rfl, h2, h3⟩ := hc j hj
    exact ⟨b, off, rfl, h2, h3⟩

end Go.Proofs.Qxb6626374a
