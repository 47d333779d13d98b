import Derived.Test.Qxb6626222aFirst
import Derived.ProofKit
import Derived.Deep.Fields23
import Derived.SizedLaws
import Derived.ChangeOld
namespace Go.Proofs.Qxb6626222a
open Go.ChangeShapes Go.WideShapes Go.ChangeAt Go.RowKit

/-- one slot of the buckets, as the reader met it -/
theorem pt_of {H : Type} {enc : TypeId × Value → H} {W : World} {n : Nat} {cs : List Value} {y : DataW H × List MemPlace} (h : DataW.trod enc Try.prog W 0 (fun _ => true) true n 24 cs = some y) : ∃ x ob, cs = [x] ∧ PtAt W 2 x ob := by
  rcases Go.Deep.open_ptr_fields3 Try.underlying24 Try.underlying28 (by kernel_rfl) (by kernel_rfl) h with ⟨rfl, _⟩ | ⟨b, o, m, v0, v1, v2, y0, y1, y2, rfl, _, _, c0, c1, c2, t0, t1, t2⟩
  · exact ⟨_, none, rfl, rfl⟩
  · obtain ⟨i, e0, _, wi⟩ := DataW.trod_int Try.underlying21 t0
    obtain ⟨ty, e1, _, wt⟩ := DataW.trod_int Try.underlying25 t1
    simp only [List.cons.injEq, and_true] at e0 e1
    subst e0 e1
    rcases open_ints Try.underlying26 Try.underlying21 (by kernel_rfl) t2 with ⟨e2, _⟩ | ⟨a, len, cap, zs, e2, _, hl, hm, hz, _, hcell, _⟩
    · simp only [List.cons.injEq, and_true] at e2
      subst e2
      exact ⟨_, some ⟨i, ty, []⟩, rfl, _, rfl, b, o, _, rfl, c0, c1, c2, Or.inl ⟨rfl, rfl⟩, by simp, wi, wt⟩
    · simp only [List.cons.injEq, and_true] at e2
      subst e2
      simp only [if_true] at hz
      refine ⟨_, some ⟨i, ty, zs.take len⟩, rfl, _, rfl, b, o, _, rfl, c0, c1, c2, Or.inr ⟨a, cap, by simp; omega, fun j hj => ?_⟩, ?_, wi, wt⟩
      · simp at hj
        rw [hcell j (by omega)]
        simp [List.getD_eq_getElem?_getD, show j < zs.length by omega]
      · simp only [List.length_take]
        unfold maxLen at hm
        omega

theorem bks_of {H : Type} {enc : TypeId × Value → H} {W : World} {v : Value} {d : DataW H} {p : List MemPlace} (hv : ∃ a l c, v = .slice a l c) (h : DataW.Trod enc Try.prog W 0 (fun _ => true) true 22 v d p) : ∃ bs, Bks W 2 v bs := by
  obtain ⟨a0, l0, c0, rfl⟩ := hv
  obtain ⟨fuel, hf⟩ := h
  rcases DataW.trod_slice Try.underlying22 hf with ⟨hcs, _⟩ | ⟨a, len, cap, elems, rest, n, _, hcs, _, hb, hl, hm, hlen, hel, _, _⟩
  · simp [Value.cells] at hcs
    obtain ⟨rfl, rfl, rfl⟩ := hcs
    exact ⟨[], [], Or.inl ⟨rfl, rfl⟩, rfl, fun j x ob hj => by simp at hj⟩
  · simp [Value.cells] at hcs
    obtain ⟨rfl, rfl, rfl⟩ := hcs
    have hone : Try.prog.cellsOf 24 = 1 := by kernel_rfl
    have each : ∀ i, i < l0 → ∃ x ob, W.cell? (a.add i) = some x ∧ PtAt W 2 x ob := fun i hi => by
      have h1 := hel i hi
      rw [List.getElem?_eq_getElem (by omega), hone, Nat.mul_one, Option.bind_eq_some_iff] at h1
      obtain ⟨cs', hcs', hy⟩ := h1
      obtain ⟨x, ob, rfl, hp⟩ := pt_of hy
      exact ⟨x, ob, cell_of_cells?_one hcs', hp⟩
    have pick : ∀ k, k ≤ l0 → ∃ (xs : List Value) (bs : List (Option Bk)), xs.length = k ∧ bs.length = k ∧ (∀ j (h : j < xs.length), W.cell? (a.add j) = some xs[j]) ∧ ∀ (j : Nat) x ob, xs[j]? = some x → bs[j]? = some ob → PtAt W 2 x ob := by
      intro k
      induction k with
      | zero => exact fun _ => ⟨[], [], rfl, rfl, fun j hj => by simp at hj, fun j x ob hj => by simp at hj⟩
      | succ k ih =>
        intro hk
        obtain ⟨xs, bs, e1, e2, hc, hp⟩ := ih (by omega)
        obtain ⟨x, ob, hx, hpt⟩ := each k (by omega)
        refine ⟨xs ++ [x], bs ++ [ob], by simp [e1], by simp [e2], fun j hj => ?_, fun j y o hj ho => ?_⟩
        · by_cases hjk : j < xs.length
          · rw [List.getElem_append_left hjk]; exact hc j hjk
          · have : j = k := by simp at hj; omega
            subst this
            rw [List.getElem_append_right (by omega)]
            simpa [e1] using hx
        · by_cases hjk : j < k
          · rw [List.getElem?_append_left (by omega)] at hj ho
            exact hp j y o hj ho
          · have : j = k := by
              have := (List.getElem?_eq_some_iff.mp hj).1
              simp at this
              omega
            subst this
            rw [List.getElem?_append_right (by omega), e1, Nat.sub_self] at hj
            rw [List.getElem?_append_right (by omega), e2, Nat.sub_self] at ho
            simp only [List.getElem?_cons_zero, Option.some.injEq] at hj ho
            subst hj ho
            exact hpt
    obtain ⟨xs, bs, e1, e2, hc, hp⟩ := pick l0 (Nat.le_refl _)
    exact ⟨bs, xs, Or.inr ⟨a, c0, by rw [e1], hc⟩, by omega, hp⟩

/-- the bytes of a string's datum -/
def bytesD {H : Type} : DataW H → List UInt8
  | .lit (.string l) => l
  | _ => []
/-- what a map's datum says at a key -/
def gOf {H : Type} (D : DataW H) (k : Int) : Option ByteArray := if Go.Maps.has D (.int .i32 k) = true then some ⟨(bytesD (D.atKey (.int .i32 k) (.lit (.string [])))).toArray⟩ else none

theorem atKey_absent {H : Type} {D : DataW H} {k : Lit} (z : DataW H) (h : Go.Maps.has D k = false) : D.atKey k z = z := by
  cases D <;> try rfl
  rename_i es
  simp only [Go.Maps.has] at h
  have : es.find? (fun p => p.1.sameKey k) = none := by
    rw [List.find?_eq_none]
    intro x hx
    rw [List.any_eq_false] at h
    exact h x hx
  simp only [DataW.atKey, this]

theorem weights_in {H : Type} {P : Program} {e : TypeId} {es : List (Lit × DataW H)} {p : Lit × DataW H} (hp : p ∈ es) {l : List UInt8} (hd : p.2 = .lit (.string l)) : l.length ∈ DataW.weightsEntries P e es := by
  induction es with
  | nil => simp at hp
  | cons x r ih =>
    rw [DataW.weightsEntries, List.mem_append]
    rcases List.mem_cons.mp hp with h | h
    · left
      subst h
      obtain ⟨k, d⟩ := p
      simp only at hd
      subst hd
      cases k <;> simp [DataW.weightsEntry, DataW.weights]
    · exact Or.inr (ih h)

theorem maps_of {H : Type} {enc : TypeId × Value → H} {W : World} {v : Value} {d : DataW H} {p : List MemPlace} (hv : ∃ r, v = .map r) (h : DataW.Trod enc Try.prog W 0 (fun _ => true) true 23 v d p)
    (hw : ∀ n ∈ d.weights Try.prog 23, n ≤ reachBytes) : ∃ r g, v = .map r ∧ Maps W (.map r) g := by
  obtain ⟨r, rfl⟩ := hv
  obtain ⟨fuel, hf⟩ := h
  have K : Go.Maps.Keyed Try.prog 21 := Go.Maps.int_keyed Try.underlying21
  have hz : ∀ w, (zeroValue 9).run Try.prog w = .ok (.string ⟨#[]⟩) w := fun w => Try.zeroValue9 w
  rcases Go.WideElems.open_map Try.underlying23 hf with ⟨hcs, _⟩ | ⟨bm, es, clock, n, _, hcs, hb, _, F, hx⟩
  · simp [Value.cells] at hcs
    subst hcs
    refine ⟨none, fun _ => none, rfl, fun w' _ => ⟨fun k hk => ?_, fun k hk => ?_, fun k s h => by simp at h, 0, fun ty => ?_⟩⟩
    · exact Go.Maps.look_nil true K Try.underlying23 (hz w') (Go.Maps.keyOf_int_mk Try.underlying21 hk)
    · exact Go.Maps.look_nil false K Try.underlying23 (hz w') (Go.Maps.keyOf_int_mk Try.underlying21 hk)
    · exact Go.Maps.len_nil Try.underlying23 ty
  · simp [Value.cells] at hcs
    subst hcs
    have hown := World.ownsMap_of_fit (R := plainElem Try.prog 9) hb F (fun x _ z hz => elemAt_plainElem_string Try.underlying9 hz)
    obtain ⟨D, hD⟩ : ∃ D, DataW.map ((es.toList.map (Go.WideElems.rg Try.prog 21 (Go.WideElems.elemAt enc Try.prog W 0 (fun _ => true) true n 9))).foldr DataW.insert []) = D := ⟨_, rfl⟩
    rw [hD] at hown hx
    have hd : d = D := by simp only [Prod.mk.injEq] at hx; exact hx.1
    subst hd
    have hlt : bm < W.heap.size := by
      rcases Nat.lt_or_ge bm W.heap.size with h1 | h1
      · exact h1
      · rw [Array.getElem?_eq_none h1] at hb; cases hb
    have hlater : ∀ w', Below W.heap.size W w' → w'.ownsMap Try.prog 21 (plainElem Try.prog 9) bm es.size d := fun w' hb' => by
      obtain ⟨es', clock', h1, h2, h3, h4⟩ := hown
      exact ⟨es', clock', (hb'.block bm hlt).trans h1, h2, h3, h4⟩
    have hzd : plainElem (H := H) Try.prog 9 (.string ⟨#[]⟩) = some (.lit (.string []), []) := by
      simp [plainElem, Try.underlying9, ByteArray.size, maxLen]
    have hstr : ∀ (s : ByteArray) (k : Int), d.atKey (.int .i32 k) (.lit (.string [])) = .lit (.string s.data.toList) → (gOf d k).getD ⟨#[]⟩ = s ∧ (gOf d k).isSome = Go.Maps.has d (.int .i32 k) := fun s k hs => by
      unfold gOf
      cases hh : Go.Maps.has d (.int .i32 k) with
      | true =>
        simp only [if_true, Option.getD_some, Option.isSome_some, hs, bytesD]
        exact ⟨trivial, trivial⟩
      | false =>
        rw [atKey_absent _ hh] at hs
        simp only [DataW.lit.injEq, Lit.string.injEq] at hs
        simp only [Bool.false_eq_true, if_false, Option.getD_none, Option.isSome_none]
        refine ⟨?_, trivial⟩
        apply ByteArray.ext
        apply Array.toList_inj.mp
        exact hs
    refine ⟨some bm, gOf d, rfl, fun w' hb' => ⟨fun k hk => ?_, fun k hk => ?_, fun k s hg => ?_, ?_⟩⟩
    · obtain ⟨v, ps, hrun, hv⟩ := (hlater w' hb').look_ok K Try.underlying23 (hz w') hzd (Go.Maps.keyOf_int_mk Try.underlying21 hk)
      obtain ⟨s, rfl, he, _⟩ := plainElem_string_inv Try.underlying9 hv
      simp only [Prod.mk.injEq] at he
      obtain ⟨e1, e2⟩ := hstr s k he.1
      rw [e1, e2]
      exact hrun
    · obtain ⟨v, ps, hrun, hv⟩ := (hlater w' hb').lookup K Try.underlying23 (hz w') hzd (Go.Maps.keyOf_int_mk Try.underlying21 hk)
      obtain ⟨s, rfl, he, _⟩ := plainElem_string_inv Try.underlying9 hv
      simp only [Prod.mk.injEq] at he
      obtain ⟨e1, _⟩ := hstr s k he.1
      rw [e1]
      exact hrun
    · unfold gOf at hg
      split at hg
      · rename_i hh
        simp only [Option.some.injEq] at hg
        rw [← hD] at hh hg hw
        simp only [Go.Maps.has, List.any_eq_true] at hh
        obtain ⟨x, hx1, hx2⟩ := hh
        obtain ⟨p0, hp0⟩ : ∃ p0, ((es.toList.map (Go.WideElems.rg Try.prog 21 (Go.WideElems.elemAt enc Try.prog W 0 (fun _ => true) true n 9))).foldr DataW.insert []).find? (fun p => p.1.sameKey (.int .i32 k)) = some p0 := by
          cases hf0 : ((es.toList.map (Go.WideElems.rg Try.prog 21 (Go.WideElems.elemAt enc Try.prog W 0 (fun _ => true) true n 9))).foldr DataW.insert []).find? (fun p => p.1.sameKey (.int .i32 k)) with
          | none =>
            rw [List.find?_eq_none] at hf0
            exact absurd hx2 (hf0 x hx1)
          | some p0 => exact ⟨p0, rfl⟩
        simp only [DataW.atKey, hp0] at hg
        have hmem := List.mem_of_find?_eq_some hp0
        cases hl : p0.2 with
        | lit l =>
          cases l with
          | string bytes =>
            rw [hl] at hg
            have := hw bytes.length (by simp only [DataW.weights, Try.underlying23]; exact List.mem_cons_of_mem _ (weights_in hmem hl))
            rw [← hg]
            simp only [bytesD, ByteArray.size, List.size_toArray]
            exact this
          | _ => rw [hl] at hg; rw [← hg]; simp [bytesD, ByteArray.size]
        | _ => rw [hl] at hg; rw [← hg]; simp [bytesD, ByteArray.size]
      · simp at hg
    · exact ⟨_, fun ty => (hlater w' hb').len Try.underlying23 ty⟩

end Go.Proofs.Qxb6626222a
