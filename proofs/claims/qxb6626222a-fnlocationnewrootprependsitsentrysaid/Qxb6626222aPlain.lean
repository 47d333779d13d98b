import Derived.Test.Qxb6626222aLoc
namespace Go.Proofs.Qxb6626222a

theorem holder_append (bs : List (Option Bk)) (g : Int → Option ByteArray) (x : Int) (nb : Bk) :
    holder (bs ++ [some nb]) g x = (holder bs g x).or (if holdB g x (some nb) = true then some bs.length else none) := by
  unfold holder
  rw [List.findIdx?_append]
  congr 1
  simp only [List.findIdx?_cons, List.findIdx?_nil]
  by_cases h : holdB g x (some nb) = true <;> simp [h]

theorem upOf_append_some {bs : List (Option Bk)} {g : Int → Option ByteArray} {x : Int} {b nb : Bk} (h : upOf bs g x = some b) : upOf (bs ++ [some nb]) g x = some b := by
  cases hh : holder bs g x with
  | none => rw [upOf_none hh] at h; cases h
  | some k =>
    obtain ⟨b', hk, hb, hu, _⟩ := upOf_some hh
    rw [hu] at h
    cases h
    have h2 : holder (bs ++ [some nb]) g x = some k := by rw [holder_append, hh]; rfl
    simp only [upOf, h2, Option.bind_some]
    rw [List.getElem?_append_left hk, hb]
    rfl

theorem upOf_none_holder {bs : List (Option Bk)} {g : Int → Option ByteArray} {x : Int} (h : upOf bs g x = none) : holder bs g x = none := by
  cases hh : holder bs g x with
  | none => rfl
  | some k =>
    obtain ⟨b', _, _, hu, _⟩ := upOf_some hh
    rw [hu] at h
    cases h

theorem upOf_append_new {bs : List (Option Bk)} {g : Int → Option ByteArray} {x : Int} {nb : Bk} (h : upOf bs g x = none) (hn : holdB g x (some nb) = true) : upOf (bs ++ [some nb]) g x = some nb := by
  have h2 : holder (bs ++ [some nb]) g x = some bs.length := by rw [holder_append, upOf_none_holder h, if_pos hn]; rfl
  simp only [upOf, h2, Option.bind_some]
  rw [List.getElem?_append_right (Nat.le_refl _), Nat.sub_self]
  rfl

theorem upOf_append_none {bs : List (Option Bk)} {g : Int → Option ByteArray} {x : Int} {nb : Bk} (h : upOf bs g x = none) (hn : holdB g x (some nb) = false) : upOf (bs ++ [some nb]) g x = none := by
  apply upOf_none
  rw [holder_append, upOf_none_holder h, hn]
  rfl

/-- the plain law: a new root above the chain's top puts just its entry in front; a shadow puts nothing -/
theorem new_root {bs : List (Option Bk)} {gt gn : Int → Option ByteArray} {newID newType top : Int} (hid : ∀ b, some b ∈ bs → b.id ≠ newID) (hheld : upOf bs gn newID = none) :
    ∀ (n : Nat) (x : Int), x ≠ newID → chain bs gn n x = (top, true) →
      (chain (bs ++ [some ⟨newID, newType, [top]⟩]) gn (n + 1) x).2 = true ∧
      loc (bs ++ [some ⟨newID, newType, [top]⟩]) gt gn (n + 1) x = (if shad gn newID = true then loc bs gt gn n x else entry gt gn ⟨newID, newType, [top]⟩ :: loc bs gt gn n x)
  | 0, x, _, h => by simp [chain] at h
  | n + 1, x, hx, h => by
    cases hu : upOf bs gn x with
    | none =>
      rw [chain, hu] at h
      simp only [Prod.mk.injEq, and_true] at h
      subst h
      have hl : loc bs gt gn (n + 1) x = [] := loc_none hu _
      cases hs : shad gn newID with
      | true =>
        have hn : holdB gn x (some ⟨newID, newType, [x]⟩) = false := by simp [holdB, hs]
        rw [chain, loc, upOf_append_none hu hn, hl]
        simp
      | false =>
        have hn : holdB gn x (some ⟨newID, newType, [x]⟩) = true := by simp [holdB, hs, hasI]
        have hn2 : holdB gn newID (some ⟨newID, newType, [x]⟩) = false := by
          simp [holdB, hs, hasI]
          exact fun e => hx e.symm
        rw [chain, loc, upOf_append_new hu hn, hl]
        simp only
        rw [chain, loc_none (upOf_append_none hheld hn2), upOf_append_none hheld hn2]
        simp
    | some b =>
      rw [chain, hu] at h
      have hb : b.id ≠ newID := by
        cases hh : holder bs gn x with
        | none => rw [upOf_none hh] at hu; cases hu
        | some k =>
          obtain ⟨b', hk, hb', hu', _⟩ := upOf_some hh
          rw [hu'] at hu
          cases hu
          exact hid b (List.mem_of_getElem? hb')
      obtain ⟨i1, i2⟩ := new_root hid hheld n b.id hb h
      rw [chain, loc, upOf_append_some hu]
      simp only
      refine ⟨i1, ?_⟩
      rw [i2, loc, hu]
      cases hs : shad gn newID <;> simp

end Go.Proofs.Qxb6626222a
