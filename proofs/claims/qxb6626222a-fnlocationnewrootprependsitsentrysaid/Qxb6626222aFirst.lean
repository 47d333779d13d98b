import Derived.Test.Qxb6626222aHold
namespace Go.Proofs.Qxb6626222a
open Go.RowKit

/-- a bucket, as the law reads it -/
structure Bk where
  id : Int
  ty : Int
  items : List Int

/-- a bucket in memory; q: the place of the items among its fields -/
def BkAt (w : World) (q : Nat) (p : Addr) (b : Bk) : Prop :=
  ∃ pb po iv, p = ⟨pb, po, none⟩ ∧ w.cell? ⟨pb, po, none⟩ = some (.int .i32 b.id) ∧ w.cell? ⟨pb, po + 1, none⟩ = some (.int .u16 b.ty) ∧ w.cell? ⟨pb, po + q, none⟩ = some iv ∧
    Row w iv (b.items.map (Value.int .i32)) ∧ b.items.length ≤ 9223372036854775807 ∧ (Lit.int .i32 b.id).wf = true ∧ (Lit.int .u16 b.ty).wf = true

def PtAt (w : World) (q : Nat) (x : Value) : Option Bk → Prop
  | none => x = .pointer none
  | some b => ∃ p, x = .pointer (some p) ∧ BkAt w q p b

def Bks (w : World) (q : Nat) (v : Value) (bs : List (Option Bk)) : Prop :=
  ∃ xs, Row w v xs ∧ xs.length = bs.length ∧ ∀ (j : Nat) x ob, xs[j]? = some x → bs[j]? = some ob → PtAt w q x ob

theorem BkAt.later {w w' : World} {q : Nat} {p : Addr} {b : Bk} (h : BkAt w q p b) (hb : Below w.heap.size w w') : BkAt w' q p b := by
  obtain ⟨pb, po, iv, hp, h0, h1, h2, hr, hl, h3, h4⟩ := h
  exact ⟨pb, po, iv, hp, cell_later hb h0, cell_later hb h1, cell_later hb h2, hr.later hb, hl, h3, h4⟩
theorem PtAt.later {w w' : World} {q : Nat} {x : Value} {ob : Option Bk} (h : PtAt w q x ob) (hb : Below w.heap.size w w') : PtAt w' q x ob := by
  cases ob with
  | none => exact h
  | some b => obtain ⟨p, hp, h⟩ := h; exact ⟨p, hp, h.later hb⟩
theorem Bks.later {w w' : World} {q : Nat} {v : Value} {bs : List (Option Bk)} (h : Bks w q v bs) (hb : Below w.heap.size w w') : Bks w' q v bs := by
  obtain ⟨xs, hr, hl, he⟩ := h
  exact ⟨xs, hr.later hb, hl, fun j x ob h1 h2 => (he j x ob h1 h2).later hb⟩
theorem Bks.form {w : World} {q : Nat} {v : Value} {bs : List (Option Bk)} (h : Bks w q v bs) : ∃ ao c, v = .slice ao bs.length c := by
  obtain ⟨xs, hr, hl, he⟩ := h
  rw [← hl]
  exact hr.form
/-- the k-th bucket -/
theorem Bks.at {w : World} {q : Nat} {ao : Option Addr} {n c : Nat} {bs : List (Option Bk)} (h : Bks w q (.slice ao n c) bs) (k : Nat) (hk : k < bs.length) :
    ∃ b off x, ao = some ⟨b, off, none⟩ ∧ b < w.heap.size ∧ w.cell? ⟨b, off + k, none⟩ = some x ∧ PtAt w q x bs[k] := by
  obtain ⟨xs, hr, hl, he⟩ := h
  obtain ⟨b, off, ha, hb, hc⟩ := hr.at (by omega)
  exact ⟨b, off, xs[k]'(by omega), ha, hb, hc k (by omega), he k _ _ (List.getElem?_eq_getElem (by omega)) (List.getElem?_eq_getElem hk)⟩

/-- does the slot's bucket, no shadow, hold x? -/
def holdB (g : Int → Option ByteArray) (x : Int) : Option Bk → Bool
  | none => false
  | some b => !shad g b.id && hasI b.items x
def holder (bs : List (Option Bk)) (g : Int → Option ByteArray) (x : Int) : Option Nat := bs.findIdx? (holdB g x)

theorem holder_end {bs : List (Option Bk)} {g : Int → Option ByteArray} {x : Int} (h : ∀ (j : Nat) ob, bs[j]? = some ob → holdB g x ob = false) : holder bs g x = none := by
  rw [holder, List.findIdx?_eq_none_iff]
  intro ob ho
  obtain ⟨j, hj, rfl⟩ := List.getElem_of_mem ho
  exact h j _ (List.getElem?_eq_getElem hj)
theorem holder_hit {bs : List (Option Bk)} {g : Int → Option ByteArray} {x : Int} (k : Nat) (hk : k < bs.length) (h : ∀ (j : Nat) ob, j < k → bs[j]? = some ob → holdB g x ob = false) (hh : holdB g x bs[k] = true) : holder bs g x = some k := by
  rw [holder, List.findIdx?_eq_some_iff_getElem]
  exact ⟨hk, hh, fun j hj => by rw [h j _ hj (List.getElem?_eq_getElem (by omega))]; simp⟩

/-- what zzFirstHolder hands back -/
def FirstIs (e : Ending) (r : Option Nat) : Prop := e = .returned (.tuple #[.int .i64 ((r.getD 0 : Nat) : Int), .bool r.isSome])

set_option maxHeartbeats 4000000 in
theorem first_any (v mv : Value) (bs : List (Option Bk)) (g : Int → Option ByteArray) (x : Int) (w : World) (hb : Bks w 2 v bs) (hm : MapAt w mv g) (hn : bs.length ≤ 1000000) :
    Calls Try.prog 8 #[v, mv, .int .i32 x] w fun e w' => FirstIs e (holder bs g x) ∧ w' = w := by
  obtain ⟨ao, c, rfl⟩ := hb.form
  have HB : Hid (Bks w 2 (.slice ao bs.length c) bs) := hb
  have HM : Hid (MapAt w mv g) := hm
  clear hb hm
  go_enter Try.func8, Try.ntmps8
  go_wp2_with fail
  go_loop [8] (fun i => ∃ k : Nat, k ≤ bs.length ∧ i = .int .i64 k ∧ Hid (∀ (j : Nat) ob, j < k → bs[j]? = some ob → holdB g x ob = false)) (fun i => bs.length - (intOf i).toNat)
  case atStart => exact ⟨0, Nat.zero_le _, rfl, fun j ob hj => by omega⟩
  case round =>
    obtain ⟨k, hk, rfl, hx⟩ := hrel
    by_cases hlt : k < bs.length
    · obtain ⟨bb, off, xv, rfl, hbb, hcell, hpt⟩ := HB.out.at k hlt
      have hnext : holdB g x bs[k] = false → Hid (∀ (j : Nat) ob, j < k + 1 → bs[j]? = some ob → holdB g x ob = false) := fun hf j ob hj ho => by
        by_cases e : j = k
        · subst e
          rw [List.getElem?_eq_getElem hlt] at ho
          rw [← Option.some.inj ho]
          exact hf
        · exact hx.out j ob (by omega) ho
      have HN : Hid (holdB g x bs[k] = false → Hid (∀ (j : Nat) ob, j < k + 1 → bs[j]? = some ob → holdB g x ob = false)) := hnext
      clear hnext
      cases hob : bs[k] with
      | none =>
        rw [hob] at hpt
        have hpt' : xv = .pointer none := hpt
        subst hpt'
        clear hpt
        have HF := HN.out (by rw [hob]; rfl)
        clear HN hob
        go_wp2_with fail
        go_round
        case rel => exact ⟨k + 1, by omega, by go_num, HF⟩
        case measure => simp [intOf]; omega
      | some b =>
        rw [hob] at hpt
        obtain ⟨p, rfl, pb, po, iv, rfl, c0, c1, c2, hr, hl, w0, w1⟩ := hpt
        have HR : Hid (Row w iv (b.items.map (Value.int .i32))) := hr
        have HO : Hid (bs[k] = some b) := hob
        clear hr hob c1
        go_wp2_with fail
        refine (shadow_any _ _ _ _ HM.out w0).mono ?_
        rintro e w1 ⟨rfl, hw⟩
        subst hw
        cases hs : shad g b.id with
        | true =>
          have HF := HN.out (by rw [HO.out]; simp [holdB, hs])
          clear HN HO
          go_wp2_with fail
          go_round
          case rel => exact ⟨k + 1, by omega, by go_num, HF⟩
          case measure => simp [intOf]; omega
        | false =>
          go_wp2_with fail
          refine (holds_any _ _ _ _ HR.out hl).mono ?_
          rintro e w2 ⟨rfl, hw⟩
          subst hw
          cases hh : hasI b.items x with
          | false =>
            have HF := HN.out (by rw [HO.out]; simp [holdB, hh])
            clear HN HO
            go_wp2_with fail
            go_round
            case rel => exact ⟨k + 1, by omega, by go_num, HF⟩
            case measure => simp [intOf]; omega
          | true =>
            have HH : Hid (holder bs g x = some k) := holder_hit k hlt hx.out (by rw [HO.out]; simp [holdB, hs, hh])
            clear HN HO
            go_wp2_with fail
            go_ret2
            exact ⟨by rw [HH.out]; rfl, rfl⟩
    · have HH : Hid (holder bs g x = none) := holder_end (fun j ob ho => hx.out j ob (by have := (List.getElem?_eq_some_iff.mp ho).1; omega) ho)
      go_wp2_with fail
      go_ret2
      exact ⟨by rw [HH.out]; rfl, rfl⟩

end Go.Proofs.Qxb6626222a
