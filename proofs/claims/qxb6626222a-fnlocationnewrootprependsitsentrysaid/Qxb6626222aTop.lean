import Derived.Test.Qxb6626222aFirst
namespace Go.Proofs.Qxb6626222a
open Go.RowKit

/-- the first bucket, no shadow, that holds x -/
def upOf (bs : List (Option Bk)) (g : Int → Option ByteArray) (x : Int) : Option Bk := (holder bs g x).bind fun k => (bs[k]?).bind id

theorem upOf_none {bs : List (Option Bk)} {g : Int → Option ByteArray} {x : Int} (h : holder bs g x = none) : upOf bs g x = none := by simp [upOf, h]
theorem upOf_some {bs : List (Option Bk)} {g : Int → Option ByteArray} {x : Int} {k : Nat} (h : holder bs g x = some k) : ∃ b, k < bs.length ∧ bs[k]? = some (some b) ∧ upOf bs g x = some b ∧ holdB g x (some b) = true := by
  have h' := h
  rw [holder, List.findIdx?_eq_some_iff_getElem] at h'
  obtain ⟨hk, hh, _⟩ := h'
  cases hb : bs[k] with
  | none => rw [hb] at hh; simp [holdB] at hh
  | some b =>
    refine ⟨b, hk, by rw [List.getElem?_eq_getElem hk, hb], ?_, by rw [← hb]; exact hh⟩
    simp [upOf, h, List.getElem?_eq_getElem hk, hb]

/-- up from x by first holders, by at most n steps: where it stands, and whether it came to an end -/
def chain (bs : List (Option Bk)) (g : Int → Option ByteArray) : Nat → Int → Int × Bool
  | 0, x => (x, false)
  | n + 1, x => match upOf bs g x with
    | none => (x, true)
    | some b => chain bs g n b.id

/-- what zzChainTop hands back -/
def TopIs (e : Ending) (r : Int × Bool) : Prop := e = .returned (.tuple #[.int .i32 r.1, .bool r.2])

set_option maxHeartbeats 4000000 in
theorem top_any (v mv : Value) (bs : List (Option Bk)) (g : Int → Option ByteArray) (x0 : Int) (w : World) (hb : Bks w 2 v bs) (hm : MapAt w mv g) (hn : bs.length ≤ 1000000) :
    Calls Try.prog 5 #[v, mv, .int .i32 x0] w fun e w' => TopIs e (chain bs g (bs.length + 1) x0) ∧ w' = w := by
  obtain ⟨ao, c, rfl⟩ := hb.form
  have HB : Hid (Bks w 2 (.slice ao bs.length c) bs) := hb
  have HM : Hid (MapAt w mv g) := hm
  clear hb hm
  go_enter Try.func5, Try.ntmps5
  go_wp2_with fail
  go_loop [2, 8] (fun t i => ∃ (k m : Nat) (x : Int), k + m = bs.length + 1 ∧ i = .int .i64 k ∧ t = .int .i32 x ∧ Hid (chain bs g m x = chain bs g (bs.length + 1) x0)) (fun _ i => bs.length + 1 - (intOf i).toNat)
  case atStart => exact ⟨0, bs.length + 1, x0, by omega, rfl, rfl, rfl⟩
  case round =>
    obtain ⟨k, m, x, hk, rfl, rfl, hc⟩ := hrel
    have hk' : k ≤ bs.length + 1 := by omega
    have HK : Hid (k + m = bs.length + 1) := hk
    clear hk
    by_cases hlt : k ≤ bs.length
    · obtain ⟨m', rfl⟩ : ∃ m', m = m' + 1 := ⟨m - 1, by have := HK.out; omega⟩
      go_wp2_with fail
      refine (first_any _ _ _ _ _ _ HB.out HM.out hn).mono ?_
      rintro e w1 ⟨he, hw⟩
      subst hw
      cases hh : holder bs g x with
      | none =>
        rw [hh] at he
        have he' : e = .returned (.tuple #[.int .i64 0, .bool false]) := he
        subst he'
        have HE : Hid (chain bs g (bs.length + 1) x0 = (x, true)) := by
          have h1 := hc.out
          rw [chain, upOf_none hh] at h1
          exact h1.symm
        clear he hh hc
        go_wp2_with fail
        go_ret2
        exact ⟨by rw [HE.out]; rfl, rfl⟩
      | some j =>
        rw [hh] at he
        have he' : e = .returned (.tuple #[.int .i64 (j : Int), .bool true]) := he
        subst he'
        obtain ⟨b, hj, hbj, hup, _⟩ := upOf_some hh
        have HE : Hid (chain bs g m' b.id = chain bs g (bs.length + 1) x0) := by
          have h1 := hc.out
          rw [chain, hup] at h1
          exact h1
        obtain ⟨bb, off, xv, rfl, hbb, hcell, hpt⟩ := HB.out.at j hj
        rw [List.getElem?_eq_getElem hj] at hbj
        rw [Option.some.inj hbj] at hpt
        obtain ⟨p, rfl, pb, po, iv, rfl, c0, c1, c2, hr, hl, w0, w1⟩ := hpt
        clear he hh hc hbj hup hr c1 c2
        go_wp2_with fail
        go_round
        case rel => exact ⟨k + 1, m', b.id, by have := HK.out; omega, by go_num, rfl, HE⟩
        case measure => simp [intOf]; omega
    · have hm0 : m = 0 := by have := HK.out; omega
      have HE : Hid (chain bs g (bs.length + 1) x0 = (x, false)) := by
        have h1 := hc.out
        rw [hm0, chain] at h1
        exact h1.symm
      clear hc hm0
      go_wp2_with fail
      go_ret2
      exact ⟨by rw [HE.out]; rfl, rfl⟩

end Go.Proofs.Qxb6626222a
