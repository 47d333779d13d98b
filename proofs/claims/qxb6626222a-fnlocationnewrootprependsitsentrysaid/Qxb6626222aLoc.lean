import Derived.Test.Qxb6626222aBuild
import Derived.Test.Qxb6626222aIns
import Derived.Deep.LoopGhost
namespace Go.Proofs.Qxb6626222a
open Go.RowKit
attribute [local go_sem ↓] Go.wp_at_zero Go.wp_at_succ

/-- an entry of a location: the type's name, '=', the bucket's name -/
def entry (gt gn : Int → Option ByteArray) (b : Bk) : ByteArray := (gt b.ty).getD ⟨#[]⟩ ++ ⟨#[61]⟩ ++ (gn b.id).getD ⟨#[]⟩

/-- the location, from the root down, by at most n steps -/
def loc (bs : List (Option Bk)) (gt gn : Int → Option ByteArray) : Nat → Int → List ByteArray
  | 0, _ => []
  | n + 1, x => match upOf bs gn x with
    | none => []
    | some b => loc bs gt gn n b.id ++ [entry gt gn b]

theorem loc_none {bs : List (Option Bk)} {gt gn : Int → Option ByteArray} {x : Int} (h : upOf bs gn x = none) (n : Nat) : loc bs gt gn n x = [] := by
  cases n with
  | zero => rfl
  | succ n => rw [loc, h]

/-- what Location hands back -/
def LocIs (e : Ending) (w w' : World) (ss : List ByteArray) : Prop := ∃ v, e = .returned v ∧ Mine w' w.heap.size v ss ∧ Below w.heap.size w w'

/-- the state of the outer loop: m: steps still to come at most -/
structure LocSt (w : World) (bs : List (Option Bk)) (gt gn : Int → Option ByteArray) (out : List ByteArray) (N m : Nat) (v : Value) (x : Int) (wr : World) (ss : List ByteArray) : Prop where
  mine : Mine wr w.heap.size v ss
  bel : Below w.heap.size w wr
  ends : (chain bs gn m x).2 = true
  out : loc bs gt gn m x ++ ss = out
  len : ss.length + m ≤ N

theorem LocSt.done {w : World} {bs : List (Option Bk)} {gt gn : Int → Option ByteArray} {out : List ByteArray} {N m : Nat} {v : Value} {x : Int} {wr : World} {ss : List ByteArray} (h : LocSt w bs gt gn out N m v x wr ss) (hn : holder bs gn x = none) : ss = out := by
  have := h.out
  rwa [loc_none (upOf_none hn), List.nil_append] at this

theorem LocSt.up {w : World} {bs : List (Option Bk)} {gt gn : Int → Option ByteArray} {out : List ByteArray} {N m : Nat} {v v' : Value} {x : Int} {wr w1 : World} {ss : List ByteArray} (h : LocSt w bs gt gn out N m v x wr ss) {b : Bk} (hu : upOf bs gn x = some b)
    (hm : Mine w1 w.heap.size v' (entry gt gn b :: ss)) (hb : Below w.heap.size w w1) : ∃ m', m' < m ∧ LocSt w bs gt gn out N m' v' b.id w1 (entry gt gn b :: ss) := by
  have he := h.ends
  have ho := h.out
  have hl := h.len
  cases m with
  | zero => simp [chain] at he
  | succ m =>
    rw [chain, hu] at he
    rw [loc, hu] at ho
    exact ⟨m, Nat.lt_succ_self _, hm, hb, he, by rw [← ho]; simp, by simp; omega⟩

theorem insert_fresh (w2 : World) (base : Nat) (v : Value) (s : ByteArray) (ss : List ByteArray) (hm : Mine w2 base v ss) (hb : base ≤ w2.heap.size) (hn : ss.length ≤ 1000000) :
    Calls Try.prog 13 #[v, .int .i64 0, .slice (some ⟨w2.heap.size, 0, none⟩) 1 1] (w2.alloc (.cells #[.string s] 9)).drew fun e w' => InsIs e w' (w2.alloc (.cells #[.string s] 9)).drew base s ss := by
  have hbl : Below w2.heap.size w2 (w2.alloc (.cells #[.string s] 9)).drew := ((Below.refl _ _).alloc (Nat.le_refl _) _).drew
  refine insert_any _ base w2.heap.size v s ss (hm.later hbl) (Nat.le_trans hb hbl.size) ?_ (fun o => ?_) ?_ hn
  · show (w2.alloc (.cells #[.string s] 9)).cell? _ = _
    rw [World.cell?_alloc_at _ _ _ _ rfl]; rfl
  · exact World.frozen?_alloc_at _ _ w2.heap.size o rfl
  · rcases hm with ⟨rfl, _⟩ | ⟨g, cap, rfl, _, _, h2, _⟩
    · simp [Value.ownBlock]
    · simp only [Value.ownBlock]
      intro e
      simp only [Option.some.injEq] at e
      omega

theorem u16_bounds {t : Int} (h : (Lit.int .u16 t).wf = true) : 0 ≤ t ∧ t ≤ 65535 := by
  simp [Lit.wf, IntKind.min, IntKind.max, IntKind.signed, IntKind.bits] at h
  omega
theorem i32_of_u16 {t : Int} (h : 0 ≤ t ∧ t ≤ 65535) : (Lit.int .i32 t).wf = true := by
  simp [Lit.wf, IntKind.min, IntKind.max, IntKind.signed, IntKind.bits]
  omega
theorem wrap_u16 {t : Int} (h : 0 ≤ t ∧ t ≤ 65535) : IntKind.i32.wrap t = t := by
  rw [IntKind.wrap_i32]
  omega
theorem size_getD {g : Int → Option ByteArray} (h : ∀ k s, g k = some s → s.size ≤ 140737488351232) (k : Int) : ((g k).getD ⟨#[]⟩).size ≤ 140737488351232 := by
  cases hg : g k with
  | none => simp [ByteArray.size]
  | some s => exact h k s hg

set_option maxRecDepth 100000 in
set_option maxHeartbeats 8000000 in
theorem location_any (mb : Nat) (v mt mn : Value) (bs : List (Option Bk)) (gt gn : Int → Option ByteArray) (id x0 : Int) (N : Nat) (w : World) (hx0 : IntKind.i32.wrap id = x0)
    (hbox : MapBox w mb v mt mn) (hb : Bks w 5 v bs) (hmt : Maps w mt gt) (hmn : Maps w mn gn) (hlen : bs.length ≤ 100000) (hN : N ≤ 100001) (hend : (chain bs gn N x0).2 = true) :
    Calls Try.prog 7 #[.pointer (some ⟨mb, 0, none⟩), .int .i64 id] w fun e w' => LocIs e w w' (loc bs gt gn N x0) := by
  obtain ⟨ao, c, rfl⟩ := hb.form
  have HX : Hid (MapBox w mb (.slice ao bs.length c) mt mn ∧ Bks w 5 (.slice ao bs.length c) bs ∧ Maps w mt gt ∧ Maps w mn gn) := ⟨hbox, hb, hmt, hmn⟩
  have HE : Hid ((chain bs gn N x0).2 = true) := hend
  obtain ⟨out, hout⟩ : ∃ out, loc bs gt gn N x0 = out := ⟨_, rfl⟩
  rw [hout]
  have HO : Hid (loc bs gt gn N x0 = out) := hout
  clear hbox hb hmt hmn hend hout
  go_enter Try.func7, Try.ntmps7
  go_wp2_with fail
  go_loopg [5, 6] N (fun m s5 s6 wr => ∃ (x : Int) (ss : List ByteArray), s6 = .int .i32 x ∧ Hid (LocSt w bs gt gn out N m s5 x wr ss))
  case atStart => exact ⟨x0, [], by first | rfl | (rw [hx0]), Or.inl ⟨rfl, rfl⟩, Below.refl _ _, HE.out, by rw [List.append_nil]; exact HO.out, by simp⟩
  case round =>
    obtain ⟨x, ss, rfl, hst⟩ := hrel
    obtain ⟨wo, rfl⟩ : ∃ wo, wo = wr := ⟨_, rfl⟩
    obtain ⟨aoV, cV, rfl⟩ := hst.out.mine.form
    have d0 := cell_later hst.out.bel HX.out.1.c0
    go_wp2_with fail
    go_loopw [5, 6, 7, 17] (fun l t h i w2 => ∃ k : Nat, k ≤ bs.length ∧ i = .int .i64 k ∧ l = .slice aoV ss.length cV ∧ t = .int .i32 x ∧ h = .bool false ∧ Hid (∀ (j : Nat) ob, j < k → bs[j]? = some ob → holdB gn x ob = false) ∧ Hid (Below wo.heap.size wo w2)) (fun _ _ _ i _ => bs.length - (intOf i).toNat)
    case atStart => exact ⟨0, Nat.zero_le _, rfl, rfl, rfl, rfl, fun j ob hj => by omega, Below.refl _ _⟩
    case round =>
      obtain ⟨k, hk, rfl, rfl, rfl, rfl, hx, hb2⟩ := hrel
      have hbw : Hid (Below w.heap.size w wr) := hst.out.bel.trans (hb2.out.mono hst.out.bel.size)
      have hsz : Hid (wo.heap.size ≤ wr.heap.size ∧ w.heap.size ≤ wo.heap.size) := ⟨hb2.out.size, hst.out.bel.size⟩
      clear d0
      by_cases hlt : k < bs.length
      · obtain ⟨bb, off, xv, rfl, hbb, hcell0, hpt0⟩ := HX.out.2.1.at k hlt
        have hcell := cell_later hbw.out hcell0
        have hpt := hpt0.later hbw.out
        clear hcell0
        have HN : Hid (holdB gn x bs[k] = false → Hid (∀ (j : Nat) ob, j < k + 1 → bs[j]? = some ob → holdB gn x ob = false)) := fun hf j ob hj ho => by
          by_cases e : j = k
          · subst e
            rw [List.getElem?_eq_getElem hlt] at ho
            rw [← Option.some.inj ho]
            exact hf
          · exact hx.out j ob (by omega) ho
        cases hob : bs[k] with
        | none =>
          rw [hob] at hpt
          have hpt' : xv = .pointer none := hpt
          subst hpt'
          clear hpt hpt0
          have HF := HN.out (by rw [hob]; rfl)
          clear HN hob
          go_wp2_with fail
          go_roundw
          case rel => exact ⟨k + 1, by omega, by go_num, rfl, rfl, rfl, HF, hb2⟩
          case measure => simp [intOf]; omega
        | some b =>
          rw [hob] at hpt0
          clear hpt
          obtain ⟨p, rfl, pb, po, iv, rfl, z0, z1, z5, hr0, hl, q0, q1⟩ := hpt0
          have c0 := cell_later hbw.out z0
          have c5 := cell_later hbw.out z5
          have hr := hr0.later hbw.out
          have qb := u16_bounds q1
          have HS : Hid (∀ W', Below w.heap.size w W' → W'.cell? ⟨mb, 3, none⟩ = some mt ∧ W'.cell? ⟨mb, 4, none⟩ = some mn ∧ W'.cell? ⟨pb, po, none⟩ = some (.int .i32 b.id) ∧ W'.cell? ⟨pb, po + 1, none⟩ = some (.int .u16 b.ty) ∧ (Instr.lookup 23 mt (.int .i32 (IntKind.i32.wrap b.ty)) false).run Try.prog W' = .ok (.string ((gt b.ty).getD ⟨#[]⟩)) W' ∧ (Instr.lookup 23 mn (.int .i32 b.id) false).run Try.prog W' = .ok (.string ((gn b.id).getD ⟨#[]⟩)) W') := fun W' hW' =>
            ⟨cell_later hW' HX.out.1.c3, cell_later hW' HX.out.1.c4, cell_later hW' z0, cell_later hW' z1, by rw [wrap_u16 qb]; exact (HX.out.2.2.1.later hW').here.no _ (i32_of_u16 qb), (HX.out.2.2.2.later hW').here.no _ q0⟩
          clear z0 z1 z5 hr0
          have HO2 : Hid (bs[k] = some b) := hob
          have e4 := cell_later hbw.out HX.out.1.c4
          have HR : Hid (Row wr iv (b.items.map (Value.int .i32))) := hr
          clear hr hob q1
          go_wp2_with fail
          refine (isShadow_any _ _ _ _ _ e4 (HX.out.2.2.2.later hbw.out).here q0).mono ?_
          rintro e w1 ⟨rfl, hb3⟩
          have c5' := cell_later hb3 c5
          have HB3 : Hid (Below wr.heap.size wr w1) := hb3
          clear hb3
          cases hs : shad gn b.id with
          | true =>
            have HF := HN.out (by rw [HO2.out]; simp [holdB, hs])
            clear HN HO2
            go_wp2_with fail
            go_roundw
            case rel => exact ⟨k + 1, by omega, by go_num, rfl, rfl, rfl, HF, hb2.out.trans (HB3.out.mono hsz.out.1)⟩
            case measure => simp [intOf]; omega
          | false =>
            go_wp2_with fail
            refine (contains_any _ _ _ _ (HR.out.later HB3.out) hl).mono ?_
            rintro e w2 ⟨rfl, hw⟩
            subst hw
            cases hh : hasI b.items x with
            | false =>
              have HF := HN.out (by rw [HO2.out]; simp [holdB, hh])
              clear HN HO2
              go_wp2_with fail
              go_roundw
              case rel => exact ⟨k + 1, by omega, by go_num, rfl, rfl, rfl, HF, hb2.out.trans (HB3.out.mono hsz.out.1)⟩
              case measure => simp [intOf]; omega
            | true =>
              have HU : Hid (upOf bs gn x = some b) := by
                have h1 := holder_hit k hlt hx.out (by rw [HO2.out]; simp [holdB, hs, hh])
                obtain ⟨b', _, e1, e2, _⟩ := upOf_some h1
                rw [List.getElem?_eq_getElem hlt, HO2.out] at e1
                simp only [Option.some.injEq] at e1
                rw [e1]; exact e2
              have hbw2 : Below w.heap.size w w2 := hbw.out.trans (HB3.out.mono (by have := hsz.out; omega))
              have HM : Hid (Mine w2 w.heap.size (.slice aoV ss.length cV) ss) := (hst.out.mine.later hb2.out).later HB3.out
              have hln : ss.length ≤ 1000000 := by have := hst.out.len; omega
              have hz1 := size_getD HX.out.2.2.1.here.size b.ty
              have hz2 := size_getD HX.out.2.2.2.here.size b.id
              have HBW : Hid (Below w.heap.size w w2) := hbw2
              have HEN : Hid (entry gt gn b = (gt b.ty).getD ⟨#[]⟩ ++ ⟨#[61]⟩ ++ (gn b.id).getD ⟨#[]⟩) := rfl
              obtain ⟨ts, hts⟩ : ∃ ts, (gt b.ty).getD ⟨#[]⟩ = ts := ⟨_, rfl⟩
              obtain ⟨ns, hns⟩ : ∃ ns, (gn b.id).getD ⟨#[]⟩ = ns := ⟨_, rfl⟩
              rw [hts, hns] at HEN HS
              rw [hts] at hz1
              rw [hns] at hz2
              have HC : Hid (Calls Try.prog 13 #[.slice aoV ss.length cV, .int .i64 0, .slice (some ⟨w2.heap.size, 0, none⟩) 1 1] (w2.alloc (.cells #[.string (ts ++ ⟨#[61]⟩ ++ ns)] 9)).drew fun e w' => InsIs e w' (w2.alloc (.cells #[.string (ts ++ ⟨#[61]⟩ ++ ns)] 9)).drew w.heap.size (ts ++ ⟨#[61]⟩ ++ ns) ss) := insert_fresh w2 w.heap.size _ _ ss HM.out hbw2.size hln
              have hsw := hbw2.size
              obtain ⟨s3, s4, s0, s1, k1, k2⟩ := HS.out w2 hbw2
              clear hts hns hbw2 HN HO2 c0 c5 c5' e4 hcell hx HR
              have a1 : ∀ W, (Op.stringOp .add ts ⟨#[61]⟩).run Try.prog W = .ok (.string (ts ++ ⟨#[61]⟩)) W := fun W => run_string_add_sum (w := W) ts ⟨#[61]⟩ (by have : (⟨#[61]⟩ : ByteArray).size = 1 := rfl; omega)
              have a2 : ∀ W, (Op.stringOp .add (ts ++ ⟨#[61]⟩) ns).run Try.prog W = .ok (.string (ts ++ ⟨#[61]⟩ ++ ns)) W := fun W => run_string_add_sum (w := W) _ _ (by rw [ByteArray.size_append]; have : (⟨#[61]⟩ : ByteArray).size = 1 := rfl; omega)
              have qb0 := qb.1
              have qb1 := qb.2
              clear qb
              go_wp2_with fail
              go_region_held3 (fun W' => W'.cell? ⟨mb, 3, none⟩ = some mt ∧ W'.cell? ⟨mb, 4, none⟩ = some mn ∧ W'.cell? ⟨pb, po, none⟩ = some (.int .i32 b.id) ∧ W'.cell? ⟨pb, po + 1, none⟩ = some (.int .u16 b.ty) ∧ (Instr.lookup 23 mt (.int .i32 (IntKind.i32.wrap b.ty)) false).run Try.prog W' = .ok (.string ts) W' ∧ (Instr.lookup 23 mn (.int .i32 b.id) false).run Try.prog W' = .ok (.string ns) W')
                (first
                  | exact HS.out _ HBW.out
                  | exact HS.out _ HBW.out.drew
                  | exact HS.out _ (HBW.out.alloc hsw _)
                  | exact HS.out _ (HBW.out.alloc hsw _).drew
                  | exact HS.out _ HB5)
                ((go_at_call 13; refine HC.out.mono ?_; rintro e w3 ⟨v', rfl, hm3, hb3⟩; have HB5 : Below w.heap.size w w3 := ((HBW.out.alloc hsw _).drew).trans hb3))
              all_goals
                obtain ⟨m', hm', hst'⟩ := hst.out.up HU.out (by rw [HEN.out]; exact hm3) HB5
                have HST : Hid (LocSt w bs gt gn out N m' v' b.id w3 (entry gt gn b :: ss)) := hst'
                have d0 := (HS.out w3 HB5).2.2.1
                clear hst' hm3 hb3 HB5 HC HS a1 a2 k1 k2 s0 s1 s3 s4 HBW HM HEN
                go_wp2_with fail
                go_roundg m'
                case measure => exact hm'
                case rel => exact ⟨b.id, _, rfl, HST⟩
      · have HH : Hid (holder bs gn x = none) := holder_end (fun j ob ho => hx.out j ob (by have := (List.getElem?_eq_some_iff.mp ho).1; omega) ho)
        go_wp2_with fail
        go_ret
        exact ⟨_, rfl, by rw [← hst.out.done HH.out]; exact hst.out.mine.later hb2.out, hbw.out⟩

end Go.Proofs.Qxb6626222a
