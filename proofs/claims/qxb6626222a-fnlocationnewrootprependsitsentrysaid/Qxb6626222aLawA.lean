import Derived.Test.Qxb6626222aLoc
namespace Go.Proofs.Qxb6626222a
open Go.RowKit
attribute [local go_sem ↓] Go.wp_at_zero Go.wp_at_succ

/-- what came in -/
structure Came (w : World) (vb mt mn : Value) (bs : List (Option Bk)) (gt gn : Int → Option ByteArray) : Prop where
  b : Bks w 2 vb bs
  t : Maps w mt gt
  n : Maps w mn gn

theorem Came.later {w w' : World} {vb mt mn : Value} {bs : List (Option Bk)} {gt gn : Int → Option ByteArray} (h : Came w vb mt mn bs gt gn) (hb : Below w.heap.size w w') : Came w' vb mt mn bs gt gn := ⟨h.b.later hb, h.t.later hb, h.n.later hb⟩

/-- a nil answer is an empty location -/
theorem Mine.nil {w : World} {base : Nat} {v : Value} (h : Mine w base v []) : v = .slice none 0 0 := by
  rcases h with ⟨rfl, _⟩ | ⟨g, cap, _, h0, _⟩
  · rfl
  · exact absurd rfl h0

theorem wrap_i32_wf {t : Int} (h : (Lit.int .i32 t).wf = true) : IntKind.i32.wrap t = t := by
  simp [Lit.wf, IntKind.min, IntKind.max, IntKind.signed, IntKind.bits] at h
  rw [IntKind.wrap_i32]
  omega
theorem i32_bounds {n : Int} (h : (Lit.int .i32 n).wf = true) : -2147483648 ≤ n ∧ n ≤ 2147483647 := by
  simp [Lit.wf, IntKind.min, IntKind.max, IntKind.signed, IntKind.bits] at h
  omega

theorem own_row {w : World} {base : Nat} {v : Value} {n : Nat} {xs : List Value} (h : w.ownsRow base 9 1 v n xs) : Row w v xs := by
  have hlen : xs.length = n := by have := h.1; omega
  rcases h.2 with ⟨hv, h0⟩ | ⟨g, cap, cur, hv, hb, hg, h1, h2, h3, h4⟩
  · exact Or.inl ⟨hv, List.eq_nil_of_length_eq_zero (by omega)⟩
  · refine Or.inr ⟨⟨g, 0, none⟩, cap, by rw [hv, hlen], fun j hj => ?_⟩
    rw [Nat.mul_one] at h4
    exact World.news_of_block hg j _ (by
      rw [List.getElem?_eq_getElem (by rw [← h4, List.length_take] at hj; omega)]
      congr 1
      simp only [← h4, List.getElem_take])

theorem Try.info9 : (Try.prog.info? 9).map (fun i => (i.zero, i.size, i.bytes)) = some (some (.string ByteArray.empty), 1, 16) := by kernel_rfl

/-- the entry that is put behind the parent's location -/
theorem chain_up {bs : List (Option Bk)} {gn : Int → Option ByteArray} {x0 : Int} {b : Bk} (n : Nat) (hu : upOf bs gn x0 = some b) (h : (chain bs gn (n + 1) x0).2 = true) : (chain bs gn n b.id).2 = true := by
  rwa [chain, hu] at h
theorem loc_up {bs : List (Option Bk)} {gt gn : Int → Option ByteArray} {x0 : Int} {b : Bk} (n : Nat) (hu : upOf bs gn x0 = some b) : loc bs gt gn (n + 1) x0 = loc bs gt gn n b.id ++ [entry gt gn b] := by
  rw [loc, hu]
theorem loc_len (bs : List (Option Bk)) (gt gn : Int → Option ByteArray) : ∀ (n : Nat) (x : Int), (loc bs gt gn n x).length ≤ n
  | 0, _ => by simp [loc]
  | n + 1, x => by
    rw [loc]
    split
    · simp
    · rename_i b _
      have := loc_len bs gt gn n b.id
      simp
      omega

/-- the copy of the parent's location, so far -/
structure Want (w5 : World) (ps : List ByteArray) (k : Nat) (t : Value) (wr : World) : Prop where
  own : wr.ownsRow w5.heap.size 9 1 t k ((ps.take k).map Value.string)
  bel : Below w5.heap.size w5 wr

theorem Want.step {w5 : World} {ps : List ByteArray} {k : Nat} {t : Value} {wr w6 : World} (h : Want w5 ps k t wr) (hk : k < ps.length) (o : Obj) (hg : (wr.alloc o).grownBy w6 t.ownBlock) (v' : Value)
    (hown : w6.ownsRow w5.heap.size 9 1 v' (k + 1) ((ps.take k).map Value.string ++ [.string ps[k]])) : Want w5 ps (k + 1) v' w6 := by
  refine ⟨?_, ?_⟩
  · rw [List.take_succ_eq_append_getElem hk, List.map_append]
    exact hown
  · refine (h.bel.alloc h.bel.size o).grown hg ?_ (fun b hb => (own_lt h.own b hb).1)
    have := h.bel.size
    simp
    omega

set_option maxRecDepth 100000 in
set_option maxHeartbeats 8000000 in
theorem lawA_late (vb : Value) (rt rn : Option Nat) (bs : List (Option Bk)) (gt gn : Int → Option ByteArray) (id : Int) (w : World) (hc : Came w vb (.map rt) (.map rn) bs gt gn) (nt nn : Nat)
    (ht : ∀ ty, (Builtin.len_ #[23] ty #[.map rt]).run Try.prog w = .ok (.int .i64 (nt : Int)) w) (hn : ∀ ty, (Builtin.len_ #[23] ty #[.map rn]).run Try.prog w = .ok (.int .i64 (nn : Int)) w)
    (h1 : bs.length ≤ 4096) (h2 : nt ≤ 65536) (h3 : nn ≤ 65536) :
    Calls Try.prog 3 #[vb, .map rt, .map rn, .int .i64 id] w fun e w' => e = .returned (.bool true) ∧ Below w.heap.size w w' := by
  obtain ⟨ao, c, rfl⟩ := hc.b.form
  have HC : Hid (Came w (.slice ao bs.length c) (.map rt) (.map rn) bs gt gn) := hc
  clear hc
  obtain ⟨x0, hx0⟩ : ∃ x0, IntKind.i32.wrap id = x0 := ⟨_, rfl⟩
  go_enter Try.func3, Try.ntmps3
  go_wp2_with fail
  go_loop [9, 10] (fun t i => ∃ (k : Nat) (z : Int), k ≤ bs.length ∧ i = .int .i64 k ∧ t = .int .i64 z) (fun _ i => bs.length - (intOf i).toNat)
  case atStart => exact ⟨0, _, Nat.zero_le _, rfl, rfl⟩
  case round =>
    obtain ⟨k, z, hk, rfl, rfl⟩ := hrel
    by_cases hlt : k < bs.length
    · by_cases hz : z ≤ 1048576
      · obtain ⟨bb, off, xv, rfl, hbb, hcell, hpt⟩ := HC.out.b.at k hlt
        cases hob : bs[k] with
        | none =>
          rw [hob] at hpt
          have hpt' : xv = .pointer none := hpt
          subst hpt'
          clear hpt hob
          go_wp2_with fail
          go_round
          case rel => exact ⟨k + 1, _, by omega, by go_num, rfl⟩
          case measure => simp [intOf]; omega
        | some b =>
          rw [hob] at hpt
          obtain ⟨p, rfl, pb, po, iv, rfl, z0, z1, z2, hr0, hl, q0, q1⟩ := hpt
          obtain ⟨ai, ci, rfl⟩ := hr0.form
          simp only [List.length_map] at z2
          clear hr0 hob z0 z1
          go_wp2_with fail
          go_round
          case rel => exact ⟨k + 1, _, by omega, by go_num, rfl⟩
          case measure => simp [intOf]; omega
      · have hz' : (1048576 : Int) < z := by omega
        clear hz
        go_wp2_with fail
        go_ret
        exact ⟨rfl, Below.refl _ _⟩
    · have hkn : k = bs.length := by omega
      subst hkn
      clear hk hlt
      by_cases hz : z ≤ 1048576
      case neg =>
        have hz' : (1048576 : Int) < z := by omega
        clear hz
        go_wp2_with fail
        go_ret
        exact ⟨rfl, Below.refl _ _⟩
      clear ht hn
      go_wp2_with fail
      refine (top_any _ _ bs gn _ _ HC.out.b HC.out.n.here (by omega)).mono ?_
      rintro e w1 ⟨he, hw⟩
      subst hw
      obtain ⟨tp, en, hce⟩ : ∃ tp en, chain bs gn (bs.length + 1) x0 = (tp, en) := ⟨_, _, rfl⟩
      rw [hce] at he
      have he' : e = .returned (.tuple #[.int .i32 tp, .bool en]) := he
      subst he'
      clear he
      cases en with
      | false =>
        clear hce
        go_wp2_with fail
        go_ret
        exact ⟨rfl, Below.refl _ _⟩
      | true =>
        have HE : Hid ((chain bs gn (bs.length + 1) x0).2 = true) := by show (chain bs gn (bs.length + 1) x0).2 = true; rw [hce]
        clear hce
        go_wp2_with fail
        refine (build_any _ _ _ bs _ rt rn rfl rfl HC.out.b (by omega)).mono ?_
        rintro e w2 ⟨mb, v, rfl, hbox, hbk, hb2⟩
        have HX : Hid (MapBox w2 mb v (.map rt) (.map rn) ∧ Bks w2 5 v bs ∧ Below w1.heap.size w1 w2) := ⟨hbox, hbk, hb2⟩
        clear hbox hbk hb2
        go_wp2_with fail
        refine (location_any mb v (.map rt) (.map rn) bs gt gn id x0 (bs.length + 1) _ hx0 HX.out.1 HX.out.2.1 (HC.out.t.later HX.out.2.2) (HC.out.n.later HX.out.2.2) (by omega) (by omega) HE.out).mono ?_
        rintro e w3 ⟨vg, rfl, hmg, hb3⟩
        have HG : Hid (Mine w3 w2.heap.size vg (loc bs gt gn (bs.length + 1) x0) ∧ Below w2.heap.size w2 w3 ∧ Below w1.heap.size w1 w3) := ⟨hmg, hb3, HX.out.2.2.trans (hb3.mono HX.out.2.2.size)⟩
        clear hmg hb3
        go_wp2_with fail
        refine (first_any _ _ bs gn _ _ (HC.out.later HG.out.2.2).b (HC.out.later HG.out.2.2).n.here (by omega)).mono ?_
        rintro e w4 ⟨he, hw⟩
        subst hw
        cases hh : holder bs gn x0 with
        | none =>
          rw [hh] at he
          have he' : e = .returned (.tuple #[.int .i64 0, .bool false]) := he
          subst he'
          have hvg : vg = .slice none 0 0 := by
            have h1 := HG.out.1
            rw [loc_none (upOf_none hh)] at h1
            exact h1.nil
          subst hvg
          have HB : Hid (Below w1.heap.size w1 w4) := HG.out.2.2
          have heq := fun w (a : Option Addr) (n c : Nat) => Lib.run_eql_slice_nil (P := Try.prog) w 33 9 a n c 0 0 Try.underlying33
          clear he hh HG HX HE HC
          go_wp2_with fail
          go_ret
          exact ⟨rfl, HB.out⟩
        | some h =>
          rw [hh] at he
          have he' : e = .returned (.tuple #[.int .i64 (h : Int), .bool true]) := he
          subst he'
          obtain ⟨b, hj, hbj, hup, _⟩ := upOf_some hh
          clear he
          obtain ⟨bb, off, xv, rfl, hbb, hcell, hpt⟩ := HC.out.b.at h hj
          rw [List.getElem?_eq_getElem hj] at hbj
          rw [Option.some.inj hbj] at hpt
          obtain ⟨p, rfl, pb, po, iv, rfl, z0, z1, z2, hr0, hl, q0, q1⟩ := hpt
          have hcell4 := cell_later HG.out.2.2 hcell
          have hz04 := cell_later HG.out.2.2 z0
          have HZ : Hid (w1.cell? ⟨pb, po, none⟩ = some (.int .i32 b.id) ∧ w1.cell? ⟨pb, po + 1, none⟩ = some (.int .u16 b.ty) ∧ (Lit.int .i32 b.id).wf = true ∧ (Lit.int .u16 b.ty).wf = true ∧ upOf bs gn x0 = some b) := ⟨z0, z1, q0, q1, hup⟩
          have qi := i32_bounds q0
          have qi0 := qi.1
          have qi1 := qi.2
          have hw32 := wrap_i32_wf q0
          clear z0 z1 z2 hr0 hl q0 q1 hbj hup hh hcell qi
          go_wp2_with fail
          refine (location_any mb v (.map rt) (.map rn) bs gt gn b.id b.id bs.length _ hw32 (HX.out.1.later HG.out.2.1) (HX.out.2.1.later HG.out.2.1) (HC.out.later HG.out.2.2).t (HC.out.later HG.out.2.2).n (by omega) (by omega) (chain_up _ HZ.out.2.2.2.2 HE.out)).mono ?_
          rintro e w5 ⟨vq, rfl, hmq, hb5⟩
          obtain ⟨aq, cq, rfl⟩ := hmq.form
          have HQ : Hid (Mine w5 w4.heap.size (.slice aq (loc bs gt gn bs.length b.id).length cq) (loc bs gt gn bs.length b.id) ∧ Below w4.heap.size w4 w5 ∧ Below w1.heap.size w1 w5 ∧ Mine w5 w2.heap.size vg (loc bs gt gn (bs.length + 1) x0)) := ⟨hmq, hb5, HG.out.2.2.trans (hb5.mono HG.out.2.2.size), HG.out.1.later hb5⟩
          have hlq := loc_len bs gt gn bs.length b.id
          obtain ⟨ps, hps⟩ : ∃ ps, loc bs gt gn bs.length b.id = ps := ⟨_, rfl⟩
          rw [hps] at HQ hlq ⊢
          have HP : Hid (loc bs gt gn bs.length b.id = ps) := hps
          clear hmq hb5 hps HG HX HE
          obtain ⟨i0, hi0, hzz0, hzz1, hzz2⟩ := info_parts Try.info9
          have HS : Hid (∀ W', Below w1.heap.size w1 W' → W'.cell? ⟨pb, po, none⟩ = some (.int .i32 b.id) ∧ W'.cell? ⟨pb, po + 1, none⟩ = some (.int .u16 b.ty) ∧ (Instr.lookup 23 (.map rt) (.int .i32 (IntKind.i32.wrap b.ty)) false).run Try.prog W' = .ok (.string ((gt b.ty).getD ⟨#[]⟩)) W' ∧ (Instr.lookup 23 (.map rn) (.int .i32 b.id) false).run Try.prog W' = .ok (.string ((gn b.id).getD ⟨#[]⟩)) W') := fun W' hW' =>
            ⟨cell_later hW' HZ.out.1, cell_later hW' HZ.out.2.1, by rw [wrap_u16 (u16_bounds HZ.out.2.2.2.1)]; exact (HC.out.later hW').t.here.no _ (i32_of_u16 (u16_bounds HZ.out.2.2.2.1)), (HC.out.later hW').n.here.no _ HZ.out.2.2.1⟩
          have hz1 := size_getD HC.out.t.here.size b.ty
          have hz2 := size_getD HC.out.n.here.size b.id
          have HL : Hid (loc bs gt gn (bs.length + 1) x0 = ps ++ [entry gt gn b]) := by
            show _ = _
            rw [loc_up _ HZ.out.2.2.2.2, HP.out]
          have HEN : Hid (entry gt gn b = (gt b.ty).getD ⟨#[]⟩ ++ ⟨#[61]⟩ ++ (gn b.id).getD ⟨#[]⟩) := rfl
          have qb := u16_bounds HZ.out.2.2.2.1
          have qb0 := qb.1
          have qb1 := qb.2
          obtain ⟨ts, hts⟩ : ∃ ts, (gt b.ty).getD ⟨#[]⟩ = ts := ⟨_, rfl⟩
          obtain ⟨ns, hns⟩ : ∃ ns, (gn b.id).getD ⟨#[]⟩ = ns := ⟨_, rfl⟩
          rw [hts, hns] at HEN HS
          rw [hts] at hz1
          rw [hns] at hz2
          clear hts hns qb hw32 hcell4 hz04
          go_wp2_with fail
          go_loopw [19, 20] (fun t i wr => ∃ k : Nat, k ≤ ps.length ∧ i = .int .i64 k ∧ Hid (Want w5 ps k t wr)) (fun _ i _ => ps.length - (intOf i).toNat)
          case atStart => exact ⟨0, Nat.zero_le _, rfl, World.ownsRow_nil _ _ _ _, Below.refl _ _⟩
          case round =>
            obtain ⟨m, hm, rfl, hW⟩ := hrel
            have hws : w5.heap.size ≤ wr.heap.size := hW.out.bel.size
            by_cases hlt : m < ps.length
            · obtain ⟨b2, off2, rfl, hb2, hc2⟩ := (HQ.out.1.row.later hW.out.bel).at (by simp; omega)
              have hcs := Row.strs hc2 m hlt
              clear hc2
              obtain ⟨st, hst⟩ : ∃ st, ps[m] = st := ⟨_, rfl⟩
              rw [hst] at hcs
              have HT : Hid (ps[m] = st) := hst
              clear hst
              go_wp2_with (at_builtin; refine wpList_append_lies _ rfl _ _ 33 rfl w5.heap.size 9 i0 (.string ByteArray.empty) 1 16 Try.underlying33 hi0 hzz0 hzz1 hzz2 rfl (by decide) _ m _ rfl (hW.out.own.alloc _) ⟨wr.heap.size, 0, none⟩ 1 1 [.string st] rfl rfl (cell_one_new _ _ _) (by simp [Value.oneCell']) (by omega) (by unfold maxLen; omega) (by omega) (by simp; omega) (wr.heap.size + 1) (by simp) ?_; intro g cap w6 hown hgrow hat hlt1)
              go_roundw
              case rel => exact ⟨m + 1, by omega, by go_num, hW.out.step hlt _ hgrow _ (by rw [HT.out]; exact hown)⟩
              case measure => simp [intOf]; omega
            · have hmn : m = ps.length := by omega
              subst hmn
              have HW : Hid (wr.ownsRow w5.heap.size 9 1 u19 ps.length (ps.map Value.string) ∧ Below w5.heap.size w5 wr ∧ Below w1.heap.size w1 wr) := ⟨by have := hW.out.own; rwa [List.take_length] at this, hW.out.bel, HQ.out.2.2.1.trans (hW.out.bel.mono HQ.out.2.2.1.size)⟩
              have a1 : ∀ W, (Op.stringOp .add ts ⟨#[61]⟩).run Try.prog W = .ok (.string (ts ++ ⟨#[61]⟩)) W := fun W => run_string_add_sum (w := W) ts ⟨#[61]⟩ (by have : (⟨#[61]⟩ : ByteArray).size = 1 := rfl; omega)
              have a2 : ∀ W, (Op.stringOp .add (ts ++ ⟨#[61]⟩) ns).run Try.prog W = .ok (.string (ts ++ ⟨#[61]⟩ ++ ns)) W := fun W => run_string_add_sum (w := W) _ _ (by rw [ByteArray.size_append]; have : (⟨#[61]⟩ : ByteArray).size = 1 := rfl; omega)
              obtain ⟨s0, s1, k1, k2⟩ := HS.out wr HW.out.2.2
              have hsw : w1.heap.size ≤ wr.heap.size := HW.out.2.2.size
              have hs5 : w1.heap.size ≤ w5.heap.size := HQ.out.2.2.1.size
              clear hW hm hlt
              go_wp2_with fail
              go_region_held3 (fun W' => W'.cell? ⟨pb, po, none⟩ = some (.int .i32 b.id) ∧ W'.cell? ⟨pb, po + 1, none⟩ = some (.int .u16 b.ty) ∧ (Instr.lookup 23 (.map rt) (.int .i32 (IntKind.i32.wrap b.ty)) false).run Try.prog W' = .ok (.string ts) W' ∧ (Instr.lookup 23 (.map rn) (.int .i32 b.id) false).run Try.prog W' = .ok (.string ns) W')
                (first
                  | exact HS.out _ HW.out.2.2
                  | exact HS.out _ HW.out.2.2.drew
                  | exact HS.out _ (HW.out.2.2.alloc hsw _)
                  | exact HS.out _ (HW.out.2.2.alloc hsw _).drew
                  | exact HS.out _ HB7)
                ((refine step_append_lies _ (by rfl) _ _ _ (by rfl) w5.heap.size 9 i0 (.string ByteArray.empty) 1 16 Try.underlying33 hi0 hzz0 hzz1 hzz2 rfl (by decide) _ ps.length _ (by rfl) ((HW.out.1.alloc _).drew) ⟨wr.heap.size, 0, none⟩ 1 1 [.string (ts ++ ⟨#[61]⟩ ++ ns)] (by rfl) (by rfl) (cell_one_new _ _ _) (by simp [Value.oneCell']) (by omega) (by unfold maxLen; omega) (by omega) (by simp; omega) (wr.heap.size + 1) (by simp) ?_; intro g cap w7 hown hgrow hat hlt1; have HB57 : Below w5.heap.size w5 w7 := (HW.out.2.1.alloc hws _).drew.grown hgrow (Nat.le_trans hws (by simp)) (fun b hb => (own_lt HW.out.1 b hb).1); have HB7 : Below w1.heap.size w1 w7 := HQ.out.2.2.1.trans (HB57.mono hs5)))
              all_goals
                have hrw : Row w7 (.slice (some ⟨g, 0, none⟩) (ps.length + 1) cap) ((ps ++ [entry gt gn b]).map Value.string) := by
                  have := own_row hown
                  rw [List.map_append, HEN.out]
                  exact this
                have hrg : Row w7 vg ((ps ++ [entry gt gn b]).map Value.string) := by
                  have := HQ.out.2.2.2.row.later HB57
                  rwa [HL.out] at this
                have HR : Hid (Row w7 (.slice (some ⟨g, 0, none⟩) (ps.length + 1) cap) ((ps ++ [entry gt gn b]).map Value.string) ∧ Row w7 vg ((ps ++ [entry gt gn b]).map Value.string) ∧ Below w1.heap.size w1 w7) := ⟨hrw, hrg, HB7⟩
                clear hrw hrg hown hgrow hat hlt1 HB57 HB7 HS a1 a2 k1 k2 s0 s1 HEN HL HQ HW HC HZ
                go_wp2_with fail
                refine (same_any _ _ _ _ _ HR.out.2.1 HR.out.1 (by simp; omega) (by simp; omega)).mono ?_
                have hss : sameS (ps ++ [entry gt gn b]) (ps ++ [entry gt gn b]) = true := by simp [sameS]
                rw [hss]
                rintro e w8 ⟨rfl, hb8⟩
                have HF : Hid (Below w1.heap.size w1 w8) := HR.out.2.2.trans (hb8.mono HR.out.2.2.size)
                clear hb8 hss HR
                go_wp2_with fail
                go_ret
                exact ⟨rfl, HF.out⟩

end Go.Proofs.Qxb6626222a
