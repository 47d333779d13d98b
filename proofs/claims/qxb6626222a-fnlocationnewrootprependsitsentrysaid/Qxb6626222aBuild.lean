import Derived.Test.Qxb6626222aTop
import Derived.Test.Qxb6626222aSame
import Derived.Deep.RegionHeld3
import Derived.Deep.AppendLies
import Derived.Deep.DrawnRows
namespace Go.Proofs.Qxb6626222a
open Go.RowKit
attribute [local go_sem ↓] Go.wp_at_zero Go.wp_at_succ

theorem Try.info49 : (Try.prog.info? 49).map (fun i => (i.zero, i.size, i.bytes)) = some (some (.pointer none), 1, 8) := by kernel_rfl

theorem news_second (w : World) (o : Obj) (x : Value) (t : TypeId) : ∀ (j : Nat) u, [x][j]? = some u → ((w.alloc o).alloc (.cells #[x] t)).drew.cell? ((⟨w.heap.size + 1, 0, none⟩ : Addr).add j) = some u := fun j u hj => by
  have := cell_one_new (w.alloc o) x t j u hj
  rwa [World.size_alloc] at this

/-- a slot of the copy that is being made: nil, or a box of the call's own, apart from the row itself -/
def BoxAt (w wr : World) (v : Value) (x : Value) : Option Bk → Prop
  | none => x = .pointer none
  | some b => ∃ pb iv, x = .pointer (some ⟨pb, 0, none⟩) ∧ w.heap.size ≤ pb ∧ pb < wr.heap.size ∧ v.ownBlock ≠ some pb ∧ wr.cell? ⟨pb, 0, none⟩ = some (.int .i32 b.id) ∧ wr.cell? ⟨pb, 1, none⟩ = some (.int .u16 b.ty) ∧ wr.cell? ⟨pb, 5, none⟩ = some iv ∧
      Row w iv (b.items.map (Value.int .i32)) ∧ b.items.length ≤ 9223372036854775807 ∧ (Lit.int .i32 b.id).wf = true ∧ (Lit.int .u16 b.ty).wf = true

/-- the first k slots are copied -/
structure Built (w : World) (bs : List (Option Bk)) (k : Nat) (xs : List Value) (v : Value) (wr : World) : Prop where
  own : wr.ownsRow w.heap.size 49 1 v k xs
  bel : Below w.heap.size w wr
  box : ∀ (j : Nat) x ob, xs[j]? = some x → bs[j]? = some ob → BoxAt w wr v x ob

theorem own_lt {w : World} {base : Nat} {e : TypeId} {size : Nat} {v : Value} {n : Nat} {xs : List Value} (h : w.ownsRow base e size v n xs) (b : Nat) (hb : v.ownBlock = some b) : base ≤ b ∧ b < w.heap.size := by
  rcases h.2 with ⟨rfl, _⟩ | ⟨g, cap, cur, rfl, hb', hg, _⟩
  · simp [Value.ownBlock] at hb
  · simp only [Value.ownBlock, Option.some.injEq] at hb
    subst hb
    refine ⟨hb', ?_⟩
    rcases Nat.lt_or_ge g w.heap.size with hlt | hge
    · exact hlt
    · rw [Array.getElem?_eq_none hge] at hg; cases hg

theorem BoxAt.step {w wr W w1 : World} {v v' : Value} {x : Value} {ob : Option Bk} (h : BoxAt w wr v x ob) (hW : Below wr.heap.size wr W) (hg : W.grownBy w1 v.ownBlock) (g : Nat) (hv' : v'.ownBlock = some g) (hl : v.ownBlock = some g ∨ W.heap.size ≤ g) : BoxAt w w1 v' x ob := by
  cases ob with
  | none => exact h
  | some b =>
    obtain ⟨pb, iv, rfl, h1, h2, h3, c0, c1, c5, r⟩ := h
    have hs := hW.size
    have e : ∀ o, w1.cell? ⟨pb, o, none⟩ = wr.cell? ⟨pb, o, none⟩ := fun o => by
      rw [hg.cell_far ⟨pb, o, none⟩ (by show pb < _; omega) (Ne.symm h3), hW.cell (p := ⟨pb, o, none⟩) h2]
    refine ⟨pb, iv, rfl, h1, by have := hg.size; omega, ?_, by rw [e]; exact c0, by rw [e]; exact c1, by rw [e]; exact c5, r⟩
    rw [hv']
    intro e2
    rcases hl with hl | hl
    · exact h3 (hl.trans e2)
    · simp only [Option.some.injEq] at e2; omega

/-- one more slot -/
theorem Built.step {w : World} {bs : List (Option Bk)} {k : Nat} {xs : List Value} {v : Value} {wr W w1 : World} (h : Built w bs k xs v wr) (hW : Below wr.heap.size wr W) (hg : W.grownBy w1 v.ownBlock) (g cap : Nat) (x : Value)
    (hown : w1.ownsRow w.heap.size 49 1 (.slice (some ⟨g, 0, none⟩) (k + 1) cap) (k + 1) (xs ++ [x])) (hl : v.ownBlock = some g ∨ W.heap.size ≤ g)
    (hx : ∀ ob, bs[k]? = some ob → BoxAt w w1 (.slice (some ⟨g, 0, none⟩) (k + 1) cap) x ob) : Built w bs (k + 1) (xs ++ [x]) (.slice (some ⟨g, 0, none⟩) (k + 1) cap) w1 := by
  have hlen : xs.length = k := by have := h.own.1; omega
  refine ⟨hown, ?_, fun j y ob hj ho => ?_⟩
  · refine (h.bel.trans (hW.mono h.bel.size)).grown hg ?_ (fun b hb => (own_lt h.own b hb).1)
    have := h.bel.size; have := hW.size; omega
  · by_cases hjk : j < k
    · rw [List.getElem?_append_left (by omega)] at hj
      exact (h.box j y ob hj ho).step hW hg g rfl hl
    · have e : j = k := by
        have := (List.getElem?_eq_some_iff.mp hj).1
        simp at this
        omega
      subst e
      rw [List.getElem?_append_right (by omega), hlen, Nat.sub_self] at hj
      simp only [List.getElem?_cons_zero, Option.some.injEq] at hj
      subst hj
      exact hx ob ho

/-- the box that has just been laid -/
theorem box_new {w wr w1 : World} {u7 : Value} {k g cap : Nat} {xs : List Value} (own : wr.ownsRow w.heap.size 49 1 u7 k xs) (b : Bk) (iv : Value) (x2 x3 x4 x6 x7 : Value) (o : Obj) (hbase : w.heap.size ≤ wr.heap.size)
    (hg : (((wr.alloc (.cells #[.int .i32 b.id, .int .u16 b.ty, x2, x3, x4, iv, x6, x7] 52)).alloc o).drew).grownBy w1 u7.ownBlock) (hl : u7.ownBlock = some g ∨ g = wr.heap.size + 1 + 1)
    (hr : Row w iv (b.items.map (Value.int .i32)) ∧ b.items.length ≤ 9223372036854775807 ∧ (Lit.int .i32 b.id).wf = true ∧ (Lit.int .u16 b.ty).wf = true) :
    BoxAt w w1 (.slice (some ⟨g, 0, none⟩) (k + 1) cap) (.pointer (some ⟨wr.heap.size, 0, none⟩)) (some b) := by
  have hne : u7.ownBlock ≠ some wr.heap.size := fun e => by have := (own_lt own _ e).2; omega
  have e : ∀ j, w1.cell? ⟨wr.heap.size, j, none⟩ = (#[.int .i32 b.id, .int .u16 b.ty, x2, x3, x4, iv, x6, x7] : Array Value)[j]? := fun j => by
    rw [hg.cell_far ⟨wr.heap.size, j, none⟩ (by show wr.heap.size < ((wr.alloc _).alloc o).heap.size; simp; omega) (Ne.symm hne)]
    show ((wr.alloc _).alloc o).cell? _ = _
    rw [World.cell?_alloc_past _ _ _ (by simp), World.cell?_alloc_at _ _ _ _ rfl]
  refine ⟨wr.heap.size, iv, rfl, hbase, ?_, ?_, by rw [e]; rfl, by rw [e]; rfl, by rw [e]; rfl, hr⟩
  · have h1 := hg.size
    have h2 : ((wr.alloc (.cells #[.int .i32 b.id, .int .u16 b.ty, x2, x3, x4, iv, x6, x7] 52)).alloc o).heap.size ≤ w1.heap.size := h1
    simp at h2
    omega
  · simp only [Value.ownBlock]
    intro e2
    simp only [Option.some.injEq] at e2
    rcases hl with hl | hl
    · rw [e2] at hl; exact hne hl
    · omega

theorem Built.zero (w : World) (bs : List (Option Bk)) : Built w bs 0 [] (.slice none 0 0) w := ⟨World.ownsRow_nil _ _ _ _, Below.refl _ _, fun j x ob hj => by simp at hj⟩

/-- all slots: the copy as the map holds it -/
theorem Built.bks {w : World} {bs : List (Option Bk)} {xs : List Value} {v : Value} {wr : World} (h : Built w bs bs.length xs v wr) : Bks wr 5 v bs := by
  have hlen : xs.length = bs.length := by have := h.own.1; omega
  refine ⟨xs, ?_, hlen, fun j x ob hj ho => ?_⟩
  · rcases h.own.2 with ⟨hv, h0⟩ | ⟨g, cap, cur, hv, hb, hg, h1, h2, h3, h4⟩
    · exact Or.inl ⟨hv, List.eq_nil_of_length_eq_zero (by omega)⟩
    · refine Or.inr ⟨⟨g, 0, none⟩, cap, by rw [hv, hlen], fun j hj => ?_⟩
      rw [Nat.mul_one] at h4
      exact World.news_of_block hg j _ (by
        rw [List.getElem?_eq_getElem (by rw [← h4, List.length_take] at hj; omega)]
        congr 1
        simp only [← h4, List.getElem_take])
  · have hb := h.box j x ob hj ho
    cases ob with
    | none => exact hb
    | some b =>
      obtain ⟨pb, iv, rfl, h1, h2, h3, c0, c1, c5, r, l, w0, w1⟩ := hb
      exact ⟨_, rfl, pb, 0, iv, rfl, c0, c1, by simpa using c5, r.later h.bel, l, w0, w1⟩

/-- what a CrushMap's box holds, as far as it is read -/
structure MapBox (w : World) (mb : Nat) (v mt mn : Value) : Prop where
  c0 : w.cell? ⟨mb, 0, none⟩ = some v
  c3 : w.cell? ⟨mb, 3, none⟩ = some mt
  c4 : w.cell? ⟨mb, 4, none⟩ = some mn

theorem MapBox.later {w w' : World} {mb : Nat} {v mt mn : Value} (h : MapBox w mb v mt mn) (hb : Below w.heap.size w w') : MapBox w' mb v mt mn := ⟨cell_later hb h.c0, cell_later hb h.c3, cell_later hb h.c4⟩

/-- what zzBuild hands back -/
def BuiltIs (e : Ending) (w w' : World) (bs : List (Option Bk)) (mt mn : Value) : Prop :=
  ∃ mb v, e = .returned (.pointer (some ⟨mb, 0, none⟩)) ∧ MapBox w' mb v mt mn ∧ Bks w' 5 v bs ∧ Below w.heap.size w w'

set_option maxRecDepth 100000 in
set_option maxHeartbeats 4000000 in
theorem build_any (vb mt mn : Value) (bs : List (Option Bk)) (w : World) (rt rn : Option Nat) (ht : mt = .map rt) (hn : mn = .map rn) (hb : Bks w 2 vb bs) (hlen : bs.length ≤ 1000000) :
    Calls Try.prog 6 #[vb, mt, mn] w fun e w' => BuiltIs e w w' bs mt mn := by
  subst ht hn
  obtain ⟨ao, c, rfl⟩ := hb.form
  have HB : Hid (Bks w 2 (.slice ao bs.length c) bs) := hb
  clear hb
  obtain ⟨i0, hi0, hz0, hz1, hz2⟩ := info_parts Try.info49
  go_enter Try.func6, Try.ntmps6
  go_wp2_with fail
  go_loopw [7, 8] (fun v i wr => ∃ (k : Nat) (xs : List Value), k ≤ bs.length ∧ i = .int .i64 k ∧ Hid (Built w bs k xs v wr)) (fun _ i _ => bs.length - (intOf i).toNat)
  case atStart => exact ⟨0, [], Nat.zero_le _, rfl, Built.zero w bs⟩
  case round =>
    obtain ⟨k, xs, hk, rfl, hB⟩ := hrel
    by_cases hlt : k < bs.length
    · obtain ⟨sb, soff, xv, rfl, hsb, hcell0, hpt0⟩ := HB.out.at k hlt
      have hcell := cell_later hB.out.bel hcell0
      have hpt := hpt0.later hB.out.bel
      have hbase : w.heap.size ≤ wr.heap.size := hB.out.bel.size
      cases hob : bs[k] with
      | none =>
        rw [hob] at hpt
        have hpt' : xv = .pointer none := hpt
        subst hpt'
        clear hpt hpt0 hcell0
        have HO : Hid (bs[k]? = some none) := by
          show bs[k]? = _
          rw [List.getElem?_eq_getElem hlt, hob]
        clear hob
        go_wp2_with (at_builtin; refine wpList_append_lies _ rfl _ _ 39 rfl w.heap.size 49 i0 (.pointer none) 1 8 Try.underlying39 hi0 hz0 hz1 hz2 rfl (by decide) _ k xs rfl (hB.out.own.alloc _) ⟨wr.heap.size, 0, none⟩ 1 1 [.pointer none] rfl rfl (cell_one_new _ _ _) (by simp [Value.oneCell']) (by omega) (by unfold maxLen; omega) (by omega) (by simp; omega) (wr.heap.size + 1) (by simp) ?_; intro g cap w1 hown hgrow hat hlt1)
        go_roundw
        case rel => exact ⟨k + 1, xs ++ [.pointer none], by omega, by go_num, hB.out.step (W := wr.alloc _) ((Below.refl _ _).alloc (Nat.le_refl _) _) hgrow g cap _ hown (hat.imp id (fun h => by simp; omega)) (fun ob ho => by rw [HO.out] at ho; cases ho; rfl)⟩
        case measure => simp [intOf]; omega
      | some b =>
        rw [hob] at hpt hpt0
        obtain ⟨p, rfl, pb, po, iv, rfl, c0, c1, c2, hr, hl, q0, q1⟩ := hpt
        obtain ⟨p', hp', pb', po', iv', rfl, c0', c1', c2', hr', _⟩ := hpt0
        have hrow : Row w iv (b.items.map (Value.int .i32)) := by
          simp only [Value.pointer.injEq, Option.some.injEq, Addr.mk.injEq] at hp'
          obtain ⟨rfl, rfl, _⟩ := hp'
          have := cell_later hB.out.bel c2'
          rw [this] at c2
          rw [← Option.some.inj c2]
          exact hr'
        obtain ⟨ai, ci, rfl⟩ := hr.form
        have HR : Hid (Row w (.slice ai (b.items.map (Value.int .i32)).length ci) (b.items.map (Value.int .i32)) ∧ b.items.length ≤ 9223372036854775807 ∧ (Lit.int .i32 b.id).wf = true ∧ (Lit.int .u16 b.ty).wf = true) := ⟨hrow, hl, q0, q1⟩
        have HO : Hid (bs[k]? = some (some b)) := by
          show bs[k]? = _
          rw [List.getElem?_eq_getElem hlt, hob]
        have hpw : pb < w.heap.size := by
          simp only [Value.pointer.injEq, Option.some.injEq, Addr.mk.injEq] at hp'
          rw [hp'.1]
          exact World.block_lt_of_cell? _ _ c0'
        have ag1 : u7.ownBlock ≠ some sb := fun e => by have := (own_lt hB.out.own _ e).1; omega
        have ag2 : u7.ownBlock ≠ some pb := fun e => by have := (own_lt hB.out.own _ e).1; omega
        clear hr hr' hrow hp' c0' c1' c2' hcell0 hob hl q0 q1
        have hs0 : (0 : Int) ≤ (k : Int) := by omega
        have hs1 : (k : Int) < (bs.length : Int) := by omega
        have hl1 : sb < wr.heap.size := World.block_lt_of_cell? _ _ hcell
        have hl2 : pb < wr.heap.size := World.block_lt_of_cell? _ _ c0
        simp only [List.length_map] at c2
        go_wp2_with fail
        go_region_held3 (fun w' => w'.cell? ⟨sb, soff + k, none⟩ = some (.pointer (some ⟨pb, po, none⟩)) ∧ w'.cell? ⟨pb, po, none⟩ = some (.int .i32 b.id) ∧ w'.cell? ⟨pb, po + 1, none⟩ = some (.int .u16 b.ty) ∧ w'.cell? ⟨pb, po + 2, none⟩ = some (.slice ai b.items.length ci))
          (first
            | go_keep
            | (go_split_ands
               refine ⟨?_, ?_, ?_, ?_⟩
               · (rw [hgrow.cell_far _ (by simp; omega) (Ne.symm ag1)]; assumption)
               · (rw [hgrow.cell_far _ (by simp; omega) (Ne.symm ag2)]; assumption)
               · (rw [hgrow.cell_far _ (by simp; omega) (Ne.symm ag2)]; assumption)
               · (rw [hgrow.cell_far _ (by simp; omega) (Ne.symm ag2)]; assumption)))
          ((refine step_append_lies _ (by rfl) _ _ _ (by rfl) w.heap.size 49 i0 (.pointer none) 1 8 Try.underlying39 hi0 hz0 hz1 hz2 rfl (by decide) _ k xs (by rfl) (((hB.out.own.alloc _).alloc _).drew) ⟨wr.heap.size + 1, 0, none⟩ 1 1 [.pointer (some ⟨wr.heap.size, 0, none⟩)] (by rfl) (by rfl) (news_second _ _ _ _) (by simp [Value.oneCell']) (by omega) (by unfold maxLen; omega) (by omega) (by simp; omega) (wr.heap.size + 1 + 1) (by simp) ?_; intro g cap w1 hown hgrow hat hlt1))
        have hW : Below wr.heap.size wr (((wr.alloc (.cells #[.int .i32 b.id, .int .u16 b.ty, .int .u8 0, .int .u8 0, .int .u32 0, .slice ai b.items.length ci, .slice none 0 0, .slice none 0 0] 52)).alloc (.cells #[.pointer (some ⟨wr.heap.size, 0, none⟩)] 49)).drew) := (((Below.refl _ _).alloc (Nat.le_refl _) _).alloc (by simp) _).drew
        have HS : Hid (Built w bs (k + 1) (xs ++ [.pointer (some ⟨wr.heap.size, 0, none⟩)]) (.slice (some ⟨g, 0, none⟩) (k + 1) cap) w1) :=
          hB.out.step hW hgrow g cap _ hown (hat.imp id (fun h => by show ((wr.alloc _).alloc _).heap.size ≤ g; simp; omega)) (fun ob ho => by
            rw [HO.out] at ho
            cases ho
            exact box_new hB.out.own b _ _ _ _ _ _ _ hbase hgrow hat (by simpa using HR.out))
        clear hW hown hgrow hat hlt1 HR HO
        go_wp2_with fail
        go_roundw
        case rel => exact ⟨k + 1, _, by omega, by go_num, HS⟩
        case measure => simp [intOf]; omega
    · have hkn : k = bs.length := by omega
      subst hkn
      have hbk := hB.out.bks
      have hbl := hB.out.bel
      have HF : Hid (Bks wr 5 u7 bs ∧ Below w.heap.size w wr) := ⟨hbk, hbl⟩
      obtain ⟨ao2, c2, rfl⟩ := hbk.form
      clear hbk hbl hB
      go_wp2_with fail
      go_ret
      exact ⟨wr.heap.size, _, rfl, ⟨by simp [go_sem], by simp [go_sem], by simp [go_sem]⟩, HF.out.1.later ((Below.refl _ _).alloc (Nat.le_refl _) _), HF.out.2.alloc HF.out.2.size _⟩

end Go.Proofs.Qxb6626222a
