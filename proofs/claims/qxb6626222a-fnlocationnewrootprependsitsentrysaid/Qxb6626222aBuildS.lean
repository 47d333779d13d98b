import Derived.Test.Qxb6626222aBuild
namespace Go.Proofs.Qxb6626222a
open Go.RowKit
attribute [local go_sem ↓] Go.wp_at_zero Go.wp_at_succ

/-- the CrushMap's nineteen cells -/
abbrev mapCells (v : Value) (rt rn : Option Nat) : Array Value := #[v, .slice none 0 0, .int .i32 0, .map rt, .map rn, .map none, .int .u32 0, .int .u32 0, .int .u32 0, .int .u32 0, .int .u8 0, .int .u8 0, .int .u32 0, .int .u8 0, .map none, .map none, .map none, .int .u32 0, .slice none 0 0]

/-- what zzBuild hands back, to the cell -/
def BuiltS (e : Ending) (w w' : World) (bs : List (Option Bk)) (rt rn : Option Nat) : Prop :=
  ∃ wr xs ao c, e = .returned (.pointer (some ⟨wr.heap.size, 0, none⟩)) ∧ Built w bs bs.length xs (.slice ao bs.length c) wr ∧ w' = wr.alloc (.cells (mapCells (.slice ao bs.length c) rt rn) 48)

set_option maxRecDepth 100000 in
set_option maxHeartbeats 4000000 in
theorem build_strong (vb mt mn : Value) (bs : List (Option Bk)) (w : World) (rt rn : Option Nat) (ht : mt = .map rt) (hn : mn = .map rn) (hb : Bks w 2 vb bs) (hlen : bs.length ≤ 1000000) :
    Calls Try.prog 6 #[vb, mt, mn] w fun e w' => BuiltS e w w' bs rt rn := by
  subst ht hn
  obtain ⟨ao, c, rfl⟩ := hb.form
  have HB : Hid (Bks w 2 (.slice ao bs.length c) bs) := hb
  clear hb
  obtain ⟨i0, hi0, hz0, hz1, hz2⟩ := info_parts Try.info49
  go_enter Try.func6, Try.ntmps6
  go_wp2_with fail
  go_loopw [7, 8] (fun v i wr => ∃ (k : Nat) (xs : List Value), k ≤ bs.length ∧ i = .int .i64 k ∧ Hid (Built w bs k xs v wr)) (fun _ i _ => bs.length - (intOf i).toNat)
  case atStart => exact ⟨0, [], Nat.zero_le _, rfl, Built.zero w bs⟩
  case round =>
    obtain ⟨k, xs, hk, rfl, hB⟩ := hrel
    by_cases hlt : k < bs.length
    · obtain ⟨sb, soff, xv, rfl, hsb, hcell0, hpt0⟩ := HB.out.at k hlt
      have hcell := cell_later hB.out.bel hcell0
      have hpt := hpt0.later hB.out.bel
      have hbase : w.heap.size ≤ wr.heap.size := hB.out.bel.size
      cases hob : bs[k] with
      | none =>
        rw [hob] at hpt
        have hpt' : xv = .pointer none := hpt
        subst hpt'
        clear hpt hpt0 hcell0
        have HO : Hid (bs[k]? = some none) := by
          show bs[k]? = _
          rw [List.getElem?_eq_getElem hlt, hob]
        clear hob
        go_wp2_with (at_builtin; refine wpList_append_lies _ rfl _ _ 39 rfl w.heap.size 49 i0 (.pointer none) 1 8 Try.underlying39 hi0 hz0 hz1 hz2 rfl (by decide) _ k xs rfl (hB.out.own.alloc _) ⟨wr.heap.size, 0, none⟩ 1 1 [.pointer none] rfl rfl (cell_one_new _ _ _) (by simp [Value.oneCell']) (by omega) (by unfold maxLen; omega) (by omega) (by simp; omega) (wr.heap.size + 1) (by simp) ?_; intro g cap w1 hown hgrow hat hlt1)
        go_roundw
        case rel => exact ⟨k + 1, xs ++ [.pointer none], by omega, by go_num, hB.out.step (W := wr.alloc _) ((Below.refl _ _).alloc (Nat.le_refl _) _) hgrow g cap _ hown (hat.imp id (fun h => by simp; omega)) (fun ob ho => by rw [HO.out] at ho; cases ho; rfl)⟩
        case measure => simp [intOf]; omega
      | some b =>
        rw [hob] at hpt hpt0
        obtain ⟨p, rfl, pb, po, iv, rfl, c0, c1, c2, hr, hl, q0, q1⟩ := hpt
        obtain ⟨p', hp', pb', po', iv', rfl, c0', c1', c2', hr', _⟩ := hpt0
        have hrow : Row w iv (b.items.map (Value.int .i32)) := by
          simp only [Value.pointer.injEq, Option.some.injEq, Addr.mk.injEq] at hp'
          obtain ⟨rfl, rfl, _⟩ := hp'
          have := cell_later hB.out.bel c2'
          rw [this] at c2
          rw [← Option.some.inj c2]
          exact hr'
        obtain ⟨ai, ci, rfl⟩ := hr.form
        have HR : Hid (Row w (.slice ai (b.items.map (Value.int .i32)).length ci) (b.items.map (Value.int .i32)) ∧ b.items.length ≤ 9223372036854775807 ∧ (Lit.int .i32 b.id).wf = true ∧ (Lit.int .u16 b.ty).wf = true) := ⟨hrow, hl, q0, q1⟩
        have HO : Hid (bs[k]? = some (some b)) := by
          show bs[k]? = _
          rw [List.getElem?_eq_getElem hlt, hob]
        have hpw : pb < w.heap.size := by
          simp only [Value.pointer.injEq, Option.some.injEq, Addr.mk.injEq] at hp'
          rw [hp'.1]
          exact World.block_lt_of_cell? _ _ c0'
        have ag1 : u7.ownBlock ≠ some sb := fun e => by have := (own_lt hB.out.own _ e).1; omega
        have ag2 : u7.ownBlock ≠ some pb := fun e => by have := (own_lt hB.out.own _ e).1; omega
        clear hr hr' hrow hp' c0' c1' c2' hcell0 hob hl q0 q1
        have hs0 : (0 : Int) ≤ (k : Int) := by omega
        have hs1 : (k : Int) < (bs.length : Int) := by omega
        have hl1 : sb < wr.heap.size := World.block_lt_of_cell? _ _ hcell
        have hl2 : pb < wr.heap.size := World.block_lt_of_cell? _ _ c0
        simp only [List.length_map] at c2
        go_wp2_with fail
        go_region_held3 (fun w' => w'.cell? ⟨sb, soff + k, none⟩ = some (.pointer (some ⟨pb, po, none⟩)) ∧ w'.cell? ⟨pb, po, none⟩ = some (.int .i32 b.id) ∧ w'.cell? ⟨pb, po + 1, none⟩ = some (.int .u16 b.ty) ∧ w'.cell? ⟨pb, po + 2, none⟩ = some (.slice ai b.items.length ci))
          (first
            | go_keep
            | (go_split_ands
               refine ⟨?_, ?_, ?_, ?_⟩
               · (rw [hgrow.cell_far _ (by simp; omega) (Ne.symm ag1)]; assumption)
               · (rw [hgrow.cell_far _ (by simp; omega) (Ne.symm ag2)]; assumption)
               · (rw [hgrow.cell_far _ (by simp; omega) (Ne.symm ag2)]; assumption)
               · (rw [hgrow.cell_far _ (by simp; omega) (Ne.symm ag2)]; assumption)))
          ((refine step_append_lies _ (by rfl) _ _ _ (by rfl) w.heap.size 49 i0 (.pointer none) 1 8 Try.underlying39 hi0 hz0 hz1 hz2 rfl (by decide) _ k xs (by rfl) (((hB.out.own.alloc _).alloc _).drew) ⟨wr.heap.size + 1, 0, none⟩ 1 1 [.pointer (some ⟨wr.heap.size, 0, none⟩)] (by rfl) (by rfl) (news_second _ _ _ _) (by simp [Value.oneCell']) (by omega) (by unfold maxLen; omega) (by omega) (by simp; omega) (wr.heap.size + 1 + 1) (by simp) ?_; intro g cap w1 hown hgrow hat hlt1))
        have hW : Below wr.heap.size wr (((wr.alloc (.cells #[.int .i32 b.id, .int .u16 b.ty, .int .u8 0, .int .u8 0, .int .u32 0, .slice ai b.items.length ci, .slice none 0 0, .slice none 0 0] 52)).alloc (.cells #[.pointer (some ⟨wr.heap.size, 0, none⟩)] 49)).drew) := (((Below.refl _ _).alloc (Nat.le_refl _) _).alloc (by simp) _).drew
        have HS : Hid (Built w bs (k + 1) (xs ++ [.pointer (some ⟨wr.heap.size, 0, none⟩)]) (.slice (some ⟨g, 0, none⟩) (k + 1) cap) w1) :=
          hB.out.step hW hgrow g cap _ hown (hat.imp id (fun h => by show ((wr.alloc _).alloc _).heap.size ≤ g; simp; omega)) (fun ob ho => by
            rw [HO.out] at ho
            cases ho
            exact box_new hB.out.own b _ _ _ _ _ _ _ hbase hgrow hat (by simpa using HR.out))
        clear hW hown hgrow hat hlt1 HR HO
        go_wp2_with fail
        go_roundw
        case rel => exact ⟨k + 1, _, by omega, by go_num, HS⟩
        case measure => simp [intOf]; omega
    · have hkn : k = bs.length := by omega
      subst hkn
      obtain ⟨ao2, c2, rfl⟩ := hB.out.bks.form
      go_wp2_with fail
      go_ret
      exact ⟨wr, xs, ao2, c2, rfl, hB.out, rfl⟩

end Go.Proofs.Qxb6626222a
