import Derived.Test.Qxb6626222aLawA
import Derived.Test.Qxb6626222aPlain
import Derived.Test.Qxb6626222aBuildS
namespace Go.Proofs.Qxb6626222a
open Go.RowKit
attribute [local go_sem ↓] Go.wp_at_zero Go.wp_at_succ

theorem news_at (X : World) (n : Nat) (hn : n = X.heap.size) (x : Value) (t : TypeId) : ∀ (j : Nat) u, [x][j]? = some u → (X.alloc (.cells #[x] t)).cell? ((⟨n, 0, none⟩ : Addr).add j) = some u := by
  subst hn
  exact cell_one_new X x t

/-- the world at the append, and what is known of it -/
abbrev atAppend (wb : World) (mc : Array Value) (newID newType top : Int) : World :=
  (((wb.alloc (.cells mc 48)).alloc (.cells #[.int .i32 top] 21)).alloc (.cells #[.int .i32 newID, .int .u16 newType, .int .u8 0, .int .u8 0, .int .u32 0, .slice (some ⟨wb.heap.size + 1, 0, none⟩) 1 1, .slice none 0 0, .slice none 0 0] 52)).alloc (.cells #[.pointer (some ⟨wb.heap.size + 1 + 1, 0, none⟩)] 49)

theorem atAppend_size (wb : World) (mc : Array Value) (newID newType top : Int) : (atAppend wb mc newID newType top).heap.size = wb.heap.size + 1 + 1 + 1 + 1 := by simp [atAppend]
theorem atAppend_below (wb : World) (mc : Array Value) (newID newType top : Int) : Below wb.heap.size wb (atAppend wb mc newID newType top) :=
  ((((Below.refl _ _).alloc (Nat.le_refl _) _).alloc (by simp) _).alloc (by simp only [World.size_alloc]; omega) _).alloc (by simp only [World.size_alloc]; omega) _
theorem atAppend_map (wb : World) (mc : Array Value) (newID newType top : Int) (o : Nat) : (atAppend wb mc newID newType top).cell? ⟨wb.heap.size, o, none⟩ = mc[o]? := by
  unfold atAppend
  rw [World.cell?_alloc_past _ _ _ (by simp only [World.size_alloc]; first | done | omega), World.cell?_alloc_past _ _ _ (by simp only [World.size_alloc]; first | done | omega), World.cell?_alloc_past _ _ _ (by simp only [World.size_alloc]; first | done | omega), World.cell?_alloc_at _ _ _ _ rfl]
theorem atAppend_mark (wb : World) (mc : Array Value) (newID newType top : Int) (o : Nat) : (atAppend wb mc newID newType top).frozen? ⟨wb.heap.size, o, none⟩ = false := by
  unfold atAppend
  rw [World.frozen?_alloc_past _ _ _ (by simp only [World.size_alloc]; first | done | omega), World.frozen?_alloc_past _ _ _ (by simp only [World.size_alloc]; first | done | omega), World.frozen?_alloc_past _ _ _ (by simp only [World.size_alloc]; first | done | omega), World.frozen?_alloc_at _ _ _ _ rfl]
theorem atAppend_item (wb : World) (mc : Array Value) (newID newType top : Int) : (atAppend wb mc newID newType top).cell? ⟨wb.heap.size + 1, 0, none⟩ = some (.int .i32 top) := by
  unfold atAppend
  rw [World.cell?_alloc_past _ _ _ (by simp only [World.size_alloc]; first | done | omega), World.cell?_alloc_past _ _ _ (by simp only [World.size_alloc]; first | done | omega), World.cell?_alloc_at _ _ _ _ (by simp only [World.size_alloc]; first | done | omega)]
  rfl
theorem atAppend_box (wb : World) (mc : Array Value) (newID newType top : Int) (o : Nat) : (atAppend wb mc newID newType top).cell? ⟨wb.heap.size + 1 + 1, o, none⟩ = (#[.int .i32 newID, .int .u16 newType, .int .u8 0, .int .u8 0, .int .u32 0, .slice (some ⟨wb.heap.size + 1, 0, none⟩) 1 1, .slice none 0 0, .slice none 0 0] : Array Value)[o]? := by
  unfold atAppend
  rw [World.cell?_alloc_past _ _ _ (by simp only [World.size_alloc]; first | done | omega), World.cell?_alloc_at _ _ _ _ (by simp only [World.size_alloc]; first | done | omega)]

theorem own_rowT {w : World} {base e : Nat} {v : Value} {n : Nat} {xs : List Value} (h : w.ownsRow base e 1 v n xs) : Row w v xs := by
  have hlen : xs.length = n := by have := h.1; omega
  rcases h.2 with ⟨hv, h0⟩ | ⟨g, cap, cur, hv, hb, hg, h1, h2, h3, h4⟩
  · exact Or.inl ⟨hv, List.eq_nil_of_length_eq_zero (by omega)⟩
  · refine Or.inr ⟨⟨g, 0, none⟩, cap, by rw [hv, hlen], fun j hj => ?_⟩
    rw [Nat.mul_one] at h4
    exact World.news_of_block hg j _ (by
      rw [List.getElem?_eq_getElem (by rw [← h4, List.length_take] at hj; omega)]
      congr 1
      simp only [← h4, List.getElem_take])

theorem app_keep {wb : World} {mc : Array Value} {newID newType top : Int} {w6 : World} {row : Option Nat} (hg : (atAppend wb mc newID newType top).grownBy w6 row) {k : Nat} (hk : k < wb.heap.size + 1 + 1 + 1 + 1) (hne : row ≠ some k) (o : Nat) :
    w6.cell? ⟨k, o, none⟩ = (atAppend wb mc newID newType top).cell? ⟨k, o, none⟩ ∧ w6.frozen? ⟨k, o, none⟩ = (atAppend wb mc newID newType top).frozen? ⟨k, o, none⟩ :=
  ⟨hg.cell_far ⟨k, o, none⟩ (by show k < _; rw [atAppend_size]; exact hk) (Ne.symm hne), hg.frozen_far ⟨k, o, none⟩ (by show k < _; rw [atAppend_size]; exact hk) (Ne.symm hne)⟩

/-- the cell of the map's buckets, behind the append -/
theorem app_cell {wb : World} {v : Value} {rt rn : Option Nat} {newID newType top : Int} {w6 : World} {row : Option Nat} (hg : (atAppend wb (mapCells v rt rn) newID newType top).grownBy w6 row) (hne : row ≠ some wb.heap.size) :
    w6.cell? ⟨wb.heap.size, 0, none⟩ = some v ∧ w6.frozen? ⟨wb.heap.size, 0, none⟩ = false := by
  obtain ⟨e1, e2⟩ := app_keep hg (k := wb.heap.size) (by omega) hne 0
  exact ⟨by rw [e1, atAppend_map]; rfl, by rw [e2, atAppend_mark]⟩

/-- the world behind the store: the map holds one bucket more -/
theorem app_done {w wb : World} {bs : List (Option Bk)} {xs : List Value} {v : Value} {rt rn : Option Nat} {newID newType top : Int} {w6 : World} {g cap : Nat} (hB : Built w bs bs.length xs v wb) (hq0 : (Lit.int .i32 newID).wf = true) (hq1 : (Lit.int .u16 newType).wf = true)
    (hg : (atAppend wb (mapCells v rt rn) newID newType top).grownBy w6 v.ownBlock) (hown : w6.ownsRow w.heap.size 49 1 (.slice (some ⟨g, 0, none⟩) (bs.length + 1) cap) (bs.length + 1) (xs ++ [.pointer (some ⟨wb.heap.size + 1 + 1, 0, none⟩)]))
    (hl : v.ownBlock = some g ∨ g = wb.heap.size + 1 + 1 + 1 + 1) :
    MapBox (w6.setCell ⟨wb.heap.size, 0, none⟩ (.slice (some ⟨g, 0, none⟩) (bs.length + 1) cap)) wb.heap.size (.slice (some ⟨g, 0, none⟩) (bs.length + 1) cap) (.map rt) (.map rn) ∧
      Bks (w6.setCell ⟨wb.heap.size, 0, none⟩ (.slice (some ⟨g, 0, none⟩) (bs.length + 1) cap)) 5 (.slice (some ⟨g, 0, none⟩) (bs.length + 1) cap) (bs ++ [some ⟨newID, newType, [top]⟩]) ∧
      Below w.heap.size w (w6.setCell ⟨wb.heap.size, 0, none⟩ (.slice (some ⟨g, 0, none⟩) (bs.length + 1) cap)) := by
  have hows : ∀ b, v.ownBlock = some b → w.heap.size ≤ b ∧ b < wb.heap.size := fun b hb => own_lt hB.own b hb
  have hne : ∀ k, wb.heap.size ≤ k → v.ownBlock ≠ some k := fun k hk e => by have := (hows k e).2; omega
  have hws := hB.bel.size
  have hgm : g ≠ wb.heap.size := by
    rcases hl with hl | hl
    · have := (hows g hl).2; omega
    · omega
  have hkeep : ∀ (k o : Nat), k ≠ wb.heap.size → (w6.setCell ⟨wb.heap.size, 0, none⟩ (.slice (some ⟨g, 0, none⟩) (bs.length + 1) cap)).cell? ⟨k, o, none⟩ = w6.cell? ⟨k, o, none⟩ := fun k o hk =>
    World.cell?_setCell_other _ _ _ _ (fun e => hk (by simp only [Addr.mk.injEq] at e; first | exact e.1 | exact e.1.symm))
  have hcell := app_cell hg (hne _ (Nat.le_refl _))
  have hbig : Below w.heap.size w w6 := (hB.bel.trans ((atAppend_below wb _ _ _ _).mono hws)).grown hg (by rw [atAppend_size]; omega) (fun b hb => (hows b hb).1)
  have hbel := hbig.setCell (p := ⟨wb.heap.size, 0, none⟩) hws (.slice (some ⟨g, 0, none⟩) (bs.length + 1) cap)
  have hxl : xs.length = bs.length := by have := hB.own.1; omega
  refine ⟨⟨?_, ?_, ?_⟩, ?_, hbel⟩
  · exact World.cell?_setCell_same _ _ _ hcell.1
  · rw [World.cell?_setCell_other _ _ _ _ (by simp), (app_keep hg (by omega) (hne _ (Nat.le_refl _)) 3).1, atAppend_map]; rfl
  · rw [World.cell?_setCell_other _ _ _ _ (by simp), (app_keep hg (by omega) (hne _ (Nat.le_refl _)) 4).1, atAppend_map]; rfl
  · refine ⟨xs ++ [.pointer (some ⟨wb.heap.size + 1 + 1, 0, none⟩)], ?_, by simp [hxl], fun j x ob hj ho => ?_⟩
    · rcases own_rowT hown with ⟨hv, _⟩ | ⟨a, c, hv, hc⟩
      · simp at hv
      · simp only [Value.slice.injEq, Option.some.injEq] at hv
        obtain ⟨rfl, hv2, rfl⟩ := hv
        refine Or.inr ⟨⟨g, 0, none⟩, cap, by rw [← hv2], fun j hj => ?_⟩
        have := hc j hj
        rw [Go.WideShapes.add_plain] at this ⊢
        rw [hkeep g _ hgm]
        exact this
    · by_cases hjl : j < bs.length
      · rw [List.getElem?_append_left (by omega)] at hj ho
        have hb := hB.box j x ob hj ho
        cases ob with
        | none => exact hb
        | some b =>
          obtain ⟨pb, iv, rfl, p1, p2, p3, c0, c1, c5, r, l, q0, q1⟩ := hb
          have e : ∀ o, (w6.setCell ⟨wb.heap.size, 0, none⟩ (.slice (some ⟨g, 0, none⟩) (bs.length + 1) cap)).cell? ⟨pb, o, none⟩ = wb.cell? ⟨pb, o, none⟩ := fun o => by
            rw [hkeep pb o (by omega), (app_keep hg (by omega) p3 o).1, (atAppend_below wb _ _ _ _).cell (p := ⟨pb, o, none⟩) p2]
          exact ⟨_, rfl, pb, 0, iv, rfl, by rw [e]; exact c0, by rw [e]; exact c1, by rw [e]; exact c5, r.later hbel, l, q0, q1⟩
      · have hje : j = bs.length := by
          have := (List.getElem?_eq_some_iff.mp ho).1
          simp at this
          omega
        subst hje
        rw [List.getElem?_append_right (by omega), hxl, Nat.sub_self] at hj
        rw [List.getElem?_append_right (Nat.le_refl _), Nat.sub_self] at ho
        simp only [List.getElem?_cons_zero, Option.some.injEq] at hj ho
        subst hj ho
        have e : ∀ o, (w6.setCell ⟨wb.heap.size, 0, none⟩ (.slice (some ⟨g, 0, none⟩) (bs.length + 1) cap)).cell? ⟨wb.heap.size + 1 + 1, o, none⟩ = (#[.int .i32 newID, .int .u16 newType, .int .u8 0, .int .u8 0, .int .u32 0, .slice (some ⟨wb.heap.size + 1, 0, none⟩) 1 1, .slice none 0 0, .slice none 0 0] : Array Value)[o]? := fun o => by
          rw [hkeep _ o (by omega), (app_keep hg (by omega) (hne _ (by omega)) o).1, atAppend_box]
        have e1 : (w6.setCell ⟨wb.heap.size, 0, none⟩ (.slice (some ⟨g, 0, none⟩) (bs.length + 1) cap)).cell? ⟨wb.heap.size + 1, 0, none⟩ = some (.int .i32 top) := by
          rw [hkeep _ 0 (by omega), (app_keep hg (by omega) (hne _ (by omega)) 0).1, atAppend_item]
        refine ⟨_, rfl, wb.heap.size + 1 + 1, 0, .slice (some ⟨wb.heap.size + 1, 0, none⟩) 1 1, rfl, by rw [e]; rfl, by rw [e]; rfl, by rw [e]; rfl, Or.inr ⟨⟨wb.heap.size + 1, 0, none⟩, 1, rfl, fun j hj => ?_⟩, by simp, hq0, hq1⟩
        have : j = 0 := by simp at hj; omega
        subst this
        exact e1

/-- the wanted list, so far: the new entry, then the first k of the old ones -/
structure WantB (w7 : World) (E : ByteArray) (ps : List ByteArray) (k : Nat) (t : Value) (wr : World) : Prop where
  own : wr.ownsRow w7.heap.size 9 1 t (k + 1) ((E :: ps.take k).map Value.string)
  bel : Below w7.heap.size w7 wr
  old : w7.heap.size ≤ wr.heap.size

theorem WantB.zero (w7 : World) (E : ByteArray) (ps : List ByteArray) : WantB w7 E ps 0 (.slice (some ⟨w7.heap.size, 0, none⟩) 1 1) (w7.alloc (.cells #[.string E] 9)) := by
  refine ⟨⟨by simp, Or.inr ⟨w7.heap.size, 1, #[.string E], rfl, Nat.le_refl _, heap_alloc_new w7 _, by omega, by unfold maxLen; omega, rfl, by simp⟩⟩, (Below.refl _ _).alloc (Nat.le_refl _) _, by simp⟩

theorem WantB.step {w7 : World} {E : ByteArray} {ps : List ByteArray} {k : Nat} {t : Value} {wr w8 : World} (h : WantB w7 E ps k t wr) (hk : k < ps.length) (o : Obj) (hg : (wr.alloc o).grownBy w8 t.ownBlock) (v' : Value)
    (hown : w8.ownsRow w7.heap.size 9 1 v' (k + 1 + 1) ((E :: ps.take k).map Value.string ++ [.string ps[k]])) : WantB w7 E ps (k + 1) v' w8 := by
  have hb : Below w7.heap.size w7 w8 := (h.bel.alloc h.bel.size o).grown hg (by have := h.bel.size; simp only [World.size_alloc]; omega) (fun b hb => (own_lt h.own b hb).1)
  refine ⟨?_, hb, hb.size⟩
  rw [List.take_succ_eq_append_getElem hk, ← List.cons_append, List.map_append]
  exact hown

set_option maxRecDepth 100000 in
set_option maxHeartbeats 8000000 in
theorem lawB_late (vb : Value) (rt rn : Option Nat) (bs : List (Option Bk)) (gt gn : Int → Option ByteArray) (id newID newType : Int) (w : World) (hc : Came w vb (.map rt) (.map rn) bs gt gn) (nt nn : Nat)
    (ht : ∀ ty, (Builtin.len_ #[23] ty #[.map rt]).run Try.prog w = .ok (.int .i64 (nt : Int)) w) (hn : ∀ ty, (Builtin.len_ #[23] ty #[.map rn]).run Try.prog w = .ok (.int .i64 (nn : Int)) w)
    (h1 : bs.length ≤ 4096) (h2 : nt ≤ 65536) (h3 : nn ≤ 65536) (hw4 : (Lit.int .i32 newID).wf = true) (hw5 : (Lit.int .u16 newType).wf = true) :
    Calls Try.prog 4 #[vb, .map rt, .map rn, .int .i64 id, .int .i32 newID, .int .u16 newType] w fun e w' => e = .returned (.bool true) ∧ Below w.heap.size w w' := by
  have HW : Hid ((Lit.int .i32 newID).wf = true ∧ (Lit.int .u16 newType).wf = true) := ⟨hw4, hw5⟩
  clear hw4 hw5
  obtain ⟨ao, c, rfl⟩ := hc.b.form
  have HC : Hid (Came w (.slice ao bs.length c) (.map rt) (.map rn) bs gt gn) := hc
  clear hc
  obtain ⟨x0, hx0⟩ : ∃ x0, IntKind.i32.wrap id = x0 := ⟨_, rfl⟩
  go_enter Try.func4, Try.ntmps4
  go_wp2_with fail
  go_loop [13, 14] (fun t i => ∃ (k : Nat) (z : Int), k ≤ bs.length ∧ i = .int .i64 k ∧ t = .int .i64 z) (fun _ i => bs.length - (intOf i).toNat)
  case atStart => exact ⟨0, _, Nat.zero_le _, rfl, rfl⟩
  case round =>
    obtain ⟨k, z, hk, rfl, rfl⟩ := hrel
    by_cases hlt : k < bs.length
    · by_cases hz : z ≤ 1048576
      · obtain ⟨bb, off, xv, rfl, hbb, hcell, hpt⟩ := HC.out.b.at k hlt
        cases hob : bs[k] with
        | none =>
          rw [hob] at hpt
          have hpt' : xv = .pointer none := hpt
          subst hpt'
          clear hpt hob
          go_wp2_with fail
          go_round
          case rel => exact ⟨k + 1, _, by omega, by go_num, rfl⟩
          case measure => simp [intOf]; omega
        | some b =>
          rw [hob] at hpt
          obtain ⟨p, rfl, pb, po, iv, rfl, z0, z1, z2, hr0, hl, q0, q1⟩ := hpt
          obtain ⟨ai, ci, rfl⟩ := hr0.form
          simp only [List.length_map] at z2
          clear hr0 hob z0 z1
          go_wp2_with fail
          go_round
          case rel => exact ⟨k + 1, _, by omega, by go_num, rfl⟩
          case measure => simp [intOf]; omega
      · have hz' : (1048576 : Int) < z := by omega
        clear hz
        go_wp2_with fail
        go_ret
        exact ⟨rfl, Below.refl _ _⟩
    · have hkn : k = bs.length := by omega
      subst hkn
      clear hk hlt
      by_cases hz : z ≤ 1048576
      case neg =>
        have hz' : (1048576 : Int) < z := by omega
        clear hz
        go_wp2_with fail
        go_ret
        exact ⟨rfl, Below.refl _ _⟩
      clear ht hn
      go_wp2_with fail
      refine (top_any _ _ bs gn _ _ HC.out.b HC.out.n.here (by omega)).mono ?_
      rintro e w1 ⟨he, hw⟩
      subst hw
      obtain ⟨tp, en, hce⟩ : ∃ tp en, chain bs gn (bs.length + 1) x0 = (tp, en) := ⟨_, _, rfl⟩
      rw [hce] at he
      have he' : e = .returned (.tuple #[.int .i32 tp, .bool en]) := he
      subst he'
      clear he
      cases en with
      | false =>
        clear hce
        go_wp2_with fail
        go_ret
        exact ⟨rfl, Below.refl _ _⟩
      | true =>
        have HE : Hid (chain bs gn (bs.length + 1) x0 = (tp, true)) := hce
        clear hce
        cases hne : (newID == x0) with
        | true =>
          go_wp2_with fail
          go_ret
          exact ⟨rfl, Below.refl _ _⟩
        | false =>
          have HX0 : Hid (x0 ≠ newID) := fun e => by rw [e] at hne; simp at hne
          go_wp2_with fail
          go_loop [17] (fun i => ∃ k : Nat, k ≤ bs.length ∧ i = .int .i64 k ∧ Hid (∀ (j : Nat) b, j < k → bs[j]? = some (some b) → b.id ≠ newID)) (fun i => bs.length - (intOf i).toNat)
          case atStart => exact ⟨0, Nat.zero_le _, rfl, fun j b hj => by omega⟩
          case round =>
            obtain ⟨k, hk, rfl, hx⟩ := hrel
            by_cases hlt : k < bs.length
            · obtain ⟨bb, off, xv, rfl, hbb, hcell, hpt⟩ := HC.out.b.at k hlt
              have hnext : ∀ ob, bs[k] = ob → (∀ b, ob = some b → b.id ≠ newID) → Hid (∀ (j : Nat) b, j < k + 1 → bs[j]? = some (some b) → b.id ≠ newID) := fun ob hob hf j b hj ho => by
                by_cases e : j = k
                · subst e
                  rw [List.getElem?_eq_getElem hlt, hob] at ho
                  exact hf b (Option.some.inj ho)
                · exact hx.out j b (by omega) ho
              have HN : Hid (∀ ob, bs[k] = ob → (∀ b, ob = some b → b.id ≠ newID) → Hid (∀ (j : Nat) b, j < k + 1 → bs[j]? = some (some b) → b.id ≠ newID)) := hnext
              clear hnext
              cases hob : bs[k] with
              | none =>
                rw [hob] at hpt
                have hpt' : xv = .pointer none := hpt
                subst hpt'
                have HF := HN.out none hob (fun b hb => by cases hb)
                clear hpt hob HN
                go_wp2_with fail
                go_round
                case rel => exact ⟨k + 1, by omega, by go_num, HF⟩
                case measure => simp [intOf]; omega
              | some b =>
                rw [hob] at hpt
                obtain ⟨p, rfl, pb, po, iv, rfl, z0, z1, z2, hr0, hl, q0, q1⟩ := hpt
                clear hr0 z1 z2 hl q0 q1
                cases hid : (b.id == newID) with
                | true =>
                  clear HN hob
                  go_wp2_with fail
                  go_ret
                  exact ⟨rfl, Below.refl _ _⟩
                | false =>
                  have HF := HN.out (some b) hob (fun b' hb => by cases hb; simpa using hid)
                  clear HN hob
                  go_wp2_with fail
                  go_round
                  case rel => exact ⟨k + 1, by omega, by go_num, HF⟩
                  case measure => simp [intOf]; omega
            · have hkn : k = bs.length := by omega
              subst hkn
              have HID : Hid (∀ b, some b ∈ bs → b.id ≠ newID) := fun b hb => by
                obtain ⟨j, hj, hjb⟩ := List.getElem_of_mem hb
                exact hx.out j b hj (by rw [List.getElem?_eq_getElem hj, hjb])
              clear hx hk hlt
              go_wp2_with fail
              refine (first_any _ _ bs gn _ _ HC.out.b HC.out.n.here (by omega)).mono ?_
              rintro e w2 ⟨he, hw⟩
              subst hw
              cases hh : holder bs gn newID with
              | some h =>
                rw [hh] at he
                have he' : e = .returned (.tuple #[.int .i64 (h : Int), .bool true]) := he
                subst he'
                clear he hh
                go_wp2_with fail
                go_ret
                exact ⟨rfl, Below.refl _ _⟩
              | none =>
                rw [hh] at he
                have he' : e = .returned (.tuple #[.int .i64 0, .bool false]) := he
                subst he'
                have HU : Hid (upOf bs gn newID = none) := upOf_none hh
                clear he hh
                go_wp2_with fail
                refine (build_any _ _ _ bs _ rt rn rfl rfl HC.out.b (by omega)).mono ?_
                rintro e w3 ⟨mb, v, rfl, hbox, hbk, hb3⟩
                have HX : Hid (MapBox w3 mb v (.map rt) (.map rn) ∧ Bks w3 5 v bs ∧ Below w2.heap.size w2 w3) := ⟨hbox, hbk, hb3⟩
                clear hbox hbk hb3
                go_wp2_with fail
                refine (location_any mb v (.map rt) (.map rn) bs gt gn id x0 (bs.length + 1) _ hx0 HX.out.1 HX.out.2.1 (HC.out.t.later HX.out.2.2) (HC.out.n.later HX.out.2.2) (by omega) (by omega) (by rw [HE.out])).mono ?_
                rintro e w4 ⟨vg, rfl, hmg, hb4⟩
                obtain ⟨ag, cg, rfl⟩ := hmg.form
                have HG : Hid (Row w4 (.slice ag (loc bs gt gn (bs.length + 1) x0).length cg) ((loc bs gt gn (bs.length + 1) x0).map Value.string) ∧ Below w2.heap.size w2 w4) := ⟨hmg.row, HX.out.2.2.trans (hb4.mono HX.out.2.2.size)⟩
                have hlq := loc_len bs gt gn (bs.length + 1) x0
                obtain ⟨ps, hps⟩ : ∃ ps, loc bs gt gn (bs.length + 1) x0 = ps := ⟨_, rfl⟩
                rw [hps] at HG hlq ⊢
                have HP : Hid (loc bs gt gn (bs.length + 1) x0 = ps) := hps
                clear hmg hb4 HX hps
                go_wp2_with fail
                refine (build_strong _ _ _ bs _ rt rn rfl rfl (HC.out.later HG.out.2).b (by omega)).mono ?_
                rintro e w5 ⟨wb, xs, ab, cb, rfl, hB, rfl⟩
                have HB : Hid (Built w4 bs bs.length xs (.slice ab bs.length cb) wb) := hB
                clear hB
                obtain ⟨i0, hi0, hzz0, hzz1, hzz2⟩ := info_parts Try.info49
                have hws : w4.heap.size ≤ wb.heap.size := HB.out.bel.size
                have hnb : Hid ((Value.slice ab bs.length cb).ownBlock ≠ some wb.heap.size) := fun e => by have := (own_lt HB.out.own _ e).2; omega
                go_wp2_with (at_builtin; (refine wpList_append_lies _ rfl _ _ 39 rfl w4.heap.size 49 i0 (.pointer none) 1 8 Try.underlying39 hi0 hzz0 hzz1 hzz2 rfl (by decide) _ bs.length xs rfl ((((HB.out.own.alloc _).alloc _).alloc _).alloc _) ⟨wb.heap.size + 1 + 1 + 1, 0, none⟩ 1 1 [.pointer (some ⟨wb.heap.size + 1 + 1, 0, none⟩)] rfl rfl (news_at _ _ (by simp) _ _) (by simp [Value.oneCell']) (by omega) (by unfold maxLen; omega) (by omega) (by simp; omega) (wb.heap.size + 1 + 1 + 1 + 1) (by simp) ?_); intro g cap w6 hown hgrow hat hlt1; obtain ⟨d0, f0⟩ := app_cell hgrow hnb.out)
                have hd := app_done HB.out HW.out.1 HW.out.2 hgrow hown hat
                have hroot := new_root (gt := gt) (newType := newType) HID.out HU.out (bs.length + 1) x0 HX0.out HE.out
                have hbd := HG.out.2.trans (hd.2.2.mono HG.out.2.size)
                refine (location_any _ _ (.map rt) (.map rn) (bs ++ [some ⟨newID, newType, [tp]⟩]) gt gn id x0 (bs.length + 1 + 1) _ hx0 hd.1 hd.2.1 (HC.out.t.later hbd) (HC.out.n.later hbd) (by simp; omega) (by omega) hroot.1).mono ?_
                rintro e w7 ⟨va, rfl, hma, hb7⟩
                obtain ⟨aa, ca, rfl⟩ := hma.form
                have hla := loc_len (bs ++ [some ⟨newID, newType, [tp]⟩]) gt gn (bs.length + 1 + 1) x0
                obtain ⟨qs, hqs⟩ : ∃ qs, loc (bs ++ [some ⟨newID, newType, [tp]⟩]) gt gn (bs.length + 1 + 1) x0 = qs := ⟨_, rfl⟩
                rw [hqs] at hma hla ⊢
                have hb27 : Below w2.heap.size w2 w7 := hbd.trans (hb7.mono hbd.size)
                have hb47 : Below w4.heap.size w4 w7 := hd.2.2.trans (hb7.mono hd.2.2.size)
                have HA : Hid (Row w7 (.slice aa qs.length ca) (qs.map Value.string) ∧ Row w7 (.slice ag ps.length cg) (ps.map Value.string) ∧ Below w2.heap.size w2 w7 ∧ qs = (if shad gn newID = true then ps else entry gt gn ⟨newID, newType, [tp]⟩ :: ps)) :=
                  ⟨hma.row, HG.out.1.later hb47, hb27, by rw [← hqs, hroot.2, HP.out]⟩
                have hok := (HC.out.later hb27).n.here.ok newID HW.out.1
                have hno := (HC.out.later hb27).t.here.no newType (i32_of_u16 (u16_bounds HW.out.2))
                have hz1 := size_getD HC.out.t.here.size newType
                have hz2 := size_getD HC.out.n.here.size newID
                have hwr := wrap_u16 (u16_bounds HW.out.2)
                have qb := u16_bounds HW.out.2
                clear hd hroot hbd hma hb7 hqs hb27 hb47 hown hgrow hat hlt1 d0 f0 HB hnb HG HID HU HX0 HE
                obtain ⟨ts, hts⟩ : ∃ ts, (gt newType).getD ⟨#[]⟩ = ts := ⟨_, rfl⟩
                cases hgn : gn newID with
                | none =>
                  rw [hgn] at hok hz2
                  simp only [Option.getD_none, Option.isSome_none] at hok hz2
                  have HQ : Hid (qs = (ts ++ ⟨#[61]⟩ ++ ⟨#[]⟩) :: ps) := by
                    show _ = _
                    rw [HA.out.2.2.2]
                    simp [shad, hgn, entry, hts]
                  rw [hts] at hno hz1
                  clear hgn hts
                  have a1 : ∀ W, (Op.stringOp .add ts ⟨#[61]⟩).run Try.prog W = .ok (.string (ts ++ ⟨#[61]⟩)) W := fun W => run_string_add_sum (w := W) ts ⟨#[61]⟩ (by have : (⟨#[61]⟩ : ByteArray).size = 1 := rfl; omega)
                  have a2 : ∀ W, (Op.stringOp .add (ts ++ ⟨#[61]⟩) (⟨#[]⟩ : ByteArray)).run Try.prog W = .ok (.string (ts ++ ⟨#[61]⟩ ++ (⟨#[]⟩ : ByteArray))) W := fun W => run_string_add_sum (w := W) _ _ (by rw [ByteArray.size_append]; have : (⟨#[61]⟩ : ByteArray).size = 1 := rfl; have hq : (⟨#[]⟩ : ByteArray).size ≤ 140737488351232 := hz2; omega)
                  obtain ⟨i9, hi9, hy0, hy1, hy2⟩ := info_parts Try.info9
                  go_wp2_with fail
                  go_loopw [25, 26] (fun t i wr => ∃ k : Nat, k ≤ ps.length ∧ i = .int .i64 k ∧ Hid (WantB w7 (ts ++ ⟨#[61]⟩ ++ (⟨#[]⟩ : ByteArray)) ps k t wr)) (fun _ i _ => ps.length - (intOf i).toNat)
                  case atStart => exact ⟨0, Nat.zero_le _, rfl, WantB.zero _ _ _⟩
                  case round =>
                    obtain ⟨m, hm, rfl, hW⟩ := hrel
                    have hws2 : w7.heap.size ≤ wr.heap.size := hW.out.old
                    by_cases hlt : m < ps.length
                    · obtain ⟨b2, off2, rfl, hb2, hc2⟩ := (HA.out.2.1.later hW.out.bel).at (by simp; omega)
                      have hcs := Row.strs hc2 m hlt
                      clear hc2
                      obtain ⟨st, hst⟩ : ∃ st, ps[m] = st := ⟨_, rfl⟩
                      rw [hst] at hcs
                      have HT : Hid (ps[m] = st) := hst
                      clear hst
                      go_wp2_with (at_builtin; refine wpList_append_lies _ rfl _ _ 33 rfl w7.heap.size 9 i9 (.string ByteArray.empty) 1 16 Try.underlying33 hi9 hy0 hy1 hy2 rfl (by decide) _ (m + 1) _ rfl (hW.out.own.alloc _) ⟨wr.heap.size, 0, none⟩ 1 1 [.string st] rfl rfl (cell_one_new _ _ _) (by simp [Value.oneCell']) (by omega) (by unfold maxLen; omega) (by omega) (by simp; omega) (wr.heap.size + 1) (by simp) ?_; intro g cap w8 hown hgrow hat hlt1)
                      go_roundw
                      case rel => exact ⟨m + 1, by omega, by go_num, hW.out.step hlt _ hgrow _ (by rw [HT.out]; exact hown)⟩
                      case measure => simp [intOf]; omega
                    · have hmn : m = ps.length := by omega
                      subst hmn
                      have HR : Hid (Row wr u25 (((ts ++ ⟨#[61]⟩ ++ (⟨#[]⟩ : ByteArray)) :: ps).map Value.string) ∧ Row wr (.slice aa qs.length ca) (qs.map Value.string) ∧ Below w2.heap.size w2 wr) := ⟨by have := own_row hW.out.own; rwa [List.take_length] at this, HA.out.1.later hW.out.bel, HA.out.2.2.1.trans (hW.out.bel.mono HA.out.2.2.1.size)⟩
                      clear hW hm hlt
                      go_wp2_with fail
                      refine (same_any _ _ qs _ _ HR.out.2.1 HR.out.1 (by omega) (by simp; omega)).mono ?_
                      have hss : sameS qs ((ts ++ ⟨#[61]⟩ ++ (⟨#[]⟩ : ByteArray)) :: ps) = true := by rw [HQ.out]; simp [sameS]
                      rw [hss]
                      rintro e w8 ⟨rfl, hb8⟩
                      have HF : Hid (Below w2.heap.size w2 w8) := HR.out.2.2.trans (hb8.mono HR.out.2.2.size)
                      clear hb8 hss HR
                      go_wp2_with fail
                      go_ret
                      exact ⟨rfl, HF.out⟩
                | some nm =>
                  rw [hgn] at hok hz2
                  simp only [Option.getD_some, Option.isSome_some] at hok hz2
                  go_wp2_with fail
                  refine (valid_any _ _ (by omega)).mono ?_
                  rintro e w8 ⟨rfl, hw⟩
                  subst hw
                  cases hv : okName nm with
                  | false =>
                    have HQ : Hid (qs = ps) := by
                      show _ = _
                      rw [HA.out.2.2.2]
                      simp [shad, hgn, hv]
                    clear hgn hts
                    go_wp2_with fail
                    refine (same_any _ _ qs ps _ HA.out.1 HA.out.2.1 (by omega) (by omega)).mono ?_
                    have hss : sameS qs ps = true := by rw [HQ.out]; simp [sameS]
                    rw [hss]
                    rintro e w9 ⟨rfl, hb9⟩
                    have HF : Hid (Below w2.heap.size w2 w9) := HA.out.2.2.1.trans (hb9.mono HA.out.2.2.1.size)
                    clear hb9 hss
                    go_wp2_with fail
                    go_ret
                    exact ⟨rfl, HF.out⟩
                  | true =>
                    have HQ : Hid (qs = (ts ++ ⟨#[61]⟩ ++ nm) :: ps) := by
                      show _ = _
                      rw [HA.out.2.2.2]
                      simp [shad, hgn, hv, entry, hts]
                    rw [hts] at hno hz1
                    clear hgn hts
                    have a1 : ∀ W, (Op.stringOp .add ts ⟨#[61]⟩).run Try.prog W = .ok (.string (ts ++ ⟨#[61]⟩)) W := fun W => run_string_add_sum (w := W) ts ⟨#[61]⟩ (by have : (⟨#[61]⟩ : ByteArray).size = 1 := rfl; omega)
                    have a2 : ∀ W, (Op.stringOp .add (ts ++ ⟨#[61]⟩) nm).run Try.prog W = .ok (.string (ts ++ ⟨#[61]⟩ ++ nm)) W := fun W => run_string_add_sum (w := W) _ _ (by rw [ByteArray.size_append]; have : (⟨#[61]⟩ : ByteArray).size = 1 := rfl; have hq : nm.size ≤ 140737488351232 := hz2; omega)
                    obtain ⟨i9, hi9, hy0, hy1, hy2⟩ := info_parts Try.info9
                    go_wp2_with fail
                    go_loopw [25, 26] (fun t i wr => ∃ k : Nat, k ≤ ps.length ∧ i = .int .i64 k ∧ Hid (WantB w8 (ts ++ ⟨#[61]⟩ ++ nm) ps k t wr)) (fun _ i _ => ps.length - (intOf i).toNat)
                    case atStart => exact ⟨0, Nat.zero_le _, rfl, WantB.zero _ _ _⟩
                    case round =>
                      obtain ⟨m, hm, rfl, hW⟩ := hrel
                      have hws2 : w8.heap.size ≤ wr.heap.size := hW.out.old
                      by_cases hlt : m < ps.length
                      · obtain ⟨b2, off2, rfl, hb2, hc2⟩ := (HA.out.2.1.later hW.out.bel).at (by simp; omega)
                        have hcs := Row.strs hc2 m hlt
                        clear hc2
                        obtain ⟨st, hst⟩ : ∃ st, ps[m] = st := ⟨_, rfl⟩
                        rw [hst] at hcs
                        have HT : Hid (ps[m] = st) := hst
                        clear hst
                        go_wp2_with (at_builtin; refine wpList_append_lies _ rfl _ _ 33 rfl w8.heap.size 9 i9 (.string ByteArray.empty) 1 16 Try.underlying33 hi9 hy0 hy1 hy2 rfl (by decide) _ (m + 1) _ rfl (hW.out.own.alloc _) ⟨wr.heap.size, 0, none⟩ 1 1 [.string st] rfl rfl (cell_one_new _ _ _) (by simp [Value.oneCell']) (by omega) (by unfold maxLen; omega) (by omega) (by simp; omega) (wr.heap.size + 1) (by simp) ?_; intro g cap w9 hown hgrow hat hlt1)
                        go_roundw
                        case rel => exact ⟨m + 1, by omega, by go_num, hW.out.step hlt _ hgrow _ (by rw [HT.out]; exact hown)⟩
                        case measure => simp [intOf]; omega
                      · have hmn : m = ps.length := by omega
                        subst hmn
                        have HR : Hid (Row wr u25 (((ts ++ ⟨#[61]⟩ ++ nm) :: ps).map Value.string) ∧ Row wr (.slice aa qs.length ca) (qs.map Value.string) ∧ Below w2.heap.size w2 wr) := ⟨by have := own_row hW.out.own; rwa [List.take_length] at this, HA.out.1.later hW.out.bel, HA.out.2.2.1.trans (hW.out.bel.mono HA.out.2.2.1.size)⟩
                        clear hW hm hlt
                        go_wp2_with fail
                        refine (same_any _ _ qs _ _ HR.out.2.1 HR.out.1 (by omega) (by simp; omega)).mono ?_
                        have hss : sameS qs ((ts ++ ⟨#[61]⟩ ++ nm) :: ps) = true := by rw [HQ.out]; simp [sameS]
                        rw [hss]
                        rintro e w9 ⟨rfl, hb8⟩
                        have HF : Hid (Below w2.heap.size w2 w9) := HR.out.2.2.trans (hb8.mono HR.out.2.2.size)
                        clear hb8 hss HR
                        go_wp2_with fail
                        go_ret
                        exact ⟨rfl, HF.out⟩

end Go.Proofs.Qxb6626222a
