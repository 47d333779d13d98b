import Derived.Test.Qxb6626222aMem
import Derived.Laws.LoneSync
namespace Go.Proofs.Qxb6626222a
open Go.RowKit

/-- a slice of strings of the call's own: nil, or a row of its own from 'base' on, that may be written -/
def Mine (w : World) (base : Nat) (v : Value) (ss : List ByteArray) : Prop :=
  (v = .slice none 0 0 ∧ ss = []) ∨
  ∃ g cap, v = .slice (some ⟨g, 0, none⟩) ss.length cap ∧ ss ≠ [] ∧ base ≤ g ∧ g < w.heap.size ∧ ss.length ≤ cap ∧ cap ≤ 9223372036854775807 ∧
    (∀ j (h : j < ss.length), w.cell? ⟨g, j, none⟩ = some (.string ss[j])) ∧ (∀ j, j < cap → (w.cell? ⟨g, j, none⟩).isSome = true) ∧ (∀ j, j < cap → w.frozen? ⟨g, j, none⟩ = false)

theorem Mine.row {w : World} {base : Nat} {v : Value} {ss : List ByteArray} (h : Mine w base v ss) : Row w v (ss.map Value.string) := by
  rcases h with ⟨rfl, rfl⟩ | ⟨g, cap, rfl, _, _, _, _, _, hc, _, _⟩
  · exact Or.inl ⟨rfl, rfl⟩
  · exact Or.inr ⟨⟨g, 0, none⟩, cap, by simp, fun j hj => by
      rw [Go.WideShapes.add_plain, Nat.zero_add]
      rw [hc j (by simpa using hj)]
      simp⟩

theorem Mine.form {w : World} {base : Nat} {v : Value} {ss : List ByteArray} (h : Mine w base v ss) : ∃ ao c, v = .slice ao ss.length c := by
  rcases h with ⟨rfl, rfl⟩ | ⟨g, cap, rfl, _⟩
  · exact ⟨_, _, rfl⟩
  · exact ⟨_, _, rfl⟩

/-- it stays, while what turns lies elsewhere -/
theorem Mine.later {w w' : World} {base : Nat} {v : Value} {ss : List ByteArray} (h : Mine w base v ss) (hb : Below w.heap.size w w') : Mine w' base v ss := by
  rcases h with h | ⟨g, cap, hv, h0, h1, h2, h3, h4, hc, hs, hf⟩
  · exact Or.inl h
  · have e1 : ∀ o, w'.cell? ⟨g, o, none⟩ = w.cell? ⟨g, o, none⟩ := fun o => hb.cell (p := ⟨g, o, none⟩) h2
    have e2 : ∀ o, w'.frozen? ⟨g, o, none⟩ = w.frozen? ⟨g, o, none⟩ := fun o => hb.frozen (p := ⟨g, o, none⟩) h2
    exact Or.inr ⟨g, cap, hv, h0, h1, Nat.lt_of_lt_of_le h2 hb.size, h3, h4, fun j hj => by rw [e1]; exact hc j hj, fun j hj => by rw [e1]; exact hs j hj, fun j hj => by rw [e2]; exact hf j hj⟩

theorem below_setCellsQ {B b : Nat} {a : World} (hb : B ≤ b) : ∀ (vs : List Value) (o : Nat) (w : World), Below B a w → Below B a (w.setCells b o vs)
  | [], _, _, h => h
  | v :: r, o, _, h => below_setCellsQ hb r (o + 1) _ (h.setCell (p := ⟨b, o, none⟩) hb v)

theorem size_setCells (b : Nat) : ∀ (vs : List Value) (o : Nat) (w : World), (w.setCells b o vs).heap.size = w.heap.size
  | [], _, _ => rfl
  | v :: r, o, w => by rw [World.setCells, size_setCells b r]; simp [World.setCell]

/-- a row of which the first cells are known, put in front of -/
theorem mine_put {W : World} {base g cap : Nat} {s : ByteArray} {ss : List ByteArray} (hg : base ≤ g) (hlt : g < W.heap.size) (hl : ss.length + 1 ≤ cap) (h63 : cap ≤ 9223372036854775807)
    (hs : ∀ j, j < cap → (W.cell? ⟨g, j, none⟩).isSome = true) (hf : ∀ j, j < cap → W.frozen? ⟨g, j, none⟩ = false) (W1 W2 : World)
    (h1 : W1 = W.setCells g 1 (ss.map Value.string)) (h2 : ∀ x, W2.cell? x = W1.cell? x) (h3 : ∀ x, W2.frozen? x = W1.frozen? x) (h4 : W2.heap.size = W1.heap.size) :
    Mine (W2.setCells g 0 [.string s]) base (.slice (some ⟨g, 0, none⟩) (ss.length + 1) cap) (s :: ss) := by
  have hs1 : ∀ j, j < cap → (W1.cell? ⟨g, j, none⟩).isSome = true := fun j hj => by
    rw [h1]
    exact isSome_setCells g _ _ _ (fun i hi => hs _ (by simp at hi; omega)) _ (hs j hj)
  have hs2 : ∀ j, j < cap → (W2.cell? ⟨g, j, none⟩).isSome = true := fun j hj => by rw [h2]; exact hs1 j hj
  refine Or.inr ⟨g, cap, by simp, by simp, hg, ?_, by simpa using hl, h63, fun j hj => ?_, fun j hj => ?_, fun j hj => ?_⟩
  · rw [size_setCells, h4, h1, size_setCells]; exact hlt
  · cases j with
    | zero =>
      have := World.cell?_setCells_in g [Value.string s] 0 W2 (fun i hi => hs2 _ (by simp at hi; omega)) 0 (by simp)
      simpa using this
    | succ j =>
      rw [World.cell?_setCells_out g _ _ _ _ (fun _ _ => by right; simp), h2, h1]
      have hj' : j < (ss.map Value.string).length := by simpa using hj
      have := World.cell?_setCells_in g (ss.map Value.string) 1 W (fun i hi => hs _ (by simp at hi; omega)) j hj'
      rw [Nat.add_comm 1 j] at this
      rw [this]
      simp
  · exact isSome_setCells g _ _ _ (fun i hi => hs2 _ (by simp at hi; omega)) _ (hs2 j hj)
  · rw [World.frozen?_setCells, h3, h1, World.frozen?_setCells]; exact hf j hj

/-- a new row, filled from the front -/
theorem mine_grown {W : World} {base cap : Nat} {s : ByteArray} {ss : List ByteArray} {ROW : Array Value} (hb : base ≤ W.heap.size) (hl : ss.length + 1 ≤ cap) (h63 : cap ≤ 9223372036854775807) (hR : ROW.size = cap) :
    Mine ((((W.alloc (.cells ROW 9)).drew.setCells W.heap.size 0 [.string s]).drew).setCells W.heap.size (0 + 1) ((ss.map Value.string).drop 0)) base (.slice (some ⟨W.heap.size, 0, none⟩) (ss.length + 1) cap) (s :: ss) := by
  have hs : ∀ j, j < cap → ((W.alloc (.cells ROW 9)).cell? ⟨W.heap.size, j, none⟩).isSome = true := fun j hj => by
    rw [World.cell?_alloc_at _ _ _ _ rfl, Array.getElem?_eq_getElem (by omega)]; rfl
  have hs1 : ∀ j, j < cap → (((W.alloc (.cells ROW 9)).drew.setCells W.heap.size 0 [.string s]).cell? ⟨W.heap.size, j, none⟩).isSome = true := fun j hj =>
    isSome_setCells W.heap.size [.string s] 0 (W.alloc (.cells ROW 9)).drew (fun i hi => hs _ (by simp at hi; omega)) j (hs j hj)
  refine Or.inr ⟨W.heap.size, cap, by simp, by simp, hb, ?_, by simpa using hl, h63, fun j hj => ?_, fun j hj => ?_, fun j hj => ?_⟩
  · rw [size_setCells]
    show _ < ((W.alloc (.cells ROW 9)).drew.setCells W.heap.size 0 [.string s]).heap.size
    rw [size_setCells]
    show _ < (W.alloc (.cells ROW 9)).heap.size
    simp
  · cases j with
    | zero =>
      rw [World.cell?_setCells_out W.heap.size _ _ _ _ (fun _ _ => by left; simp)]
      have := World.cell?_setCells_in W.heap.size [Value.string s] 0 (W.alloc (.cells ROW 9)).drew (fun i hi => hs _ (by simp at hi; omega)) 0 (by simp)
      simpa using this
    | succ j =>
      have hj' : j < ((ss.map Value.string).drop 0).length := by simpa using hj
      have := World.cell?_setCells_in W.heap.size ((ss.map Value.string).drop 0) (0 + 1) ((W.alloc (.cells ROW 9)).drew.setCells W.heap.size 0 [.string s]).drew (fun i hi => hs1 _ (by simp at hi; omega)) j hj'
      rw [Nat.zero_add, Nat.add_comm 1 j] at this
      rw [Nat.zero_add, this]
      simp
  · exact isSome_setCells W.heap.size ((ss.map Value.string).drop 0) (0 + 1) ((W.alloc (.cells ROW 9)).drew.setCells W.heap.size 0 [.string s]).drew (fun i hi => hs1 _ (by simp at hi; omega)) j (hs1 j hj)
  · rw [World.frozen?_setCells]
    show ((W.alloc (.cells ROW 9)).drew.setCells W.heap.size 0 [.string s]).frozen? _ = _
    rw [World.frozen?_setCells]
    exact World.frozen?_alloc_at ROW 9 W.heap.size j rfl

theorem below_grownQ {W : World} {base : Nat} {s : ByteArray} {xs : List Value} {ROW : Array Value} (hb : base ≤ W.heap.size) :
    Below base W ((((W.alloc (.cells ROW 9)).drew.setCells W.heap.size 0 [.string s]).drew).setCells W.heap.size (0 + 1) xs) :=
  below_setCellsQ hb _ _ _ (below_setCellsQ hb _ _ _ ((Below.refl _ _).alloc hb _).drew).drew

/-- what slices.Insert(v, 0, s) hands back -/
def InsIs (e : Ending) (w' W : World) (base : Nat) (s : ByteArray) (ss : List ByteArray) : Prop :=
  ∃ v', e = .returned v' ∧ Mine w' base v' (s :: ss) ∧ Below base W w'

theorem zero_one (n : Nat) : (Builtin.zeroCells (Value.string ⟨#[]⟩).cells n).size = n := by
  simp [Builtin.zeroCells, Value.cells]

theorem oneS (ss : List ByteArray) : ∀ v ∈ ss.map Value.string, v.oneCell' = true := fun v hv => by
  obtain ⟨s, _, rfl⟩ := List.mem_map.mp hv
  rfl

theorem insert_any (W : World) (base vb : Nat) (v : Value) (s : ByteArray) (ss : List ByteArray) (hm : Mine W base v ss) (hb : base ≤ W.heap.size) (hcell : W.cell? ⟨vb, 0, none⟩ = some (.string s))
    (hfz : ∀ o, W.frozen? ⟨vb, o, none⟩ = false) (hne : v.ownBlock ≠ some vb) (hn : ss.length ≤ 1000000) :
    Calls Try.prog 13 #[v, .int .i64 0, .slice (some ⟨vb, 0, none⟩) 1 1] W fun e w' => InsIs e w' W base s ss := by
  have hvs : ∀ (j : Nat) u, [Value.string s][j]? = some u → W.cell? ⟨vb, 0 + j, none⟩ = some u := fun j u hj => by
    cases j with
    | zero => simp at hj; subst hj; exact hcell
    | succ j => simp at hj
  rcases hm with ⟨rfl, rfl⟩ | ⟨g, cap, rfl, h0, h1, h2, h3, h4, hc, hs, hf⟩
  · have h := Any2.slices_Insert_string_end_grow Try.laysNm2_22 none 0 0 vb 0 1 1 [] [.string s] W (by omega) (by omega) (by omega) (by omega) rfl rfl (fun _ => rfl) (fun a ha => by cases ha) hvs (by simp [Value.oneCell'])
    refine h.mono ?_
    rintro e w' ⟨rfl, rfl⟩
    have hge := grownCap_ge W 1 0 9
    have hle := grownCap_le_maxLen W 1 0 9 (by unfold maxLen; omega)
    unfold maxLen at hle
    refine ⟨_, rfl, Or.inr ⟨W.heap.size, grownCap W 1 0 9, rfl, by simp, hb, ?_, by simpa using hge, by omega, fun j hj => ?_, fun j hj => ?_, fun j hj => ?_⟩, ?_⟩
    · show W.heap.size < (W.drew.alloc _).heap.size
      rw [World.size_alloc]; exact Nat.lt_succ_self _
    · rw [World.cell?_alloc_at (w := W.drew) _ _ W.heap.size _ rfl]
      have : j = 0 := by simp at hj; omega
      subst this
      rw [Array.getElem?_append_left (by simp)]
      rfl
    · rw [World.cell?_alloc_at (w := W.drew) _ _ W.heap.size _ rfl, Array.getElem?_eq_getElem]
      · rfl
      · rw [Array.size_append, zero_one]
        show j < 1 + (grownCap W 1 0 9 - 1)
        omega
    · exact World.frozen?_alloc_at (w := W.drew) _ _ W.heap.size _ rfl
    · exact ((Below.refl _ _).drew).alloc hb _
  · have hcs : ∀ (j : Nat) u, (ss.map Value.string)[j]? = some u → W.cell? ⟨g, 0 + j, none⟩ = some u := fun j u hj => by
      obtain ⟨hj1, rfl⟩ := List.getElem?_eq_some_iff.mp hj
      rw [Nat.zero_add, hc j (by simpa using hj1)]
      simp
    have hpos : 0 < ss.length := List.length_pos_iff.mpr h0
    have hvb : vb ≠ g := fun e => hne (by rw [e]; rfl)
    by_cases hroom : ss.length + 1 ≤ cap
    · obtain ⟨tA, kA, hsa, _⟩ := World.shape?_of_cell? hcell
      obtain ⟨tB, kB, hsb, hkB, _⟩ := World.shape?_of_cell? (hc 0 hpos)
      have h := Any2.slices_Insert_string_shift Try.laysNm2_22 g 0 ss.length cap 0 vb 0 1 1 (ss.map Value.string) [.string s] W hpos (by omega) hroom h4 hvb (by simp) rfl hcs
        (fun j hj => by rw [Nat.zero_add]; exact hs j (by omega)) (fun j hj => by rw [Nat.zero_add]; exact hf j (by omega)) hvs (oneS ss) (by simp [Value.oneCell']) tA tB kA kB hsa hsb (by have : (0 : Nat) < kB := hkB; omega) (hfz 0) (hfz kA)
      refine h.mono ?_
      rintro e w' ⟨rfl, rfl⟩
      refine ⟨_, rfl, ?_, ?_⟩
      · exact mine_put (W := W.drew) h1 h2 hroom h4 hs hf (W.drew.setCells g 1 (ss.map Value.string)) (W.drew.setCells g 1 (ss.map Value.string)) rfl (fun _ => rfl) (fun _ => rfl) rfl
      · exact below_setCellsQ h1 _ _ _ (below_setCellsQ h1 _ _ _ (Below.refl _ _).drew)
    · have h := Any2.slices_Insert_string_grow Try.laysNm2_22 g 0 ss.length cap 0 vb 0 1 1 (ss.map Value.string) [.string s] W hpos (by omega) h3 (by omega) (by omega) (by simp) rfl hcs hvs (oneS ss) (by simp [Value.oneCell'])
      refine h.mono ?_
      rintro e w' ⟨rfl, rfl⟩
      have hge := grownCap_ge W (ss.length + 1) cap 9
      have hle := grownCap_le_maxLen W (ss.length + 1) cap 9 (by unfold maxLen; omega)
      unfold maxLen at hle
      have hrow : ((((ss.map Value.string).take 0).toArray ++ Builtin.zeroCells (Value.string ⟨#[]⟩).cells (ss.length + 1 - 0) ++ Builtin.zeroCells (Value.string ⟨#[]⟩).cells (grownCap W (ss.length + 1) cap 9 - (ss.length + 1))) : Array Value).size = grownCap W (ss.length + 1) cap 9 := by
        rw [Array.size_append, Array.size_append, zero_one, zero_one]
        simp only [List.take_zero, List.size_toArray, List.length_nil]
        omega
      exact ⟨_, rfl, mine_grown (cap := grownCap W (ss.length + 1) cap 9) hb hge (by omega) hrow, below_grownQ hb⟩

end Go.Proofs.Qxb6626222a
