import Derived.Test.Qxb6626374aBase
namespace Go.Proofs.Qxb6626374a
open Go.RowKit

theorem make28 (w : World) (n : Nat) (h : n ≤ 100000) : ∃ C : Array Value, C.size = n * 5 ∧ (Instr.makeSlice 28 (.int .i64 (n : Int)) (.int .i64 (n : Int))).run Try.prog w = .ok (.slice (some ⟨w.heap.size, 0, none⟩) n n) (w.alloc (.cells C 30)) := by
  obtain ⟨i0, hi, hz0, hz1, hz2⟩ := info_parts Try.info30
  have := run_make (P := Try.prog) w 28 30 i0 (.agg #[.int .u64 0, .int .i64 0, .int .i64 0, .int .i64 0, .int .i64 0]) Try.underlying28 hi hz0 .i64 .i64 n n (by omega) (by omega) (by rw [hz2]; omega) (by omega)
  refine ⟨_, ?_, this⟩
  rw [size_madeCells, hz1]
  simp

theorem range5 {w : World} {b o : Nat} {c : Cmd} (h : w.rangeAt b o c.cells) :
    w.cell? ⟨b, o, none⟩ = some (.int .u64 c.ix) ∧ w.cell? ⟨b, o + 1, none⟩ = some (.int .i64 c.ls) ∧ w.cell? ⟨b, o + 2, none⟩ = some (.int .i64 c.al) ∧
      w.cell? ⟨b, o + 3, none⟩ = some (.int .i64 c.ms) ∧ w.cell? ⟨b, o + 4, none⟩ = some (.int .i64 c.bs) :=
  ⟨h 0 _ rfl, h 1 _ rfl, h 2 _ rfl, h 3 _ rfl, h 4 _ rfl⟩

theorem there5 {w : World} {b o : Nat} (h : w.there b o 5) : ∃ o0 o1 o2 o3 o4,
    w.cell? ⟨b, o, none⟩ = some o0 ∧ w.cell? ⟨b, o + 1, none⟩ = some o1 ∧ w.cell? ⟨b, o + 2, none⟩ = some o2 ∧ w.cell? ⟨b, o + 3, none⟩ = some o3 ∧ w.cell? ⟨b, o + 4, none⟩ = some o4 ∧
    w.frozen? ⟨b, o, none⟩ = false ∧ w.frozen? ⟨b, o + 1, none⟩ = false ∧ w.frozen? ⟨b, o + 2, none⟩ = false ∧ w.frozen? ⟨b, o + 3, none⟩ = false ∧ w.frozen? ⟨b, o + 4, none⟩ = false := by
  obtain ⟨o0, e0⟩ := Option.isSome_iff_exists.1 (h 0 (by omega)).1
  obtain ⟨o1, e1⟩ := Option.isSome_iff_exists.1 (h 1 (by omega)).1
  obtain ⟨o2, e2⟩ := Option.isSome_iff_exists.1 (h 2 (by omega)).1
  obtain ⟨o3, e3⟩ := Option.isSome_iff_exists.1 (h 3 (by omega)).1
  obtain ⟨o4, e4⟩ := Option.isSome_iff_exists.1 (h 4 (by omega)).1
  exact ⟨o0, o1, o2, o3, o4, e0, e1, e2, e3, e4, (h 0 (by omega)).2, (h 1 (by omega)).2, (h 2 (by omega)).2, (h 3 (by omega)).2, (h 4 (by omega)).2⟩

/-- the row being filled: its first k commands lie there, the rest may be written -/
structure Filling (w : World) (B n k : Nat) (cs : List Cmd) : Prop where
  there : ∀ j, j < n → w.there B (j * 5) 5
  done : ∀ j (h : j < cs.length), j < k → w.rangeAt B (j * 5) cs[j].cells

theorem below_setCells {B : Nat} {a : World} {b : Nat} (hp : B ≤ b) : ∀ (vs : List Value) (o : Nat) (w : World), Below B a w → Below B a (w.setCells b o vs)
  | [], _, _, h => h
  | v :: r, o, w, h => by
    rw [World.setCells]
    exact below_setCells hp r (o + 1) _ (h.setCell hp v)

theorem Filling.start {w : World} {C : Array Value} {t : TypeId} {cs : List Cmd} {n : Nat} (hC : C.size = n * 5) : Filling (w.alloc (.cells C t)) w.heap.size n 0 cs := by
  refine ⟨fun j hj i hi => ⟨?_, ?_⟩, fun j _ hj => by omega⟩
  · rw [World.cell?_alloc_at _ _ _ _ rfl, Array.getElem?_eq_getElem (by omega)]
    rfl
  · simp [go_sem]

theorem Filling.step {w : World} {B n k : Nat} {cs : List Cmd} (hf : Filling w B n k cs) (hk : k < cs.length) (hn : k < n) (c : Cmd) (hc : c = cs[k]) (o : Obj) :
    Filling ((w.setCells B (k * 5) c.cells).alloc o) B n (k + 1) cs := by
  subst hc
  refine ⟨fun j hj => World.there_alloc (World.there_setCells (hf.there j hj) _ _ _) _, fun j hj hl => World.rangeAt_alloc ?_ _⟩
  by_cases h : j = k
  · subst h
    exact World.rangeAt_setCells_same _ _ _ _ (hf.there j hn)
  · have hjk : j < k := by omega
    refine World.rangeAt_setCells_apart (hf.done j hj hjk) _ _ _ (.inr (.inl ?_))
    show j * 5 + 5 ≤ k * 5
    omega

theorem Filling.row {w : World} {B n : Nat} {cs : List Cmd} (hf : Filling w B n n cs) (hn : cs.length = n) (hB : B < w.heap.size) (c : Nat) : RowC w (.slice (some ⟨B, 0, none⟩) n c) cs := by
  subst hn
  exact ⟨_, c, rfl, fun j hj => ⟨B, 0, rfl, hB, by rw [Nat.zero_add]; exact hf.done j hj hj⟩⟩

theorem step_all {w wr : World} {n k : Nat} {cs : List Cmd} (hb : Below w.heap.size w wr) (hs : w.heap.size < wr.heap.size) (hf : Filling wr w.heap.size n k cs) (hk : k < cs.length) (hn : k < n) (c : Cmd) (hc : c = cs[k]) (o : Obj) :
    Below w.heap.size w ((wr.setCells w.heap.size (k * 5) c.cells).alloc o) ∧ w.heap.size < ((wr.setCells w.heap.size (k * 5) c.cells).alloc o).heap.size ∧ Filling ((wr.setCells w.heap.size (k * 5) c.cells).alloc o) w.heap.size n (k + 1) cs := by
  have h1 : Below w.heap.size w (wr.setCells w.heap.size (k * 5) c.cells) := below_setCells (Nat.le_refl _) _ _ _ hb
  have h2 : Below w.heap.size wr (wr.setCells w.heap.size (k * 5) c.cells) := below_setCells (Nat.le_refl _) _ _ _ (Below.refl _ _)
  have h3 := h2.size
  refine ⟨h1.alloc (by omega) o, ?_, hf.step hk hn c hc o⟩
  rw [World.size_alloc]; omega

set_option maxHeartbeats 1000000 in
theorem build_any (v : Value) (cs : List Cmd) (w : World) (h : RowC w v cs) (hn : cs.length ≤ 4096) :
    Calls Try.prog 7 #[v] w fun e w' => ∃ rv, e = .returned rv ∧ RowC w' rv cs ∧ Below w.heap.size w w' := by
  obtain ⟨ao, c, rfl⟩ := h.form
  have heq := fun w (a : Option Addr) (n c : Nat) => Lib.run_eql_slice_nil (P := Try.prog) w 23 27 a n c 0 0 Try.underlying23
  cases ao with
  | none =>
    have hx : cs = [] := by
      rcases Nat.eq_zero_or_pos cs.length with h0 | h0
      · exact List.eq_nil_of_length_eq_zero h0
      · obtain ⟨b, off, e, _⟩ := h.at h0
        cases e
    subst hx
    go_enter Try.func7, Try.ntmps7
    go_wp2
    go_ret
    exact ⟨_, rfl, ⟨none, 0, rfl, fun j hj => by simp at hj⟩, Below.refl _ _⟩
  | some a =>
    obtain ⟨C, hC, hmk⟩ := make28 w cs.length (by omega)
    have HC : Hid (C.size = cs.length * 5) := hC
    have Hh : Hid (RowC w (.slice (some a) cs.length c) cs) := h
    clear hC h
    go_enter Try.func7, Try.ntmps7
    go_wp2_with fail
    go_loopw [4] (fun i wr => ∃ k : Nat, k ≤ cs.length ∧ i = .int .i64 k ∧ Below w.heap.size w wr ∧ w.heap.size < wr.heap.size ∧ Filling wr w.heap.size cs.length k cs) (fun i _ => cs.length - (intOf i).toNat)
    case atStart => exact ⟨0, Nat.zero_le _, rfl, (Below.refl _ _).alloc (Nat.le_refl _) _, by simp, Filling.start HC.out⟩
    case round =>
      obtain ⟨k, hk, rfl, hb, hs, hf⟩ := hrel
      have HF : Hid (Below w.heap.size w wr ∧ Filling wr w.heap.size cs.length k cs) := ⟨hb, hf⟩
      clear hb hf
      by_cases hlt : k < cs.length
      · obtain ⟨b, off, ha, hbl, hc⟩ := (Hh.out.later HF.out.1).at (by omega)
        cases ha
        obtain ⟨⟨ix, ls, al, ms, bs⟩, hck⟩ : ∃ ck, ck = cs[k] := ⟨_, rfl⟩
        have Hck : Hid (⟨ix, ls, al, ms, bs⟩ = cs[k]) := hck
        have hr := hc k hlt
        rw [← hck] at hr
        obtain ⟨r0, r1, r2, r3, r4⟩ := range5 hr
        simp only at r0 r1 r2 r3 r4
        obtain ⟨o0, o1, o2, o3, o4, p0, p1, p2, p3, p4, f0, f1, f2, f3, f4⟩ := there5 (HF.out.2.there k hlt)
        clear hc hck hr
        go_wp2_with fail
        go_roundw
        case rel => 
          refine ⟨k + 1, by omega, by go_num, ?_⟩
          exact step_all HF.out.1 hs HF.out.2 hlt hlt ⟨ix, ls, al, ms, bs⟩ Hck.out _
        case measure => simp [intOf]; omega
      · have hkn : k = cs.length := by omega
        go_wp2_with fail
        go_ret
        subst hkn
        exact ⟨_, rfl, HF.out.2.row rfl hs _, HF.out.1⟩

end Go.Proofs.Qxb6626374a
