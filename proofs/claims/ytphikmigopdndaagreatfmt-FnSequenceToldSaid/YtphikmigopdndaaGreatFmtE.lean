/- The contracts of laws.specWord and specWords at a word that is a sequence of plain words. -/
import Derived.Test.YtphikmigopdndaaGreatFmtD
import Derived.Deep.DeepCutAuto
import Derived.Deep.AppendLies
namespace Go.Proofs.YtphikmigopdndaaGreatFmt
open Go.RowKit

set_option maxHeartbeats 400000 in
theorem specWords_nil (w : World) :
    Calls Tryz.prog 12 #[.slice none 0 0] w fun e w' => e = .returned (.slice (some ⟨w.heap.size, 0, none⟩) 0 0) ∧ Below w.heap.size w w' := by
  go_enter Tryz.func12, Tryz.ntmps12
  go_wp2
  refine wp_loop_rounds 1 ?_
  rw [rounds_succ]
  go_wp2
  go_ret
  exact ⟨rfl, (Below.refl _ _).alloc (Nat.le_refl _) _⟩

theorem Tryz.info45 : (Tryz.prog.info? 45).map (fun i => (i.zero, i.size, i.bytes)) = some (some (.agg #[.int .i64 0, .string ⟨#[]⟩, .int .i64 0, .slice none 0 0, .slice none 0 0]), 5, 80) := by kernel_rfl

/-- an empty slice that the call has made -/
theorem owns_empty {W : World} {g : Nat} {e : TypeId} (h : W.heap[g]? = some (.cells #[] e (0, 0))) (o : Obj) : (W.alloc o).ownsRow g e 5 (.slice (some ⟨g, 0, none⟩) 0 0) 0 [] :=
  ⟨rfl, .inr ⟨g, 0, #[], rfl, Nat.le_refl _, (Below.heap_alloc _ _ _ (Array.getElem?_eq_some_iff.1 h).1).trans h, Nat.le_refl _, by decide, rfl, rfl⟩⟩

theorem owns5 {W : World} {B : Nat} {v v0 v1 v2 v3 v4 : Value} (h : W.ownsRow B 45 5 v (0 + 1) ([] ++ [v0, v1, v2, v3, v4])) :
    ∃ g cap, v = .slice (some ⟨g, 0, none⟩) 1 cap ∧ B ≤ g ∧ g < W.heap.size ∧
      (W.cell? ⟨g, 0, none⟩ = some v0 ∧ W.cell? ⟨g, 1, none⟩ = some v1 ∧ W.cell? ⟨g, 2, none⟩ = some v2 ∧ W.cell? ⟨g, 3, none⟩ = some v3 ∧ W.cell? ⟨g, 4, none⟩ = some v4) := by
  have h' := h.2
  rcases h' with ⟨_, h0⟩ | ⟨g, cap, cur, rfl, hb, hg, hn, _⟩
  · omega
  · have hc : ∀ (i : Nat) (u : Value), [v0, v1, v2, v3, v4][i]? = some u → W.cell? ⟨g, i, none⟩ = some u := fun i u hu => by
      have := h.cells (g := g) rfl i u (by simpa using hu)
      rwa [show ((⟨g, 0, none⟩ : Addr).add i) = ⟨g, i, none⟩ by unfold Addr.add; split <;> simp_all] at this
    exact ⟨g, cap, rfl, hb, (Array.getElem?_eq_some_iff.1 hg).1, hc 0 _ rfl, hc 1 _ rfl, hc 2 _ rfl, hc 3 _ rfl, hc 4 _ rfl⟩

/-- behind 'x := spec.Part{..}' -/
def XRel (B : Nat) (w : World) (κ : Int) (s : ByteArray) (Q : Nat → Value → World → Prop) (p : Value) (wx : World) : Prop :=
  ∃ (xb : Nat) (ua : Addr) (ul uc : Nat), p = .pointer (some ⟨xb, 0, none⟩) ∧ wx.cell? ⟨xb, 0, none⟩ = some (.int .i64 κ) ∧ wx.cell? ⟨xb, 1, none⟩ = some (.string s) ∧ wx.cell? ⟨xb, 2, none⟩ = some (.int .i64 0) ∧
    wx.cell? ⟨xb, 3, none⟩ = some (.slice (some ua) ul uc) ∧ wx.cell? ⟨xb, 4, none⟩ = some (.slice none 0 0) ∧ Q (B + 1) (.slice (some ua) ul uc) wx ∧ Below B w wx ∧ B < xb ∧ xb < wx.heap.size ∧
    wx.cell? ⟨B + 1, 4, none⟩ = some (.slice none 0 0) ∧ wx.heap[B]? = some (.cells #[] 45 (0, 0))

theorem xrel_new {w W w1 : World} {κ : Int} {s : ByteArray} {Q : Nat → Value → World → Prop} {ua : Addr} {ul uc : Nat} (hb1 : Below W.heap.size W w1) (hq : Q W.heap.size (.slice (some ua) ul uc) w1)
    (hQ : ∀ B B' u w1 w2, Q B u w1 → (∀ k, B ≤ k → k < w1.heap.size → w2.heap[k]? = w1.heap[k]?) → B' ≤ B → Q B' u w2)
    (hB : Below w.heap.size w W) (hz : w.heap.size + 1 < W.heap.size) (g4 : W.cell? ⟨w.heap.size + 1, 4, none⟩ = some (.slice none 0 0)) (gE : W.heap[w.heap.size]? = some (.cells #[] 45 (0, 0))) :
    XRel w.heap.size w κ s Q (.pointer (some ⟨w1.heap.size, 0, none⟩)) (w1.alloc (.cells #[.int .i64 κ, .string s, .int .i64 0, .slice (some ua) ul uc, .slice none 0 0] 45)) := by
  have hs := hb1.size
  refine ⟨w1.heap.size, ua, ul, uc, rfl, ?_, ?_, ?_, ?_, ?_, ?_, ?_, ?_, ?_, ?_, ?_⟩
  · rw [World.cell?_alloc_at _ _ _ _ rfl]; rfl
  · rw [World.cell?_alloc_at _ _ _ _ rfl]; rfl
  · rw [World.cell?_alloc_at _ _ _ _ rfl]; rfl
  · rw [World.cell?_alloc_at _ _ _ _ rfl]; rfl
  · rw [World.cell?_alloc_at _ _ _ _ rfl]; rfl
  · exact hQ _ _ _ _ _ hq (fun k _ hk => Below.heap_alloc _ _ _ hk) (by omega)
  · exact (hB.trans (hb1.mono (B' := w.heap.size) (by omega))).alloc (by omega) _
  · omega
  · simp
  · exact (World.cell?_alloc_lt w1 _ ⟨w.heap.size + 1, 4, none⟩ (show w.heap.size + 1 < w1.heap.size by omega)).trans ((hb1.cell (p := ⟨w.heap.size + 1, 4, none⟩) (show w.heap.size + 1 < W.heap.size by omega)).trans g4)
  · rw [Below.heap_alloc _ _ _ (by omega), hb1.block _ (by omega)]; exact gE

theorem setCell_keeps (w : World) (a : Addr) (v : Value) (k : Nat) (h : k ≠ a.block) : (w.setCell a v).heap[k]? = w.heap[k]? := Below.heap_setCell w a v k h
theorem setCell_size (w : World) (a : Addr) (v : Value) : (w.setCell a v).heap.size = w.heap.size := by simp [World.setCell]

/-- five cells stored one behind the other -/
def set5 (w : World) (b : Nat) (v0 v1 v2 v3 v4 : Value) : World :=
  ((((w.setCell ⟨b, 0, none⟩ v0).setCell ⟨b, 1, none⟩ v1).setCell ⟨b, 2, none⟩ v2).setCell ⟨b, 3, none⟩ v3).setCell ⟨b, 4, none⟩ v4

theorem set5_other (w : World) (b : Nat) (v0 v1 v2 v3 v4 : Value) (k : Nat) (h : k ≠ b) : (set5 w b v0 v1 v2 v3 v4).heap[k]? = w.heap[k]? := by
  unfold set5
  rw [setCell_keeps _ _ _ _ h, setCell_keeps _ _ _ _ h, setCell_keeps _ _ _ _ h, setCell_keeps _ _ _ _ h, setCell_keeps _ _ _ _ h]

theorem set5_size (w : World) (b : Nat) (v0 v1 v2 v3 v4 : Value) : (set5 w b v0 v1 v2 v3 v4).heap.size = w.heap.size := by
  unfold set5
  rw [setCell_size, setCell_size, setCell_size, setCell_size, setCell_size]

theorem sc_other (w : World) (b i j : Nat) (v : Value) (h : i ≠ j) : (w.setCell ⟨b, i, none⟩ v).cell? ⟨b, j, none⟩ = w.cell? ⟨b, j, none⟩ :=
  World.cell?_setCell_other w ⟨b, i, none⟩ ⟨b, j, none⟩ v (fun e => h (by injection e))
theorem sc_same (w : World) (b i : Nat) (v u : Value) (h : w.cell? ⟨b, i, none⟩ = some u) : (w.setCell ⟨b, i, none⟩ v).cell? ⟨b, i, none⟩ = some v :=
  World.cell?_setCell_same w ⟨b, i, none⟩ v h

theorem set5_cells {w : World} {b : Nat} {v0 v1 v2 v3 v4 u0 u1 u2 u3 u4 : Value} (y0 : w.cell? ⟨b, 0, none⟩ = some u0) (y1 : w.cell? ⟨b, 1, none⟩ = some u1) (y2 : w.cell? ⟨b, 2, none⟩ = some u2)
    (y3 : w.cell? ⟨b, 3, none⟩ = some u3) (y4 : w.cell? ⟨b, 4, none⟩ = some u4) :
    (set5 w b v0 v1 v2 v3 v4).cell? ⟨b, 0, none⟩ = some v0 ∧ (set5 w b v0 v1 v2 v3 v4).cell? ⟨b, 1, none⟩ = some v1 ∧ (set5 w b v0 v1 v2 v3 v4).cell? ⟨b, 2, none⟩ = some v2 ∧
      (set5 w b v0 v1 v2 v3 v4).cell? ⟨b, 3, none⟩ = some v3 ∧ (set5 w b v0 v1 v2 v3 v4).cell? ⟨b, 4, none⟩ = some v4 := by
  unfold set5
  refine ⟨?_, ?_, ?_, ?_, ?_⟩
  · rw [sc_other _ _ 4 0 _ (by decide), sc_other _ _ 3 0 _ (by decide), sc_other _ _ 2 0 _ (by decide), sc_other _ _ 1 0 _ (by decide)]
    exact sc_same _ _ _ _ _ y0
  · rw [sc_other _ _ 4 1 _ (by decide), sc_other _ _ 3 1 _ (by decide), sc_other _ _ 2 1 _ (by decide)]
    exact sc_same _ _ _ _ u1 (by rw [sc_other _ _ 0 1 _ (by decide)]; exact y1)
  · rw [sc_other _ _ 4 2 _ (by decide), sc_other _ _ 3 2 _ (by decide)]
    exact sc_same _ _ _ _ u2 (by rw [sc_other _ _ 1 2 _ (by decide), sc_other _ _ 0 2 _ (by decide)]; exact y2)
  · rw [sc_other _ _ 4 3 _ (by decide)]
    exact sc_same _ _ _ _ u3 (by rw [sc_other _ _ 2 3 _ (by decide), sc_other _ _ 1 3 _ (by decide), sc_other _ _ 0 3 _ (by decide)]; exact y3)
  · exact sc_same _ _ _ _ u4 (by rw [sc_other _ _ 3 4 _ (by decide), sc_other _ _ 2 4 _ (by decide), sc_other _ _ 1 4 _ (by decide), sc_other _ _ 0 4 _ (by decide)]; exact y4)

theorem set5_below {B : Nat} {w0 w : World} (hb : Below B w0 w) (b : Nat) (h : B ≤ b) (v0 v1 v2 v3 v4 : Value) : Below B w0 (set5 w b v0 v1 v2 v3 v4) := by
  unfold set5
  exact ((((hb.setCell (p := ⟨b, 0, none⟩) h _).setCell (p := ⟨b, 1, none⟩) h _).setCell (p := ⟨b, 2, none⟩) h _).setCell (p := ⟨b, 3, none⟩) h _).setCell (p := ⟨b, 4, none⟩) h _

theorem xrel_old {w W w1 : World} {κ : Int} {s : ByteArray} {Q : Nat → Value → World → Prop} {ua : Addr} {ul uc : Nat} {o : Obj} {u0 u1 u2 u3 u4 : Value} (hb1 : Below (W.alloc o).drew.heap.size (W.alloc o).drew w1) (hq : Q (W.alloc o).drew.heap.size (.slice (some ua) ul uc) w1)
    (hQ : ∀ B B' u w1 w2, Q B u w1 → (∀ k, B ≤ k → k < w1.heap.size → w2.heap[k]? = w1.heap[k]?) → B' ≤ B → Q B' u w2)
    (hB : Below w.heap.size w W) (hz : w.heap.size + 1 < W.heap.size) (g4 : W.cell? ⟨w.heap.size + 1, 4, none⟩ = some (.slice none 0 0)) (gE : W.heap[w.heap.size]? = some (.cells #[] 45 (0, 0)))
    (y0 : w1.cell? ⟨W.heap.size, 0, none⟩ = some u0) (y1 : w1.cell? ⟨W.heap.size, 1, none⟩ = some u1) (y2 : w1.cell? ⟨W.heap.size, 2, none⟩ = some u2) (y3 : w1.cell? ⟨W.heap.size, 3, none⟩ = some u3) (y4 : w1.cell? ⟨W.heap.size, 4, none⟩ = some u4) :
    XRel w.heap.size w κ s Q (.pointer (some ⟨W.heap.size, 0, none⟩)) (set5 w1 W.heap.size (.int .i64 κ) (.string s) (.int .i64 0) (.slice (some ua) ul uc) (.slice none 0 0)) := by
  obtain ⟨c0, c1, c2, c3, c4⟩ := set5_cells (v0 := .int .i64 κ) (v1 := .string s) (v2 := .int .i64 0) (v3 := .slice (some ua) ul uc) (v4 := .slice none 0 0) y0 y1 y2 y3 y4
  have hs : (W.alloc o).drew.heap.size = W.heap.size + 1 := by simp
  have hs1 := hb1.size
  rw [hs] at hs1 hq
  have hb2 : Below W.heap.size W w1 := (((Below.refl _ W).alloc (Nat.le_refl _) o).drew).trans (hb1.mono (B' := W.heap.size) (by omega))
  refine ⟨W.heap.size, ua, ul, uc, rfl, c0, c1, c2, c3, c4, ?_, ?_, ?_, ?_, ?_, ?_⟩
  · exact hQ _ _ _ _ _ hq (fun k hk _ => set5_other _ _ _ _ _ _ _ _ (by omega)) (by omega)
  · exact set5_below (hB.trans (hb2.mono (B' := w.heap.size) (by omega))) _ (by omega) _ _ _ _ _
  · omega
  · rw [set5_size]; omega
  · exact (World.cell?_of_block (w := w1) (a := ⟨w.heap.size + 1, 4, none⟩) (set5_other w1 W.heap.size _ _ _ _ _ (w.heap.size + 1) (by omega))).trans ((hb2.cell (p := ⟨w.heap.size + 1, 4, none⟩) (show w.heap.size + 1 < W.heap.size by omega)).trans g4)
  · rw [set5_other _ _ _ _ _ _ _ w.heap.size (by omega), hb2.block _ (by omega)]; exact gE

set_option maxRecDepth 100000 in
set_option maxHeartbeats 1000000 in
theorem specWord_one (b cp : Nat) (κ : Int) (s : ByteArray) (wa : Option Addr) (wl wk : Nat) (Q : Nat → Value → World → Prop) (w : World)
    (h0 : w.cell? ⟨b, 0, none⟩ = some (.int .i64 κ)) (h1 : w.cell? ⟨b, 1, none⟩ = some (.string s)) (h2 : w.cell? ⟨b, 2, none⟩ = some (.int .i64 0))
    (h3 : w.cell? ⟨b, 3, none⟩ = some (.slice wa wl wk)) (h4 : w.cell? ⟨b, 4, none⟩ = some (.slice none 0 0))
    (hQ : ∀ B B' u w1 w2, Q B u w1 → (∀ k, B ≤ k → k < w1.heap.size → w2.heap[k]? = w1.heap[k]?) → B' ≤ B → Q B' u w2)
    (HW : Hid (∀ w1 : World, Below w.heap.size w w1 → Calls Tryz.prog 12 #[.slice wa wl wk] w1 fun e w' => ∃ a l c, e = .returned (.slice (some a) l c) ∧ Below w1.heap.size w1 w' ∧ Q w1.heap.size (.slice (some a) l c) w')) :
    Calls Tryz.prog 6 #[.slice (some ⟨b, 0, none⟩) 1 cp] w fun e w' => ∃ (v u : Value), e = .returned v ∧ w'.ownsRow w.heap.size 45 5 v 1 [.int .i64 κ, .string s, .int .i64 0, u, .slice none 0 0] ∧
      Q w.heap.size u w' ∧ Below w.heap.size w w' := by
  have lb := World.block_lt_of_cell? w _ h0
  dsimp only at lb
  have HQ := Lib.hid hQ
  clear hQ
  go_enter Tryz.func6, Tryz.ntmps6
  go_wp2
  refine wp_loop_rounds 2 ?_
  rw [rounds_succ]
  go_wp2_with fail
  obtain ⟨W, hW⟩ : ∃ W, W = (w.alloc (.cells #[] 45)).alloc (.cells #[.int .i64 κ, .string s, .int .i64 0, .slice wa wl wk, .slice none 0 0] 40) := ⟨_, rfl⟩
  have hsz : W.heap.size = w.heap.size + 1 + 1 := by rw [hW]; simp
  have hB0 : Below w.heap.size w W := by rw [hW]; exact ((Below.refl _ w).alloc (Nat.le_refl _) _).alloc (by simp) _
  have g0 : W.cell? ⟨w.heap.size + 1, 0, none⟩ = some (.int .i64 κ) := by rw [hW]; go_simp
  have g1 : W.cell? ⟨w.heap.size + 1, 1, none⟩ = some (.string s) := by rw [hW]; go_simp
  have g2 : W.cell? ⟨w.heap.size + 1, 2, none⟩ = some (.int .i64 0) := by rw [hW]; go_simp
  have g3 : W.cell? ⟨w.heap.size + 1, 3, none⟩ = some (.slice wa wl wk) := by rw [hW]; go_simp
  have g4 : W.cell? ⟨w.heap.size + 1, 4, none⟩ = some (.slice none 0 0) := by rw [hW]; go_simp
  have gE : W.heap[w.heap.size]? = some (.cells #[] 45 (0, 0)) := by rw [hW]; exact (Below.heap_alloc _ _ _ (by simp)).trans (heap_alloc_new w _)
  rw [← hW]
  have HS := Lib.hid hsz
  have hne1 : w.heap.size + 1 < W.heap.size := by omega
  have hne2 : ¬ w.heap.size + 1 = W.heap.size := by omega
  have hne3 : ¬ W.heap.size = w.heap.size + 1 := by omega
  clear hW hsz h0 h1 h2 h3 h4
  go_cut [6] (fun p wx => XRel w.heap.size w κ s Q p wx)
  case first =>
    go_region_held3 (fun w' => w'.cell? ⟨w.heap.size + 1, 0, none⟩ = some (.int .i64 κ) ∧ w'.cell? ⟨w.heap.size + 1, 1, none⟩ = some (.string s) ∧ w'.cell? ⟨w.heap.size + 1, 2, none⟩ = some (.int .i64 0) ∧ w'.cell? ⟨w.heap.size + 1, 3, none⟩ = some (.slice wa wl wk))
      (first | go_keep | (go_split_ands; refine ⟨?_, ?_, ?_, ?_⟩ <;> (first | (rw [hb1.cell (by simp; have := HS.out; omega)]; first | assumption | (go_simp; done)) | (go_simp; rw [hb1.cell (by simp; have := HS.out; omega)]; first | assumption | (go_simp; done)) | (go_simp; done) | (simp [*, World.cell?_setCell_far]; done))))
      (first | (go_at_call 12; refine (HW.out _ (by exact hB0.drew)).mono ?_; rintro e w1 ⟨ua, ul, uc, rfl, hb1, hq1⟩; have hz1 : w.heap.size + 1 < w1.heap.size := (by have hx := hb1.size; have hy := HS.out; simp at hx; omega)) | (go_at_call 12; refine (HW.out _ (by exact (hB0.alloc hB0.size _).drew)).mono ?_; rintro e w1 ⟨ua, ul, uc, rfl, hb1, hq1⟩; have hz1 : w.heap.size + 1 < w1.heap.size := (by have hx := hb1.size; have hy := HS.out; simp at hx; omega); obtain ⟨y0, y1, y2, y3, y4⟩ : w1.cell? ⟨W.heap.size, 0, none⟩ = some (.int .i64 0) ∧ w1.cell? ⟨W.heap.size, 1, none⟩ = some (.string ⟨#[]⟩) ∧ w1.cell? ⟨W.heap.size, 2, none⟩ = some (.int .i64 0) ∧ w1.cell? ⟨W.heap.size, 3, none⟩ = some (.slice none 0 0) ∧ w1.cell? ⟨W.heap.size, 4, none⟩ = some (.slice none 0 0) := (by refine ⟨?_, ?_, ?_, ?_, ?_⟩ <;> (rw [hb1.cell (by simp)]; try go_simp)); obtain ⟨z0, z1, z2, z3, z4⟩ : w1.frozen? ⟨W.heap.size, 0, none⟩ = false ∧ w1.frozen? ⟨W.heap.size, 1, none⟩ = false ∧ w1.frozen? ⟨W.heap.size, 2, none⟩ = false ∧ w1.frozen? ⟨W.heap.size, 3, none⟩ = false ∧ w1.frozen? ⟨W.heap.size, 4, none⟩ = false := (by refine ⟨?_, ?_, ?_, ?_, ?_⟩ <;> (rw [hb1.frozen (by simp)]; try go_simp))))
    all_goals
      go_wp2_with fail
      go_meet
      first
      | (have tok := y0
         exact xrel_old (W := W) (w1 := w1) hb1 hq1 HQ.out hB0 (by omega) g4 gE y0 y1 y2 y3 y4)
      | exact xrel_new (W := W.drew) (w1 := w1) hb1 hq1 HQ.out hB0.drew hne1 g4 gE
  case rest =>
    obtain ⟨xb, ua, ul, uc, rfl, x0, x1, x2, x3, x4, xq, hBx, hzb, hzx, p4, hE⟩ := hcut
    obtain ⟨i0, hi0, hz0, hz1, hz2⟩ := info_parts Tryz.info45
    have HI := Lib.hid hi0
    have HZ0 := Lib.hid hz0
    have HZ1 := Lib.hid hz1
    have HZ2 := Lib.hid hz2
    have HE := Lib.hid hE
    clear hi0 hz0 hz1 hz2 hE
    go_wp2
    refine wp_loop_rounds 1 ?_
    rw [rounds_succ]
    go_wp2_with (at_builtin; refine wpList_append_own _ rfl _ _ 26 rfl w.heap.size 45 i0 (.agg #[.int .i64 0, .string ⟨#[]⟩, .int .i64 0, .slice none 0 0, .slice none 0 0]) 5 80 Tryz.underlying26 HI.out HZ0.out HZ1.out HZ2.out rfl (by decide) (.slice (some ⟨w.heap.size, 0, none⟩) 0 0) 0 [] rfl (owns_empty HE.out _) ⟨wc.heap.size, 0, none⟩ 1 1 [.int .i64 κ, .string s, .int .i64 0, .slice (some ua) ul uc, .slice none 0 0] rfl rfl (World.news_of_block (cs := #[.int .i64 κ, .string s, .int .i64 0, .slice (some ua) ul uc, .slice none 0 0]) (t := 45) (fr := (0, 0)) (heap_alloc_new wc _)) (by simp [Value.oneCell']) (by unfold maxLen; omega) (by omega) (by simp; omega) ?_; intro v' w4 hown4 hgrow _)
    have HO := Lib.hid hown4
    clear hown4
    have hB4 : Below w.heap.size w w4 := (hBx.alloc (by omega) _).grown hgrow (by simp; omega) (by intro k hk; simp [Value.ownBlock] at hk; omega)
    have HG := Lib.hid hgrow
    clear hgrow x0 x1 x2 x3 x4 p4
    rw [rounds_succ]
    go_wp2
    go_ret
    exact ⟨v', _, rfl, HO.out, HQ.out _ _ _ _ _ xq (fun k hk hk2 => (HG.out.block k (by simp; omega) (by simp [Value.ownBlock]; omega)).trans (Below.heap_alloc _ _ _ hk2)) (by omega), hB4⟩

theorem owns_ne {W : World} {B B' : Nat} {e e' : TypeId} {s s' n n' : Nat} {v v' : Value} {xs xs' : List Value} (h : W.ownsRow B e s v n xs) (h' : W.ownsRow B' e' s' v' n' xs') (he : e ≠ e') : v.ownBlock = none ∨ v.ownBlock ≠ v'.ownBlock := by
  have h2 := h.2
  rcases h2 with ⟨rfl, _⟩ | ⟨g, cap, cur, rfl, _, hg, _⟩
  · exact .inl rfl
  · right
    have h3 := h'.2
    rcases h3 with ⟨rfl, _⟩ | ⟨g', cap', cur', rfl, _, hg', _⟩
    · simp [Value.ownBlock]
    · intro e0
      simp only [Value.ownBlock, Option.some.injEq] at e0
      subst e0
      rw [hg] at hg'
      simp only [Option.some.injEq, Obj.cells.injEq] at hg'
      exact he hg'.2.1

theorem owns_one {W : World} {B : Nat} {e : TypeId} {s : Nat} {v : Value} {xs : List Value} (h : W.ownsRow B e s v 1 xs) : ∃ g cap, v = .slice (some ⟨g, 0, none⟩) 1 cap := by
  have h2 := h.2
  rcases h2 with ⟨_, h0⟩ | ⟨g, cap, _, rfl, _⟩
  · omega
  · exact ⟨g, cap, rfl⟩

/-- the words of a sequence, converted -/
def Words (B n : Nat) (ss : Nat → ByteArray) (u : Value) (w : World) : Prop :=
  ∃ xs : List Value, w.ownsRow B 26 1 u n xs ∧ ∀ (t : Nat) (x : Value), xs[t]? = some x → ∃ z, w.ownsRow B 45 5 x 1 [.int .i64 1, .string (ss t), .int .i64 0, z, .slice none 0 0]

theorem owns_same {W W2 : World} {B B' : Nat} {e : TypeId} {s n : Nat} {v : Value} {xs : List Value} (h : W.ownsRow B e s v n xs) (hb : ∀ k, B ≤ k → k < W.heap.size → W2.heap[k]? = W.heap[k]?) (hB : B' ≤ B) : W2.ownsRow B' e s v n xs := by
  have h2 := h.2
  refine ⟨h.1, ?_⟩
  rcases h2 with hn | ⟨g, cap, cur, rfl, hg, hh, rest⟩
  · exact .inl hn
  · exact .inr ⟨g, cap, cur, rfl, Nat.le_trans hB hg, (hb g hg (Array.getElem?_eq_some_iff.1 hh).1).trans hh, rest⟩

theorem Words.same {W W2 : World} {B B' n : Nat} {ss : Nat → ByteArray} {u : Value} (h : Words B n ss u W) (hb : ∀ k, B ≤ k → k < W.heap.size → W2.heap[k]? = W.heap[k]?) (hB : B' ≤ B) : Words B' n ss u W2 := by
  obtain ⟨xs, h1, h2⟩ := h
  refine ⟨xs, owns_same h1 hb hB, fun t x ht => ?_⟩
  obtain ⟨z, hz⟩ := h2 t x ht
  exact ⟨z, owns_same hz hb hB⟩

theorem Tryz.info26 : (Tryz.prog.info? 26).map (fun i => (i.zero, i.size, i.bytes)) = some (some (.slice none 0 0), 1, 24) := by kernel_rfl

/-- the round of specWords -/
def WRel (B : Nat) (w : World) (n : Nat) (ss : Nat → ByteArray) (i v : Value) (wr : World) : Prop :=
  ∃ j : Nat, i = .int .i64 (j : Int) ∧ j ≤ n ∧ Words B j ss v wr ∧ Below B w wr

theorem wrel_next {B : Nat} {w wr w3 w4 : World} {n j : Nat} {ss : Nat → ByteArray} {v v' x z : Value} {xs : List Value} {o : Obj} (hj : j < n) (hB : B ≤ wr.heap.size) (hBw : Below B w wr)
    (hown : wr.ownsRow B 26 1 v j xs) (hall : ∀ (t : Nat) (x : Value), xs[t]? = some x → ∃ z, wr.ownsRow B 45 5 x 1 [.int .i64 1, .string (ss t), .int .i64 0, z, .slice none 0 0])
    (hb3 : Below wr.heap.size wr w3) (hx : w3.ownsRow wr.heap.size 45 5 x 1 [.int .i64 1, .string (ss j), .int .i64 0, z, .slice none 0 0])
    (hown4 : w4.ownsRow B 26 1 v' (j + 1) (xs ++ [x])) (hgrow : (w3.alloc o).grownBy w4 v.ownBlock) : WRel B w n ss (.int .i64 ((j : Int) + 1)) v' w4 := by
  have hown3 := owns_below hb3 hown
  have hs3 := hb3.size
  refine ⟨j + 1, by simp, by omega, ⟨xs ++ [x], hown4, fun t y ht => ?_⟩, ?_⟩
  · by_cases h : t < j
    · have hxl : xs.length = j := by simpa using hown.1
      rw [List.getElem?_append_left (by omega)] at ht
      obtain ⟨z', hz'⟩ := hall t y ht
      have hz3 := owns_below hb3 hz'
      exact ⟨z', (hz3.alloc o).kept hgrow (owns_ne (hz3.alloc o) (hown3.alloc o) (by decide))⟩
    · have hxl : xs.length = j := by simpa using hown.1
      rw [List.getElem?_append_right (by omega), hxl] at ht
      have e : t - j = 0 := by
        rcases Nat.eq_zero_or_pos (t - j) with e | e
        · exact e
        · rw [List.getElem?_eq_none (by simp; omega)] at ht; cases ht
      rw [e] at ht
      simp only [List.getElem?_cons_zero, Option.some.injEq] at ht
      subst ht
      obtain rfl : t = j := by omega
      have hx' := owns_base hB hx
      exact ⟨z, (hx'.alloc o).kept hgrow (owns_ne (hx'.alloc o) (hown3.alloc o) (by decide))⟩
  · exact below_append (hBw.trans (hb3.mono hB)) (by omega) hown3 hgrow

set_option maxHeartbeats 1000000 in
theorem specWords_any (c cap n : Nat) (bs ks : Nat → Nat) (ss : Nat → ByteArray) (w : World) (hn : n ≤ 100) (hn1 : 1 ≤ n)
    (HC : Hid (∀ t, t < n → w.cell? ⟨c, t, none⟩ = some (.slice (some ⟨bs t, 0, none⟩) 1 (ks t))))
    (HB : Hid (∀ t, t < n → ∀ w1 : World, Below w.heap.size w w1 → Calls Tryz.prog 6 #[.slice (some ⟨bs t, 0, none⟩) 1 (ks t)] w1 fun e w' => ∃ (v u : Value), e = .returned v ∧ w'.ownsRow w1.heap.size 45 5 v 1 [.int .i64 1, .string (ss t), .int .i64 0, u, .slice none 0 0] ∧ Below w1.heap.size w1 w')) :
    Calls Tryz.prog 12 #[.slice (some ⟨c, 0, none⟩) n cap] w fun e w' => ∃ v, e = .returned v ∧ Below w.heap.size w w' ∧ Words w.heap.size n ss v w' := by
  have lc : c < w.heap.size := World.block_lt_of_cell? w _ (HC.out 0 (by omega))
  obtain ⟨i0, hi0, hz0, hz1, hz2⟩ := info_parts Tryz.info26
  have HI := Lib.hid hi0
  have HZ0 := Lib.hid hz0
  have HZ1 := Lib.hid hz1
  have HZ2 := Lib.hid hz2
  clear hi0 hz0 hz1 hz2
  go_enter Tryz.func12, Tryz.ntmps12
  go_wp2
  go_loopw [3, 5, 9] (fun v _ i wr => WRel w.heap.size w n ss i v wr) (fun _ _ i _ => n - (intOf i).toNat)
  case atStart => exact ⟨0, rfl, Nat.zero_le _, ⟨[], World.ownsRow_made w #[] 0 (Nat.le_refl _) (by decide) rfl, fun t x ht => by simp at ht⟩, (Below.refl _ _).alloc (Nat.le_refl _) _⟩
  case round =>
    obtain ⟨j, rfl, hj, ⟨xs, hown, hall⟩, hBr⟩ := hrel
    have hszr : w.heap.size ≤ wr.heap.size := hBr.size
    have HO := Lib.hid hown
    have HA := Lib.hid hall
    clear hown hall
    by_cases hlt : j < n
    · have hce : wr.cell? ⟨c, j, none⟩ = some (.slice (some ⟨bs j, 0, none⟩) 1 (ks j)) := (hBr.cell (p := ⟨c, j, none⟩) lc).trans (HC.out j hlt)
      go_wp2_with (first | (go_at_call 6; refine (HB.out j hlt _ hBr).mono ?_; rintro e w3 ⟨x, z, rfl, hx, hb3⟩; have HX := Lib.hid hx; clear hx; have hs3 := hb3.size; obtain ⟨gx, cx, rfl⟩ := owns_one HX.out) | (at_builtin; refine wpList_append_own _ rfl _ _ 42 rfl w.heap.size 26 i0 (.slice none 0 0) 1 24 Tryz.underlying42 HI.out HZ0.out HZ1.out HZ2.out rfl (by decide) _ _ _ rfl ((owns_below hb3 HO.out).alloc _) ⟨w3.heap.size, 0, none⟩ 1 1 [_] rfl rfl (cell_one_new _ _ _) (by simp [Value.oneCell']) (by unfold maxLen; omega) (by omega) (by simp; omega) ?_; intro v' w4 hown4 hgrow _))
      go_roundw
      case rel => exact wrel_next hlt hszr hBr HO.out HA.out hb3 HX.out hown4 hgrow
      case measure => simp [intOf]; omega
    · obtain rfl : j = n := by omega
      go_wp2
      go_ret
      exact ⟨_, rfl, hBr, ⟨xs, HO.out, HA.out⟩⟩

theorem specPlain_any (b cp : Nat) (s : ByteArray) (w : World)
    (h0 : w.cell? ⟨b, 0, none⟩ = some (.int .i64 1)) (h1 : w.cell? ⟨b, 1, none⟩ = some (.string s)) (h2 : w.cell? ⟨b, 2, none⟩ = some (.int .i64 0))
    (h3 : w.cell? ⟨b, 3, none⟩ = some (.slice none 0 0)) (h4 : w.cell? ⟨b, 4, none⟩ = some (.slice none 0 0)) :
    Calls Tryz.prog 6 #[.slice (some ⟨b, 0, none⟩) 1 cp] w fun e w' => ∃ (v u : Value), e = .returned v ∧ w'.ownsRow w.heap.size 45 5 v 1 [.int .i64 1, .string s, .int .i64 0, u, .slice none 0 0] ∧ Below w.heap.size w w' :=
  (specWord_one b cp 1 s none 0 0 (fun _ _ _ => True) w h0 h1 h2 h3 h4 (fun _ _ _ _ _ _ _ _ => trivial)
    (fun w1 _ => (specWords_nil w1).mono fun _ _ ⟨he, hb⟩ => ⟨_, _, _, he, hb, trivial⟩)).mono fun _ _ ⟨v, u, he, ho, _, hb⟩ => ⟨v, u, he, ho, hb⟩

/-- the five cells of a plain part -/
def PartAt (w : World) (b : Nat) (κ : Int) (s : ByteArray) (words : Value) : Prop :=
  w.cell? ⟨b, 0, none⟩ = some (.int .i64 κ) ∧ w.cell? ⟨b, 1, none⟩ = some (.string s) ∧ w.cell? ⟨b, 2, none⟩ = some (.int .i64 0) ∧ w.cell? ⟨b, 3, none⟩ = some words ∧ w.cell? ⟨b, 4, none⟩ = some (.slice none 0 0)

theorem PartAt.later {w w1 : World} {b : Nat} {κ : Int} {s : ByteArray} {words : Value} (h : PartAt w b κ s words) (hb : Below w.heap.size w w1) : PartAt w1 b κ s words := by
  obtain ⟨h0, h1, h2, h3, h4⟩ := h
  have lb : b < w.heap.size := World.block_lt_of_cell? w _ h0
  exact ⟨(hb.cell (p := ⟨b, 0, none⟩) lb).trans h0, (hb.cell (p := ⟨b, 1, none⟩) lb).trans h1, (hb.cell (p := ⟨b, 2, none⟩) lb).trans h2, (hb.cell (p := ⟨b, 3, none⟩) lb).trans h3, (hb.cell (p := ⟨b, 4, none⟩) lb).trans h4⟩

theorem specTop_any (b cp c cap n : Nat) (x : ByteArray) (bs ks : Nat → Nat) (ss : Nat → ByteArray) (w : World) (hn : n ≤ 100) (hn1 : 1 ≤ n)
    (hp : PartAt w b 8 x (.slice (some ⟨c, 0, none⟩) n cap))
    (hc : ∀ t, t < n → w.cell? ⟨c, t, none⟩ = some (.slice (some ⟨bs t, 0, none⟩) 1 (ks t)))
    (hs : ∀ t, t < n → PartAt w (bs t) 1 (ss t) (.slice none 0 0)) :
    Calls Tryz.prog 6 #[.slice (some ⟨b, 0, none⟩) 1 cp] w fun e w' => ∃ (v u : Value), e = .returned v ∧ w'.ownsRow w.heap.size 45 5 v 1 [.int .i64 8, .string x, .int .i64 0, u, .slice none 0 0] ∧
      Words w.heap.size n ss u w' ∧ Below w.heap.size w w' := by
  obtain ⟨h0, h1, h2, h3, h4⟩ := hp
  refine specWord_one b cp 8 x (some ⟨c, 0, none⟩) n cap (fun B u w => Words B n ss u w) w h0 h1 h2 h3 h4 (fun B B' u w1 w2 h hb hB => h.same hb hB) (fun w1 hb1 => ?_)
  have lc : c < w.heap.size := World.block_lt_of_cell? w _ (hc 0 (by omega))
  refine (specWords_any c cap n bs ks ss w1 hn hn1 (fun t ht => (hb1.cell (p := ⟨c, t, none⟩) lc).trans (hc t ht)) (fun t ht w2 hb2 => ?_)).mono ?_
  · obtain ⟨p0, p1, p2, p3, p4⟩ := ((hs t ht).later hb1).later hb2
    exact specPlain_any _ _ _ w2 p0 p1 p2 p3 p4
  · rintro e w' ⟨v, he, hb, hw⟩
    obtain ⟨xs, ho, ha⟩ := hw
    obtain ⟨g, cp', rfl, _⟩ := owns_form ho hn1
    exact ⟨_, _, _, he, hb, ⟨xs, ho, ha⟩⟩
end Go.Proofs.YtphikmigopdndaaGreatFmt
