/- The contracts of expand.bracesSeqRec at a word of one Lit, of its inner closures. -/
import Derived.Test.YtphikmigopdndaaGreatFmtH
import Derived.Deep.RegionLaw
namespace Go.Proofs.YtphikmigopdndaaGreatFmt
open Go.RowKit

theorem below5 (w : World) (a b c d e : Obj) : Below w.heap.size w (((((w.alloc a).alloc b).alloc c).alloc d).alloc e).drew :=
  ((((((Below.refl _ w).alloc (Nat.le_refl _) a).alloc (by simp) b).alloc (by simp; omega) c).alloc (by simp; omega) d).alloc (by simp; omega) e).drew

theorem new_at (w : World) (o : Obj) {k : Nat} (h : w.heap.size = k) : (w.alloc o).drew.heap[k]? = some o := by
  subst h; exact heap_alloc_new w o

theorem boxed_drew {w : World} {b : Nat} {t : TypeId} {v : Value} (h : Boxed w b t v) : Boxed w.drew b t v := h

theorem first_of (u : Value) (c : Array Value) : (#[u] ++ c)[0]? = some u := by simp [Array.getElem?_append]

set_option maxRecDepth 100000 in
set_option maxHeartbeats 1000000 in
theorem rec_lit (nb g cap lb : Nat) (ca cb : Value) (R : World → Prop) (w : World)
    (h0 : w.cell? ⟨nb, 0, none⟩ = some (.slice (some ⟨g, 0, none⟩) 1 cap)) (h1 : w.cell? ⟨g, 0, none⟩ = some (.iface 73 (.pointer (some ⟨lb, 0, none⟩))))
    (HY : Hid (∀ (w1 : World) (p g1 cap1 : Nat), Below w.heap.size w w1 → w.heap.size ≤ p → w1.heap[p]? = some (.cells #[.slice (some ⟨g1, 0, none⟩) 1 cap1] 69 (0, 0)) →
      w1.cell? ⟨g1, 0, none⟩ = some (.iface 73 (.pointer (some ⟨lb, 0, none⟩))) → w.heap.size ≤ g1 → Calls Tryz.prog 31 #[.pointer (some ⟨p, 0, none⟩), ca, cb] w1 fun e w' => e = .returned (.bool true) ∧ R w')) :
    Calls Tryz.prog 21 #[.pointer (some ⟨nb, 0, none⟩), .func (.func 31) #[] #[ca, cb]] w fun e w' => e = .returned (.bool true) ∧ R w' := by
  have l0 : nb < w.heap.size := World.block_lt_of_cell? w _ h0
  have l1 : g < w.heap.size := World.block_lt_of_cell? w _ h1
  obtain ⟨i0, hi0, hz0, hz1, hz2⟩ := info_parts Tryz.info71
  have HI := Lib.hid hi0
  have HZ0 := Lib.hid hz0
  have HZ1 := Lib.hid hz1
  have HZ2 := Lib.hid hz2
  clear hi0 hz0 hz1 hz2
  have hta := ta_lit_brace
  go_enter Tryz.func21, Tryz.ntmps21
  go_wp2
  refine wp_loop_rounds 2 ?_
  rw [rounds_succ]
  go_wp2_with fail
  rw [rounds_succ]
  go_wp2_with fail
  refine (HY.out _ _ (w.heap.size + 1 + 1 + 1) _ (below5 _ _ _ _ _ _) (by omega) (new_at _ _ (by simp)) ?_ (by omega)).mono ?_
  · go_simp
    exact first_of _ _
  · rintro e w1 ⟨rfl, hR⟩
    have HR := Lib.hid hR
    clear hR
    go_wp2
    go_ret
    exact ⟨rfl, HR.out⟩

theorem concat_here (w : World) (t cc g1 cap1 lb : Nat) (lg : g1 < w.heap.size) (hg : w.cell? ⟨g1, 0, none⟩ = some (.iface 73 (.pointer (some ⟨lb, 0, none⟩)))) :
    Calls Tryz.prog 32 #[.slice (some ⟨w.heap.size, 0, none⟩) 2 cc] (w.alloc (.cells #[.slice none 0 0, .slice (some ⟨g1, 0, none⟩) 1 cap1] t)).drew fun e w' => ∃ g2 c2, e = .returned (.slice (some ⟨g2, 0, none⟩) 1 c2) ∧
      w'.ownsRow (w.heap.size + 1) 71 1 (.slice (some ⟨g2, 0, none⟩) 1 c2) 1 [.iface 73 (.pointer (some ⟨lb, 0, none⟩))] ∧ Below (w.heap.size + 1) (w.alloc (.cells #[.slice none 0 0, .slice (some ⟨g1, 0, none⟩) 1 cap1] t)).drew w' := by
  refine (concat_any w.heap.size cc g1 cap1 (.iface 73 (.pointer (some ⟨lb, 0, none⟩))) (by simp [Value.oneCell']) _ ?_ ?_ ?_).mono ?_
  · simp
  · simp
  · simp [World.cell?_alloc_lt w _ ⟨g1, 0, none⟩ lg, hg]
  · rintro e w' ⟨v, he, ho, hb⟩
    simp only [World.size_drew, World.size_alloc] at ho hb
    obtain ⟨g2, c2, rfl, -⟩ := owns_form ho (by omega)
    exact ⟨g2, c2, he, ho, hb⟩

theorem boxed_past {w w1 : World} {b : Nat} {t : TypeId} {v : Value} {o : Obj} (h : Boxed w b t v) (hb : Below (w.heap.size + 1) (w.alloc o).drew w1) : Boxed w1 b t v :=
  boxed_below (boxed_drew (h.alloc o)) (by simpa using hb)

theorem past_size {w w1 : World} {o : Obj} (hb : Below (w.heap.size + 1) (w.alloc o).drew w1) : w.heap.size + 1 ≤ w1.heap.size := by
  have := hb.size
  simpa using this

theorem clos_frame {w w1 : World} {B p : Nat} {o : Obj} {u v : Value} {xs : List Value} (hb1 : Below (w.heap.size + 1) (w.alloc o).drew w1) (hp1 : Boxed w1 p 69 u)
    (hown : w1.ownsRow (w.heap.size + 1) 71 1 v 1 xs) (hBp : B ≤ p) (lp : p < w.heap.size) :
    Boxed (w1.setCell ⟨p, 0, none⟩ v) p 69 v ∧ (w1.setCell ⟨p, 0, none⟩ v).ownsRow B 71 1 v 1 xs ∧ Below B w (w1.setCell ⟨p, 0, none⟩ v) ∧
      (∀ (y : Nat) (z : Value), y < w.heap.size → y ≠ p → w.cell? ⟨y, 0, none⟩ = some z → (w1.setCell ⟨p, 0, none⟩ v).cell? ⟨y, 0, none⟩ = some z) := by
  have hB : Below w.heap.size w w1 := ((Below.refl w.heap.size w).alloc (Nat.le_refl _) o).drew.trans (hb1.mono (Nat.le_succ _))
  refine ⟨hp1.set _, owns_base (by omega) (hown.kept (grownBy_setCell' _ _ _) (.inr (fun e => hp1.not_row (by decide) hown e.symm))), (hB.mono (B' := B) (by omega)).setCell (p := ⟨p, 0, none⟩) hBp _, ?_⟩
  intro y z hy hne hz
  rw [World.cell?_setCell_other _ ⟨p, 0, none⟩ ⟨y, 0, none⟩ _ (by intro e; cases e; exact hne rfl), hB.cell (p := ⟨y, 0, none⟩) hy, hz]

set_option maxRecDepth 100000 in
set_option maxHeartbeats 1000000 in
theorem clos31 (lbx ybx p g1 cap1 lb : Nat) (cn yb : Value) (R : World → Prop) (B : Nat) (w : World) (hBp : B ≤ p) (hlp : lbx < p) (hyp : ybx < p)
    (hl : w.cell? ⟨lbx, 0, none⟩ = some (.slice none 0 0)) (hy : w.cell? ⟨ybx, 0, none⟩ = some (.func (.func 22) #[] #[cn, yb]))
    (hp : w.heap[p]? = some (.cells #[.slice (some ⟨g1, 0, none⟩) 1 cap1] 69 (0, 0))) (hg : w.cell? ⟨g1, 0, none⟩ = some (.iface 73 (.pointer (some ⟨lb, 0, none⟩))))
    (HZ : Hid (∀ (w2 : World) (v : Value), Below B w w2 → w2.heap[p]? = some (.cells #[v] 69 (0, 0)) → w2.ownsRow B 71 1 v 1 [.iface 73 (.pointer (some ⟨lb, 0, none⟩))] →
      Calls Tryz.prog 22 #[.pointer (some ⟨p, 0, none⟩), cn, yb] w2 fun e w' => e = .returned (.bool true) ∧ R w')) :
    Calls Tryz.prog 31 #[.pointer (some ⟨p, 0, none⟩), .pointer (some ⟨lbx, 0, none⟩), .pointer (some ⟨ybx, 0, none⟩)] w fun e w' => e = .returned (.bool true) ∧ R w' := by
  have lp : p < w.heap.size := (Array.getElem?_eq_some_iff.1 hp).1
  have ll : lbx < w.heap.size := by omega
  have ly : ybx < w.heap.size := by omega
  have lg : g1 < w.heap.size := World.block_lt_of_cell? w _ hg
  have hpB : Boxed w p 69 (.slice (some ⟨g1, 0, none⟩) 1 cap1) := hp
  have gp := hpB.cell
  have gpf := hpB.frozen
  have HP := Lib.hid hpB
  clear hp hpB
  go_enter Tryz.func31, Tryz.ntmps31
  go_wp2
  go_region_law (go_simp; go_at_call 32; refine (concat_here w _ _ g1 cap1 lb lg hg).mono ?_; rintro e w1 ⟨g2, c2, rfl, hown, hb1⟩; have hs1 := past_size hb1; have lp1 : p < w1.heap.size := (by omega); have hp1 := boxed_past HP.out hb1; have gp1 := hp1.cell; have gpf1 := hp1.frozen; have HP1 := Lib.hid hp1; clear hp1; have HO := Lib.hid hown; clear hown)
  all_goals
    obtain ⟨k1, k2, k3, k4⟩ := clos_frame hb1 HP1.out HO.out hBp lp
    have gy := k4 ybx _ ly (by omega) hy
    clear k4 HP1 HO gp1 gpf1
    have hZ := HZ.out _ _ k3 k1 k2
    generalize w1.setCell ⟨p, 0, none⟩ (.slice (some ⟨g2, 0, none⟩) 1 c2) = W2 at *
    go_wp2_with fail
    refine hZ.mono ?_
    rintro e w' ⟨rfl, hR⟩
    have HR := Lib.hid hR
    clear hR
    go_wp2
    go_ret
    exact ⟨rfl, HR.out⟩

set_option maxRecDepth 100000 in
set_option maxHeartbeats 1000000 in
theorem rec30 (nb g cap lbx ybx lb : Nat) (cn yb : Value) (R : World → Prop) (w : World)
    (hl : w.cell? ⟨lbx, 0, none⟩ = some (.slice none 0 0)) (hy : w.cell? ⟨ybx, 0, none⟩ = some (.func (.func 22) #[] #[cn, yb]))
    (h0 : w.cell? ⟨nb, 0, none⟩ = some (.slice (some ⟨g, 0, none⟩) 1 cap)) (h1 : w.cell? ⟨g, 0, none⟩ = some (.iface 73 (.pointer (some ⟨lb, 0, none⟩))))
    (HZ : Hid (∀ (w2 : World) (p : Nat) (v : Value), Below w.heap.size w w2 → w.heap.size ≤ p → w2.heap[p]? = some (.cells #[v] 69 (0, 0)) → w2.ownsRow w.heap.size 71 1 v 1 [.iface 73 (.pointer (some ⟨lb, 0, none⟩))] →
      Calls Tryz.prog 22 #[.pointer (some ⟨p, 0, none⟩), cn, yb] w2 fun e w' => e = .returned (.bool true) ∧ R w')) :
    Calls Tryz.prog 30 #[.pointer (some ⟨nb, 0, none⟩), .pointer (some ⟨lbx, 0, none⟩), .pointer (some ⟨ybx, 0, none⟩)] w fun e w' => e = .returned (.bool true) ∧ R w' := by
  have ll : lbx < w.heap.size := World.block_lt_of_cell? w _ hl
  have ly : ybx < w.heap.size := World.block_lt_of_cell? w _ hy
  have hR : Calls Tryz.prog 21 #[.pointer (some ⟨nb, 0, none⟩), .func (.func 31) #[] #[.pointer (some ⟨lbx, 0, none⟩), .pointer (some ⟨ybx, 0, none⟩)]] w fun e w' => e = .returned (.bool true) ∧ R w' := by
    refine rec_lit nb g cap lb _ _ R w h0 h1 (Lib.hid (fun w1 p g1 cap1 hb hp hw hg _ => ?_))
    have hs := hb.size
    refine clos31 lbx ybx p g1 cap1 lb cn yb R w.heap.size w1 hp (by omega) (by omega) ((hb.cell ll).trans hl) ((hb.cell ly).trans hy) hw hg (Lib.hid (fun w2 v hb2 hp2 ho2 => ?_))
    exact HZ.out w2 p v (hb.trans hb2) hp hp2 ho2
  clear HZ
  go_enter Tryz.func30, Tryz.ntmps30
  go_wp2_with fail
  refine hR.mono ?_
  rintro e w1 ⟨rfl, hR⟩
  have HR := Lib.hid hR
  clear hR
  go_wp2
  go_ret
  exact ⟨rfl, HR.out⟩
end Go.Proofs.YtphikmigopdndaaGreatFmt
