/- The contract of expand.bracesSeqRec at a word of one sequence: it yields the numerals from one end to the other, each a word of one Lit. -/
import Derived.Test.YtphikmigopdndaaGreatFmtI
import Derived.Test.YtphikmigopdndaaGreatFmtG
import Derived.Deep.DeepCutAuto
namespace Go.Proofs.YtphikmigopdndaaGreatFmt
open Go.RowKit

/-- what a yield leaves as it was: the boxes of the walk over the word -/
def KeepT (w w' : World) : Prop := w.heap.size ≤ w'.heap.size ∧ ∀ (b : Nat) (t : TypeId) (v : Value), (t = 66 ∨ t = 67 ∨ t = 69) → Boxed w b t v → Boxed w' b t v

theorem KeepT.before {w w1 w2 : World} (h : KeepT w1 w2) (hb : Below w.heap.size w w1) : KeepT w w2 :=
  ⟨Nat.le_trans hb.size h.1, fun b t v ht hv => h.2 b t v ht (boxed_below hv hb)⟩

/-- a yield of the word p, whose one part is a Lit of the j-th numeral -/
def YieldsTo (cn yb : Value) (n d : Int) (N : Nat) (J : Nat → World → Prop) : Prop :=
  ∀ (j : Nat) (w2 : World) (p : Nat) (v : Value) (lb : Nat), j < N → J j w2 → w2.heap[p]? = some (.cells #[v] 69 (0, 0)) → w2.ownsRow 0 71 1 v 1 [.iface 73 (.pointer (some ⟨lb, 0, none⟩))] →
    w2.cell? ⟨lb, 4, none⟩ = some (.string (sI (n + (j : Int) * d))) →
    Calls Tryz.prog 22 #[.pointer (some ⟨p, 0, none⟩), cn, yb] w2 fun e w' => e = .returned (.bool true) ∧ J (j + 1) w' ∧ KeepT w2 w'

/-- between two rounds of the walk over the sequence -/
def RecRel (n d : Int) (N : Nat) (J : Nat → World → Prop) (nb ybx lbx : Nat) (u yv : Value) (S : Nat) (q : Value) (wr : World) : Prop :=
  ∃ j : Nat, q = .int .i64 (n + (j : Int) * d) ∧ j ≤ N ∧ J j wr ∧ S ≤ wr.heap.size ∧ Boxed wr nb 69 u ∧ Boxed wr lbx 67 (.slice none 0 0) ∧ Boxed wr ybx 66 yv

theorem rec_round {n d : Int} {N j : Nat} {J : Nat → World → Prop} {nb ybx lbx S nb2 g2 c2 lb : Nat} {u cn yb : Value} {wr W : World}
    (hJ : ∀ j w w', J j w → Below w.heap.size w w' → J j w') (HB : Hid (YieldsTo cn yb n d N J)) (hlt : j < N) (hj : J j wr) (hS : S ≤ wr.heap.size) (h1 : Boxed wr nb 69 u) (h2 : Boxed wr lbx 67 (.slice none 0 0)) (h3 : Boxed wr ybx 66 (.func (.func 22) #[] #[cn, yb]))
    (hb : Below wr.heap.size wr W) (k0 : W.cell? ⟨nb2, 0, none⟩ = some (.slice (some ⟨g2, 0, none⟩) 1 c2)) (k1 : W.cell? ⟨g2, 0, none⟩ = some (.iface 73 (.pointer (some ⟨lb, 0, none⟩)))) (k2 : W.cell? ⟨lb, 4, none⟩ = some (.string (sI (n + (j : Int) * d)))) :
    Calls Tryz.prog 30 #[.pointer (some ⟨nb2, 0, none⟩), .pointer (some ⟨lbx, 0, none⟩), .pointer (some ⟨ybx, 0, none⟩)] W fun e w' => e = .returned (.bool true) ∧ RecRel n d N J nb ybx lbx u (.func (.func 22) #[] #[cn, yb]) S (.int .i64 (n + (j : Int) * d + d)) w' := by
  have lb2 : lb < W.heap.size := World.block_lt_of_cell? W _ k2
  refine (rec30 nb2 g2 c2 lbx ybx lb cn yb (fun w' => J (j + 1) w' ∧ KeepT W w') W (boxed_below h2 hb).cell (boxed_below h3 hb).cell k0 k1 (Lib.hid ?_)).mono ?_
  · intro w2 p v hb2 _ hp ho
    refine (HB.out j w2 p v lb hlt (hJ _ _ _ (hJ _ _ _ hj hb) hb2) hp (owns_base (Nat.zero_le _) ho) ((hb2.cell (p := ⟨lb, 4, none⟩) lb2).trans k2)).mono ?_
    rintro e w' ⟨he, hj', hk⟩
    exact ⟨he, hj', hk.before hb2⟩
  · rintro e w' ⟨he, hj', hk⟩
    have hk' := hk.before hb
    refine ⟨he, j + 1, ?_, by omega, hj', Nat.le_trans hS hk'.1, hk'.2 _ _ _ (by simp) h1, hk'.2 _ _ _ (by simp) h2, hk'.2 _ _ _ (by simp) h3⟩
    rw [show n + (j : Int) * d + d = n + ((j + 1 : Nat) : Int) * d by simp [Int.add_mul]; omega]

/-- a sequence of three parts lies at pb -/
structure RecAt (pb ec ecap wb0 wb1 wb2 : Nat) (w : World) : Prop where
  b0 : w.cell? ⟨pb, 0, none⟩ = some (.bool true)
  b1 : w.cell? ⟨pb, 1, none⟩ = some (.slice (some ⟨ec, 0, none⟩) 3 ecap)
  e0 : w.cell? ⟨ec, 0, none⟩ = some (.pointer (some ⟨wb0, 0, none⟩))
  e1 : w.cell? ⟨ec, 1, none⟩ = some (.pointer (some ⟨wb1, 0, none⟩))
  e2 : w.cell? ⟨ec, 2, none⟩ = some (.pointer (some ⟨wb2, 0, none⟩))

theorem RecAt.later {pb ec ecap wb0 wb1 wb2 : Nat} {w w' : World} (h : RecAt pb ec ecap wb0 wb1 wb2 w) (hb : Below w.heap.size w w') : RecAt pb ec ecap wb0 wb1 wb2 w' := by
  have l1 : pb < w.heap.size := World.block_lt_of_cell? w _ h.b0
  have l2 : ec < w.heap.size := World.block_lt_of_cell? w _ h.e0
  exact ⟨(hb.cell (p := ⟨pb, 0, none⟩) l1).trans h.b0, (hb.cell (p := ⟨pb, 1, none⟩) l1).trans h.b1, (hb.cell (p := ⟨ec, 0, none⟩) l2).trans h.e0, (hb.cell (p := ⟨ec, 1, none⟩) l2).trans h.e1, (hb.cell (p := ⟨ec, 2, none⟩) l2).trans h.e2⟩

def LitHands (w : World) (wb : Nat) (s : ByteArray) : Prop :=
  ∀ w1 : World, Below w.heap.size w w1 → Calls Tryz.prog 16 #[.pointer (some ⟨wb, 0, none⟩)] w1 fun e w' => e = .returned (.string s) ∧ Below w1.heap.size w1 w'

theorem LitHands.later {w w' : World} {wb : Nat} {s : ByteArray} (h : LitHands w wb s) (hb : Below w.heap.size w w') : LitHands w' wb s :=
  fun w1 hb1 => h w1 (hb.trans (hb1.mono hb.size))

def Parses (s : ByteArray) (n : Int) : Prop := ∀ w : World, Calls Tryz.prog 33 #[.string s, .int .i64 10, .int .i64 64] w fun e w' => e = .returned (.tuple #[.int .i64 n, .nilIface]) ∧ Below w.heap.size w w'

def NoNought (s : ByteArray) : Prop := ∀ w : World, Calls Tryz.prog 34 #[.string s] w fun e w' => e = .returned (.bool false) ∧ w = w'

theorem good_up {n m k d : Int} {N j : Nat} (hg : Good n m k d N) (h : n ≤ m) (hj : j ≤ N) : d = k ∧ n ≤ n + (j : Int) * d ∧ (j < N → n + (j : Int) * d ≤ m) ∧ (¬ j < N → m < n + (j : Int) * d) := by
  rcases hg.dir with ⟨_, rfl, h2, h3⟩ | ⟨h1, _⟩
  · have hp : 0 ≤ (j : Int) * d := Int.mul_nonneg (by omega) (by have := hg.k0; omega)
    refine ⟨rfl, by omega, fun hlt => ?_, fun hlt => ?_⟩
    · have : (j : Int) * d ≤ ((N : Int) - 1) * d := Int.mul_le_mul_of_nonneg_right (by omega) (by have := hg.k0; omega)
      omega
    · obtain rfl : j = N := by omega
      exact h2
  · omega

theorem good_down {n m k d : Int} {N j : Nat} (hg : Good n m k d N) (h : m < n) (hj : j ≤ N) : k = 1 ∧ d = -1 ∧ n + (j : Int) * d ≤ n ∧ (j < N → m ≤ n + (j : Int) * d) ∧ (¬ j < N → n + (j : Int) * d < m) := by
  rcases hg.dir with ⟨h1, _⟩ | ⟨_, h1, rfl, h3⟩
  · omega
  · exact ⟨h1, rfl, by omega, fun _ => by omega, fun _ => by omega⟩

theorem new_at2 (w : World) (o : Obj) {k : Nat} (h : w.heap.size = k) : (w.alloc o).heap[k]? = some o := by
  subst h; exact heap_alloc_new w o

theorem two_new {w w3 : World} {u a b c d e : Value} (hb : Below ((w.alloc (.cells #[u] 69)).alloc (.cells #[a, b, c, d, e] 79)).heap.size ((w.alloc (.cells #[u] 69)).alloc (.cells #[a, b, c, d, e] 79)) w3) :
    w3.cell? ⟨w.heap.size, 0, none⟩ = some u ∧ w3.frozen? ⟨w.heap.size, 0, none⟩ = false ∧ w3.cell? ⟨w.heap.size + 1, 4, none⟩ = some e ∧ w3.frozen? ⟨w.heap.size + 1, 4, none⟩ = false ∧ w.heap.size + 1 < w3.heap.size ∧
      Below w.heap.size w w3 ∧ w3.heap[w.heap.size + 1]? = some (.cells #[a, b, c, d, e] 79) := by
  have h2 : w3.heap[w.heap.size + 1]? = some (.cells #[a, b, c, d, e] 79) := (hb.block (w.heap.size + 1) (by simp)).trans (new_at2 _ _ (by simp))
  have h1 : w3.heap[w.heap.size]? = some (.cells #[u] 69) := (hb.block w.heap.size (by simp; omega)).trans ((Below.heap_alloc _ _ _ (by simp)).trans (new_at2 _ _ rfl))
  refine ⟨?_, ?_, ?_, ?_, (Array.getElem?_eq_some_iff.1 h2).1, (((Below.refl _ w).alloc (Nat.le_refl _) _).alloc (by simp) _).trans (hb.mono (by simp; omega)), h2⟩
  · simp [World.cell?, h1]
  · simp [World.frozen?, h1]
  · simp [World.cell?, h2]
  · simp [World.frozen?, h2]

theorem two_put {W : World} {b : Nat} {u v : Value} (h1 : W.cell? ⟨b, 0, none⟩ = some u) (h2 : W.frozen? ⟨b, 0, none⟩ = false) :
    (W.setCell ⟨b + 1, 4, none⟩ v).cell? ⟨b, 0, none⟩ = some u ∧ (W.setCell ⟨b + 1, 4, none⟩ v).frozen? ⟨b, 0, none⟩ = false ∧
    ∀ o : Obj, ((W.setCell ⟨b + 1, 4, none⟩ v).alloc o).cell? ⟨b, 0, none⟩ = some u ∧ ((W.setCell ⟨b + 1, 4, none⟩ v).alloc o).frozen? ⟨b, 0, none⟩ = false := by
  have lb : b < (W.setCell ⟨b + 1, 4, none⟩ v).heap.size := by simpa using World.block_lt_of_cell? W _ h1
  have hk : (W.setCell ⟨b + 1, 4, none⟩ v).heap[b]? = W.heap[b]? := Below.heap_setCell _ _ _ _ (by dsimp only; omega)
  refine ⟨?_, ?_, fun o => ⟨?_, ?_⟩⟩
  · rw [← h1]; exact World.cell?_of_block hk
  · rw [← h2]; exact World.frozen?_of_block hk
  · rw [← h1]; exact World.cell?_of_block ((Below.heap_alloc _ _ _ lb).trans hk)
  · rw [← h2]; exact World.frozen?_of_block ((Below.heap_alloc _ _ _ lb).trans hk)

theorem two_end {w w3 : World} {u v a b c d e : Value} (hb : Below w.heap.size w w3) (h7 : w3.heap[w.heap.size + 1]? = some (.cells #[a, b, c, d, e] 79)) (h1 : w3.cell? ⟨w.heap.size, 0, none⟩ = some u) :
    let W := (((w3.setCell ⟨w.heap.size + 1, 4, none⟩ v).alloc (.cells #[.iface 73 (.pointer (some ⟨w.heap.size + 1, 0, none⟩))] 71)).setCell ⟨w.heap.size, 0, none⟩ (.slice (some ⟨w3.heap.size, 0, none⟩) 1 1))
    Below w.heap.size w W ∧ W.cell? ⟨w.heap.size, 0, none⟩ = some (.slice (some ⟨w3.heap.size, 0, none⟩) 1 1) ∧ W.cell? ⟨w3.heap.size, 0, none⟩ = some (.iface 73 (.pointer (some ⟨w.heap.size + 1, 0, none⟩))) ∧ W.cell? ⟨w.heap.size + 1, 4, none⟩ = some v := by
  have l7 : w.heap.size + 1 < w3.heap.size := (Array.getElem?_eq_some_iff.1 h7).1
  refine ⟨?_, ?_, ?_, ?_⟩
  · exact (((hb.setCell (p := ⟨w.heap.size + 1, 4, none⟩) (by simp) _).alloc (by simp; omega) _).setCell (p := ⟨w.heap.size, 0, none⟩) (by simp) _)
  · refine World.cell?_setCell_same _ _ _ (u := u) ?_
    rw [World.cell?_alloc_lt _ _ ⟨w.heap.size, 0, none⟩ (by simp; omega), World.cell?_setCell_far _ _ _ _ (by dsimp only; omega)]
    exact h1
  · rw [World.cell?_setCell_far _ _ _ _ (by dsimp only; omega)]
    have h : ((w3.setCell ⟨w.heap.size + 1, 4, none⟩ v).alloc (.cells #[.iface 73 (.pointer (some ⟨w.heap.size + 1, 0, none⟩))] 71)).heap[w3.heap.size]? = some (.cells #[.iface 73 (.pointer (some ⟨w.heap.size + 1, 0, none⟩))] 71) := new_at2 _ _ (by simp)
    unfold World.cell?
    dsimp only
    rw [h]
    rfl
  · rw [World.cell?_setCell_far _ _ _ _ (by dsimp only; omega), World.cell?_alloc_lt _ _ ⟨w.heap.size + 1, 4, none⟩ (by simp; omega)]
    exact World.cell?_setCell_same _ _ _ (u := e) (by simp [World.cell?, h7])

set_option maxRecDepth 100000 in
set_option maxHeartbeats 4000000 in
theorem rec_top (n m k d : Int) (N : Nat) (hg : Good n m k d N) (J : Nat → World → Prop) (hJ : ∀ j w w', J j w → Below w.heap.size w w' → J j w') (cn yb : Value)
    (HB : Hid (YieldsTo cn yb n d N J)) (nb g cap pb ec ecap wb0 wb1 wb2 : Nat) (w : World) (hj : J 0 w) (n0 : Nat) (hT : ∀ j w, J j w → Tab n0 w)
    (h0 : Boxed w nb 69 (.slice (some ⟨g, 0, none⟩) 1 cap)) (h1 : w.cell? ⟨g, 0, none⟩ = some (.iface 88 (.pointer (some ⟨pb, 0, none⟩)))) (hat : RecAt pb ec ecap wb0 wb1 wb2 w)
    (s0 s1 s2 : ByteArray) (HL0 : Hid (LitHands w wb0 s0)) (HL1 : Hid (LitHands w wb1 s1)) (HL2 : Hid (LitHands w wb2 s2))
    (HP0 : Hid (Parses s0 n)) (HP1 : Hid (Parses s1 m)) (HP2 : Hid (Parses s2 k)) (HQ0 : Hid (NoNought s0)) (HQ1 : Hid (NoNought s1)) (up : Bool) (hup : decide (n ≤ m) = up) :
    Calls Tryz.prog 21 #[.pointer (some ⟨nb, 0, none⟩), .func (.func 22) #[] #[cn, yb]] w fun e w' => e = .returned (.bool true) ∧ J N w' := by
  have l0 : nb < w.heap.size := Boxed.lt h0
  have l1 : g < w.heap.size := World.block_lt_of_cell? w _ h1
  have r1 := hg.n0
  have r2 := hg.n1
  have r3 := hg.m0
  have r4 := hg.m1
  have r5 := hg.k0
  have r6 := hg.k1
  have hta := ta_brace
  have gc := h0.cell
  have H0 := Lib.hid h0
  clear h0
  · go_enter Tryz.func21, Tryz.ntmps21
    go_wp2
    refine wp_loop_rounds 1 ?_
    rw [rounds_succ]
    obtain ⟨W, hW⟩ : ∃ W, W = (w.alloc (.cells #[.func (.func 22) #[] #[cn, yb]] 66)).alloc (.cells #[.slice none 0 0] 67) := ⟨_, rfl⟩
    have hB : Below w.heap.size w W := by rw [hW]; exact ((Below.refl _ w).alloc (Nat.le_refl _) _).alloc (by simp) _
    have gcW : W.cell? ⟨nb, 0, none⟩ = some (.slice (some ⟨g, 0, none⟩) 1 cap) := (hB.cell (p := ⟨nb, 0, none⟩) l0).trans gc
    have gW : W.cell? ⟨g, 0, none⟩ = some (.iface 88 (.pointer (some ⟨pb, 0, none⟩))) := (hB.cell (p := ⟨g, 0, none⟩) l1).trans h1
    have hatW := hat.later hB
    have gl : Boxed W (w.heap.size + 1) 67 (.slice none 0 0) := by rw [hW]; exact new_at2 _ _ (by simp)
    have gy : Boxed W w.heap.size 66 (.func (.func 22) #[] #[cn, yb]) := by rw [hW]; exact Boxed.alloc (Boxed.new _ _ _) _
    have HL0' := Lib.hid (HL0.out.later hB)
    have HL1' := Lib.hid (HL1.out.later hB)
    have HL2' := Lib.hid (HL2.out.later hB)
    have hjW := hJ _ _ _ hj hB
    have HJW := Lib.hid hjW
    clear hjW hj HL0 HL1 HL2 gc h1 
    rw [← hW]
    have lW : W.heap.size = w.heap.size + 2 := by rw [hW]; simp
    clear hW
    have hcur : Below W.heap.size W W := Below.refl _ W
    go_upto_region 8 with fail
    go_cut [10, 33] from 35 to 227 (fun r _ wx => (∃ a c, r = .slice (some a) 0 c) ∧ W = wx)
    case first =>
      go_wp2_with fail
      all_goals
        go_meet
      all_goals exact ⟨⟨_, _, rfl⟩, rfl⟩
    case rest =>
      obtain ⟨⟨ra, rc, rfl⟩, hwx⟩ := hcut
      subst hwx
      obtain ⟨b0, b1, e0, e1, e2⟩ := hatW
      have hat' : RecAt pb ec ecap wb0 wb1 wb2 W := ⟨b0, b1, e0, e1, e2⟩
      go_upto_region 12 with (go_at_call 16; refine (HL0'.out _ hcur).mono ?_; rintro e w1 ⟨rfl, hb1⟩; replace hcur := hcur.trans (hb1.mono hcur.size); replace hat' := hat'.later hb1; clear hb1; clear b0 b1 e0 e1 e2; obtain ⟨b0, b1, e0, e1, e2⟩ := id hat')
      go_upto_region 14 with (go_at_call 16; refine (HL1'.out _ hcur).mono ?_; rintro e w1 ⟨rfl, hb1⟩; replace hcur := hcur.trans (hb1.mono hcur.size); replace hat' := hat'.later hb1; clear hb1; clear b0 b1 e0 e1 e2; obtain ⟨b0, b1, e0, e1, e2⟩ := id hat')
      go_upto_region 15 with (go_at_call 33; refine (HP0.out _).mono ?_; rintro e w1 ⟨rfl, hb1⟩; replace hcur := hcur.trans (hb1.mono hcur.size); replace hat' := hat'.later hb1; clear hb1; clear b0 b1 e0 e1 e2; obtain ⟨b0, b1, e0, e1, e2⟩ := id hat')
      go_upto_region 16 with (go_at_call 33; refine (HP1.out _).mono ?_; rintro e w1 ⟨rfl, hb1⟩; replace hcur := hcur.trans (hb1.mono hcur.size); replace hat' := hat'.later hb1; clear hb1; clear b0 b1 e0 e1 e2; obtain ⟨b0, b1, e0, e1, e2⟩ := id hat')
      go_upto_region 21 with fail
      go_wp2_with fail
      refine (HQ0.out _).mono ?_
      rintro e w1 ⟨rfl, rfl⟩
      go_wp2_with fail
      refine (HQ1.out _).mono ?_
      rintro e w1 ⟨rfl, rfl⟩
      go_upto_region 23 with fail
      have hkb : (k != 0) = true := by simp; omega
      cases up
      · go_wp2_with fail
        refine (HL2'.out _ hcur).mono ?_
        rintro e w1 ⟨rfl, hb1⟩; replace hcur := hcur.trans (hb1.mono hcur.size); replace hat' := hat'.later hb1; clear hb1; clear b0 b1 e0 e1 e2; obtain ⟨b0, b1, e0, e1, e2⟩ := id hat'
        go_wp2_with fail
        refine (HP2.out _).mono ?_
        rintro e w1 ⟨rfl, hb1⟩; replace hcur := hcur.trans (hb1.mono hcur.size); replace hat' := hat'.later hb1; clear hb1; clear b0 b1 e0 e1 e2; obtain ⟨b0, b1, e0, e1, e2⟩ := id hat'
        go_wp2_with fail
        have hJ0 := hJ _ _ _ HJW.out hcur
        have hN0 := boxed_below (boxed_below H0.out hB) hcur
        have hL0 := boxed_below gl hcur
        have hY0 := boxed_below gy hcur
        have hS0 := Nat.le_trans hB.size hcur.size
        have hnm : m < n := by have := of_decide_eq_false hup; omega
        have HSt : Hid (RecRel n d N J nb w.heap.size (w.heap.size + 1) (.slice (some ⟨g, 0, none⟩) 1 cap) (.func (.func 22) #[] #[cn, yb]) w.heap.size (.int .i64 n) w1) := Lib.hid ⟨0, by simp, Nat.zero_le _, hJ0, hS0, hN0, hL0, hY0⟩
        clear hJ0 hN0 hL0 hY0 hS0 HL0' HL1' HL2' HP0 HP1 HP2 HQ0 HQ1 gW gcW gl gy b0 b1 e0 e1 e2 hat' hat hcur H0 hB
        go_loopw [24] (fun q wr => RecRel n d N J nb w.heap.size (w.heap.size + 1) (.slice (some ⟨g, 0, none⟩) 1 cap) (.func (.func 22) #[] #[cn, yb]) w.heap.size q wr) (fun q _ => (intOf q + 1 - m).toNat)
        case atStart => exact HSt.out
        case round =>
          obtain ⟨j, rfl, hjN, hjj, hS, k1, k2, k3⟩ := hrel
          obtain ⟨hk1, hd, d1, d2, d3⟩ := good_down hg hnm hjN
          have hR := fun hlt W nb2 g2 c2 lb hb a1 a2 a3 => rec_round (W := W) (nb2 := nb2) (g2 := g2) (c2 := c2) (lb := lb) hJ HB hlt hjj hS k1 k2 k3 hb a1 a2 a3
          obtain ⟨q, hq⟩ : ∃ q, q = n + (j : Int) * d := ⟨_, rfl⟩
          rw [← hq] at hR d1 d2 d3
          rw [show q + d = q + -k by omega] at hR
          rw [← hq]
          have HR := Lib.hid hR
          have HK := Lib.hid hk1
          clear hR hk1 hd hq
          have gcr := k1.cell
          have lr : nb < wr.heap.size := k1.lt
          by_cases hlt : j < N
          · have hmq := d2 hlt
            go_wp2_with (go_at_call 36; refine (formatInt_any q (by omega) (by omega) n0 _ (hT j _ (hJ j wr _ hjj (((Below.refl _ wr).alloc (Nat.le_refl _) _).alloc (by simp) _)))).mono ?_; rintro e w3 ⟨rfl, hb3⟩; obtain ⟨f1, f2, f3, f4, f5, f6, f7⟩ := two_new hb3; obtain ⟨f8, f9, f0⟩ := two_put (v := .string (sI q)) f1 f2; have f10 := (f0 (.cells #[.iface 73 (.pointer (some ⟨wr.heap.size + 1, 0, none⟩))] 71)).1; have f11 := (f0 (.cells #[.iface 73 (.pointer (some ⟨wr.heap.size + 1, 0, none⟩))] 71)).2; clear f0; have HB3 := Lib.hid (two_end (v := .string (sI q)) f6 f7 f1); clear hb3 f6 f7)
            refine (HR.out hlt _ wr.heap.size w3.heap.size 1 (wr.heap.size + 1) HB3.out.1 HB3.out.2.1 HB3.out.2.2.1 HB3.out.2.2.2).mono ?_
            rintro e w5 ⟨rfl, hrel5⟩
            have HRel := Lib.hid hrel5
            clear hrel5 HB3 HR f1 f2 f3 f4 f5 f8 f9
            go_wp2
            go_roundw
            case rel => exact HRel.out
            case measure => have := HK.out; simp [intOf]; omega
          · have hmq := d3 hlt
            obtain rfl : j = N := by omega
            have HF := Lib.hid hjj
            clear hjj
            go_wp2
            go_ret
            exact ⟨rfl, HF.out⟩
      · go_wp2_with fail
        refine (HL2'.out _ hcur).mono ?_
        rintro e w1 ⟨rfl, hb1⟩; replace hcur := hcur.trans (hb1.mono hcur.size); replace hat' := hat'.later hb1; clear hb1; clear b0 b1 e0 e1 e2; obtain ⟨b0, b1, e0, e1, e2⟩ := id hat'
        go_wp2_with fail
        refine (HP2.out _).mono ?_
        rintro e w1 ⟨rfl, hb1⟩; replace hcur := hcur.trans (hb1.mono hcur.size); replace hat' := hat'.later hb1; clear hb1; clear b0 b1 e0 e1 e2; obtain ⟨b0, b1, e0, e1, e2⟩ := id hat'
        go_wp2_with fail
        have hJ0 := hJ _ _ _ HJW.out hcur
        have hN0 := boxed_below (boxed_below H0.out hB) hcur
        have hL0 := boxed_below gl hcur
        have hY0 := boxed_below gy hcur
        have hS0 := Nat.le_trans hB.size hcur.size
        have hnm : n ≤ m := of_decide_eq_true hup
        have HSt : Hid (RecRel n d N J nb w.heap.size (w.heap.size + 1) (.slice (some ⟨g, 0, none⟩) 1 cap) (.func (.func 22) #[] #[cn, yb]) w.heap.size (.int .i64 n) w1) := Lib.hid ⟨0, by simp, Nat.zero_le _, hJ0, hS0, hN0, hL0, hY0⟩
        clear hJ0 hN0 hL0 hY0 hS0 HL0' HL1' HL2' HP0 HP1 HP2 HQ0 HQ1 gW gcW gl gy b0 b1 e0 e1 e2 hat' hat hcur H0 hB
        go_loopw [24] (fun q wr => RecRel n d N J nb w.heap.size (w.heap.size + 1) (.slice (some ⟨g, 0, none⟩) 1 cap) (.func (.func 22) #[] #[cn, yb]) w.heap.size q wr) (fun q _ => (m + 1 - intOf q).toNat)
        case atStart => exact HSt.out
        case round =>
          obtain ⟨j, rfl, hjN, hjj, hS, k1, k2, k3⟩ := hrel
          obtain ⟨hk1, d1, d2, d3⟩ := good_up hg hnm hjN
          have hR := fun hlt W nb2 g2 c2 lb hb a1 a2 a3 => rec_round (W := W) (nb2 := nb2) (g2 := g2) (c2 := c2) (lb := lb) hJ HB hlt hjj hS k1 k2 k3 hb a1 a2 a3
          obtain ⟨q, hq⟩ : ∃ q, q = n + (j : Int) * d := ⟨_, rfl⟩
          rw [← hq] at hR d1 d2 d3
          rw [show q + d = q + k by omega] at hR
          rw [← hq]
          have HR := Lib.hid hR
          have HK := Lib.hid hk1
          clear hR hk1 hq
          have gcr := k1.cell
          have lr : nb < wr.heap.size := k1.lt
          by_cases hlt : j < N
          · have hmq := d2 hlt
            go_wp2_with (go_at_call 36; refine (formatInt_any q (by omega) (by omega) n0 _ (hT j _ (hJ j wr _ hjj (((Below.refl _ wr).alloc (Nat.le_refl _) _).alloc (by simp) _)))).mono ?_; rintro e w3 ⟨rfl, hb3⟩; obtain ⟨f1, f2, f3, f4, f5, f6, f7⟩ := two_new hb3; obtain ⟨f8, f9, f0⟩ := two_put (v := .string (sI q)) f1 f2; have f10 := (f0 (.cells #[.iface 73 (.pointer (some ⟨wr.heap.size + 1, 0, none⟩))] 71)).1; have f11 := (f0 (.cells #[.iface 73 (.pointer (some ⟨wr.heap.size + 1, 0, none⟩))] 71)).2; clear f0; have HB3 := Lib.hid (two_end (v := .string (sI q)) f6 f7 f1); clear hb3 f6 f7)
            refine (HR.out hlt _ wr.heap.size w3.heap.size 1 (wr.heap.size + 1) HB3.out.1 HB3.out.2.1 HB3.out.2.2.1 HB3.out.2.2.2).mono ?_
            rintro e w5 ⟨rfl, hrel5⟩
            have HRel := Lib.hid hrel5
            clear hrel5 HB3 HR f1 f2 f3 f4 f5 f8 f9
            go_wp2
            go_roundw
            case rel => exact HRel.out
            case measure => have := HK.out; simp [intOf]; omega
          · have hmq := d3 hlt
            obtain rfl : j = N := by omega
            have HF := Lib.hid hjj
            clear hjj
            go_wp2
            go_ret
            exact ⟨rfl, HF.out⟩
end Go.Proofs.YtphikmigopdndaaGreatFmt
