/- The contracts of expand.BracesSeq and of its two closures, the caller's round being given. -/
import Derived.Test.YtphikmigopdndaaGreatFmtJ
import Derived.RangeFuncNested
import Derived.RangeFuncBound
import Derived.RangeFuncCalls
import Derived.RangeFuncLeaves
import Derived.Shelf.Abstract
import Derived.Shelf.RegionOpen
import Derived.WalkKit
import Derived.OwnWalkIn
import Derived.TacticsInMore
import Derived.LoopNIn
import Derived.LoopIn
namespace Go.Proofs.YtphikmigopdndaaGreatFmt
open Go.RowKit Go.Shelf
attribute [local go_sem] Oper.semAt_some

/-- what a round of the caller's loop leaves as it was -/
def KeepR (w w' : World) : Prop := w.heap.size ≤ w'.heap.size ∧ ∀ (b : Nat) (t : TypeId) (v : Value), t ≠ 9 → t ≠ 31 → Boxed w b t v → Boxed w' b t v

/-- the caller's round: of the word p, whose one part is a Lit of the j-th numeral -/
def RoundsTo (l : Nat) (n d : Int) (N : Nat) (J : Nat → World → Prop) : Prop :=
  ∀ (j : Nat) (w2 : World) (p : Nat) (v : Value) (lb : Nat), j < N → J j w2 → w2.heap[p]? = some (.cells #[v] 69 (0, 0)) → w2.ownsRow 0 71 1 v 1 [.iface 73 (.pointer (some ⟨lb, 0, none⟩))] →
    w2.cell? ⟨lb, 4, none⟩ = some (.string (sI (n + (j : Int) * d))) →
    ∃ (fn : FuncId) (tmps : Array Value) (assign body : Code), (Instr.yield l #[.pointer (some ⟨p, 0, none⟩), .nilIface]).run Tryz.prog w2 = .ok (.round l fn tmps assign body) w2 ∧
      ∀ m : Nat, RoundIn Fence.wide m Tryz.prog l fn tmps assign body w2 fun e w' => e = .returned (.bool true) ∧ J (j + 1) w' ∧ KeepR w2 w'

/-- what holds in the iterator between two yields -/
def CountJ (cb yb l : Nat) (J : Nat → World → Prop) (j : Nat) (w : World) : Prop := J j w ∧ Boxed w cb 3 (.int .i64 (j : Int)) ∧ Boxed w yb 63 (.func (.yield l) #[] #[])

theorem count_set {w : World} {cb : Nat} {u v : Value} (h : Boxed w cb 3 u) : ∀ (b : Nat) (t : TypeId) (x : Value), t ≠ 3 → Boxed w b t x → Boxed (w.setCell ⟨cb, 0, none⟩ v) b t x := by
  intro b t x ht hb
  refine hb.other (fun e => ?_) _
  subst e
  have := Option.some.inj ((show w.heap[b]? = _ from hb).symm.trans h)
  simp at this
  exact ht this.2

set_option maxRecDepth 100000 in
set_option maxHeartbeats 2000000 in
theorem yields_of (l cb yb : Nat) (n d : Int) (N : Nat) (hN : N ≤ 16384) (J : Nat → World → Prop)
    (hset : ∀ j w u v, J j w → Boxed w cb 3 u → J j (w.setCell ⟨cb, 0, none⟩ v)) (HR : RoundsTo l n d N J) :
    YieldsTo (.pointer (some ⟨cb, 0, none⟩)) (.pointer (some ⟨yb, 0, none⟩)) n d N (CountJ cb yb l J) := by
  intro j w p v lb hj ⟨hJ, hc, hy⟩ hp ho hl
  have hne : yb ≠ cb := fun e => by
    subst e
    have := Option.some.inj ((show w.heap[yb]? = _ from hy).symm.trans hc)
    simp at this
  obtain ⟨W, hW⟩ : ∃ W, W = w.setCell ⟨cb, 0, none⟩ (.int .i64 ((j : Int) + 1)) := ⟨_, rfl⟩
  have hJ' : J j W := hW ▸ hset _ _ _ _ hJ hc
  have hc' : Boxed W cb 3 (.int .i64 ((j : Int) + 1)) := hW ▸ hc.set _
  have hkeep : ∀ (b : Nat) (t : TypeId) (x : Value), t ≠ 3 → Boxed w b t x → Boxed W b t x := fun b t x ht hb => hW ▸ count_set hc b t x ht hb
  have hy' := hkeep _ _ _ (by decide) hy
  have hp' : Boxed W p 69 v := hkeep _ _ _ (by decide) hp
  have hsz : w.heap.size = W.heap.size := by rw [hW]; simp
  have hg : w.grownBy W (some cb) := hW ▸ grownBy_setCell' _ _ _
  have ho' : W.ownsRow 0 71 1 v 1 [.iface 73 (.pointer (some ⟨lb, 0, none⟩))] := ho.kept hg (.inr (fun e => hc.not_row (by decide) ho e.symm))
  have hlb : lb ≠ cb := fun e => by
    subst e
    have : w.cell? ⟨lb, 4, none⟩ = none := by simp [World.cell?, show w.heap[lb]? = _ from hc]
    rw [this] at hl
    cases hl
  have hl' : W.cell? ⟨lb, 4, none⟩ = some (.string (sI (n + (j : Int) * d))) := by
    rw [hW, World.cell?_setCell_far _ _ _ _ (by dsimp only; exact fun e => hlb e.symm)]; exact hl
  obtain ⟨fn, tmps, assign, body, hyr, hR⟩ := HR j W p v lb hj hJ' hp' ho' hl'
  have hc1 := hc.cell
  have hf1 := hc.frozen
  have hc2 := hc'.cell
  have hy2 := hy'.cell
  have hjN : (j : Int) < 16384 := by omega
  have HE := Lib.hid (show ∀ w', KeepR W w' → J (j + 1) w' → CountJ cb yb l J (j + 1) w' ∧ KeepT w w' from fun w' hk hj' =>
    ⟨⟨hj', by have := hk.2 _ _ _ (by decide) (by decide) hc'; simpa using this, hk.2 _ _ _ (by decide) (by decide) hy'⟩, by have := hk.1; omega,
      fun b t x ht hb => hk.2 b t x (by rcases ht with rfl | rfl | rfl <;> decide) (by rcases ht with rfl | rfl | rfl <;> decide) (hkeep b t x (by rcases ht with rfl | rfl | rfl <;> decide) hb)⟩)
  have HRd := Lib.hid hR
  clear hR hJ hJ' hc hc' hy hy' hp hp' ho ho' hl hl' hsz hg hne hlb hkeep HR hset
  subst hW
  refine (callsIn_wide (n := 3)).1 ?_
  refine callsIn_of_wp Tryz.func22 rfl trivial ?_ rfl
  simp only [Tryz.ntmps22, List.size_toArray, List.length_cons, List.length_nil, Nat.reduceAdd, Nat.reduceSub, Array.replicate_succ, Array.replicate_zero, List.push_toArray, List.append_toArray, List.nil_append, List.cons_append]
  gi_wp2
  refine (HRd.out _).mono ?_
  rintro e w' ⟨rfl, hj', hk⟩
  have HF := Lib.hid (HE.out w' hk hj')
  clear HE HRd hj' hk
  gi_wp2
  first | go_end0 | go_ret
  exact ⟨rfl, HF.out⟩

theorem seq_func (nb : Nat) (w : World) :
    Calls Tryz.prog 14 #[.pointer none, .pointer (some ⟨nb, 0, none⟩)] w fun e w' =>
      e = .returned (.func (.func 20) #[] #[.pointer (some ⟨w.heap.size, 0, none⟩)]) ∧ w' = w.alloc (.cells #[.pointer (some ⟨nb, 0, none⟩)] 56) := by
  go_enter Tryz.func14, Tryz.ntmps14
  go_wp2
  go_ret
  exact ⟨rfl, rfl⟩

/-- the word of one sequence, at nb, and the contracts of what it is made of -/
structure TopAt (n m k : Int) (nb : Nat) (w : World) : Prop where
  ex : ∃ g cap pb ec ecap wb0 wb1 wb2, Boxed w nb 69 (.slice (some ⟨g, 0, none⟩) 1 cap) ∧ w.cell? ⟨g, 0, none⟩ = some (.iface 88 (.pointer (some ⟨pb, 0, none⟩))) ∧ RecAt pb ec ecap wb0 wb1 wb2 w ∧
    LitHands w wb0 (sI n) ∧ LitHands w wb1 (sI m) ∧ LitHands w wb2 (sI k)

theorem TopAt.later {n m k : Int} {nb : Nat} {w w' : World} (h : TopAt n m k nb w) (hb : Below w.heap.size w w') : TopAt n m k nb w' := by
  obtain ⟨g, cap, pb, ec, ecap, wb0, wb1, wb2, h0, h1, h2, h3, h4, h5⟩ := h.ex
  exact ⟨g, cap, pb, ec, ecap, wb0, wb1, wb2, boxed_below h0 hb, (hb.cell (p := ⟨g, 0, none⟩) (World.block_lt_of_cell? w _ h1)).trans h1, h2.later hb, h3.later hb, h4.later hb, h5.later hb⟩

theorem rec_all (n m k d : Int) (N : Nat) (hg : Good n m k d N) (J : Nat → World → Prop) (hJ : ∀ j w w', J j w → Below w.heap.size w w' → J j w') (cn yb : Value)
    (HB : Hid (YieldsTo cn yb n d N J)) (nb : Nat) (w : World) (hj : J 0 w) (n0 : Nat) (hT : ∀ j w, J j w → Tab n0 w) (ht : TopAt n m k nb w) :
    Calls Tryz.prog 21 #[.pointer (some ⟨nb, 0, none⟩), .func (.func 22) #[] #[cn, yb]] w fun e w' => e = .returned (.bool true) ∧ J N w' := by
  obtain ⟨g, cap, pb, ec, ecap, wb0, wb1, wb2, h0, h1, h2, h3, h4, h5⟩ := ht.ex
  have r1 := hg.n0
  have r2 := hg.n1
  have r3 := hg.m0
  have r4 := hg.m1
  have r5 := hg.k0
  have r6 := hg.k1
  exact rec_top n m k d N hg J hJ cn yb HB nb g cap pb ec ecap wb0 wb1 wb2 w hj n0 hT h0 h1 h2 _ _ _ (Lib.hid h3) (Lib.hid h4) (Lib.hid h5)
    (Lib.hid (fun w => parseInt_any n (by omega) (by omega) w)) (Lib.hid (fun w => parseInt_any m (by omega) (by omega) w)) (Lib.hid (fun w => parseInt_any k (by omega) (by omega) w))
    (Lib.hid (fun w => hlz_any n (by omega) (by omega) w)) (Lib.hid (fun w => hlz_any m (by omega) (by omega) w)) _ rfl

theorem CountJ.below {cb yb l : Nat} {J : Nat → World → Prop} (hJ : ∀ j w w', J j w → Below w.heap.size w w' → J j w') : ∀ j w w', CountJ cb yb l J j w → Below w.heap.size w w' → CountJ cb yb l J j w' :=
  fun j w w' h hb => ⟨hJ j w w' h.1 hb, boxed_below h.2.1 hb, boxed_below h.2.2 hb⟩

set_option maxRecDepth 100000 in
set_option maxHeartbeats 1000000 in
theorem iter_any (l xb nb B : Nat) (n m k d : Int) (N : Nat) (hg : Good n m k d N) (J : Nat → World → Prop) (hJ : ∀ j w w', J j w → Below w.heap.size w w' → J j w')
    (hset : ∀ cb j W u v, J j W → Boxed W cb 3 u → B ≤ cb → J j (W.setCell ⟨cb, 0, none⟩ v)) (HR : RoundsTo l n d N J) (w : World) (hBw : B ≤ w.heap.size) (hj : J 0 w) (n0 : Nat) (hT : ∀ j w, J j w → Tab n0 w) (ht : TopAt n m k nb w)
    (hx : w.cell? ⟨xb, 0, none⟩ = some (.pointer (some ⟨nb, 0, none⟩))) :
    Calls Tryz.prog 20 #[.func (.yield l) #[] #[], .pointer (some ⟨xb, 0, none⟩)] w fun e w' => (∃ v, e = .returned v) ∧ J N w' := by
  have lx : xb < w.heap.size := World.block_lt_of_cell? w _ hx
  have hN : N ≤ 16384 := by have := hg.most; omega
  have hb : Below w.heap.size w ((w.alloc (.cells #[.func (.yield l) #[] #[]] 63)).alloc (.cells #[.int .i64 0] 3)) := ((Below.refl _ w).alloc (Nat.le_refl _) _).alloc (by simp) _
  have HC := Lib.hid (rec_all n m k d N hg (CountJ (w.heap.size + 1) w.heap.size l J) (CountJ.below hJ) _ _ (Lib.hid (yields_of l (w.heap.size + 1) w.heap.size n d N hN J (fun j W u v h1 h2 => hset _ j W u v h1 h2 (by omega)) HR)) nb
    ((w.alloc (.cells #[.func (.yield l) #[] #[]] 63)).alloc (.cells #[.int .i64 0] 3)) ⟨hJ _ _ _ hj hb, new_at2 _ _ (by simp), Boxed.alloc (Boxed.new _ _ _) _⟩ n0 (fun j w h => hT j w h.1) (ht.later hb))
  clear HR hset hJ hj hT ht hN hg hb
  go_enter Tryz.func20, Tryz.ntmps20
  go_wp2_with fail
  refine HC.out.mono ?_
  rintro e w' ⟨rfl, hj'⟩
  have HF := Lib.hid hj'.1
  clear hj' HC
  go_wp2
  first | go_end0 | go_ret
  exact ⟨⟨_, rfl⟩, HF.out⟩
end Go.Proofs.YtphikmigopdndaaGreatFmt
