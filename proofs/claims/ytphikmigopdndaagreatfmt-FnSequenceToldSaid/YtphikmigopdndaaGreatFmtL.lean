/- A range over BracesSeq: the caller's loop, its round being given. -/
import Derived.Test.YtphikmigopdndaaGreatFmtK
import Derived.RangeFuncBox
namespace Go.Proofs.YtphikmigopdndaaGreatFmt
open Go.RowKit Go.Shelf

/-- what the body of the loop leaves as it was -/
def KeepB (w w' : World) : Prop := KeepR w w' ∧ ∀ (k : Nat) (o : Obj), w.heap[k]? = some o → o.isCells = false → w'.heap[k]? = some o

theorem boxed_putObj {w : World} {b : Nat} {t : TypeId} {v : Value} (h : Boxed w b t v) {l : Nat} {o : Obj} (o' : Obj) (hl : w.heap[l]? = some o) (ho : o.isCells = false) : Boxed (w.putObj l o') b t v := by
  refine h.kept (grownBy_putObj' w l o') (fun e => ?_)
  cases e
  rw [show w.heap[b]? = _ from h] at hl
  cases hl
  cases ho

theorem KeepR.putObj (w : World) {l : Nat} {o : Obj} (o' : Obj) (hl : w.heap[l]? = some o) (ho : o.isCells = false) : KeepR w (w.putObj l o') :=
  ⟨by simp, fun _ _ _ _ _ h => boxed_putObj h o' hl ho⟩

theorem KeepR.trans {a b c : World} (h : KeepR a b) (k : KeepR b c) : KeepR a c := ⟨Nat.le_trans h.1 k.1, fun x t v h1 h2 hb => k.2 x t v h1 h2 (h.2 x t v h1 h2 hb)⟩

/-- the word p holds one part, a Lit of s -/
structure PAt (p : Nat) (s : ByteArray) (w : World) : Prop where
  ex : ∃ v lb, Boxed w p 69 v ∧ w.ownsRow 0 71 1 v 1 [.iface 73 (.pointer (some ⟨lb, 0, none⟩))] ∧ w.cell? ⟨lb, 4, none⟩ = some (.string s)

theorem PAt.putObj {p : Nat} {s : ByteArray} {w : World} (h : PAt p s w) {l : Nat} {o : Obj} (o' : Obj) (hl : w.heap[l]? = some o) (ho : o.isCells = false) : PAt p s (w.putObj l o') := by
  obtain ⟨v, lb, h1, h2, h3⟩ := h.ex
  refine ⟨v, lb, boxed_putObj h1 o' hl ho, ownsRow_putObj h2 o' hl ho, ?_⟩
  refine (World.cell?_of_block (World.putObj_heap_other (fun e => ?_))).trans h3
  dsimp only at e
  subst e
  have : w.cell? ⟨lb, 4, none⟩ = none := by
    unfold World.cell?
    dsimp only
    rw [hl]
    cases o <;> first | rfl | (cases ho)
  rw [this] at h3
  cases h3

theorem range_law {g : Operand} {ps : Array Tmp} {assign body : Code} {Q : Exit → Act → World → Prop} {a : Act} {w : World} {nn : Nat} {gf : Nat} {lb : Array Value}
    (hg : a.eval g = .func (.func gf) #[] lb) (eg : ∀ args w, (callFunc gf args).run Tryz.prog w = .ok (.enter gf args) w) (hps : ps.size = 2) (n d : Int) (N : Nat)
    (I : Nat → World → Prop) (hI : ∀ j w w', I j w → Below w.heap.size w w' → I j w')
    (hIp : ∀ j W l o o', I j W → W.heap[l]? = some o → o.isCells = false → w.heap.size ≤ l → I j (W.putObj l o'))
    (hIs : ∀ cb j W u v, I j W → Boxed W cb 3 u → w.heap.size ≤ cb → I j (W.setCell ⟨cb, 0, none⟩ v)) (h0 : I 0 w)
    (hiter : ∀ (l : Nat) (J : Nat → World → Prop) (W : World), (∀ j w w', J j w → Below w.heap.size w w' → J j w') → (∀ cb j W u v, J j W → Boxed W cb 3 u → w.heap.size ≤ cb → J j (W.setCell ⟨cb, 0, none⟩ v)) →
      RoundsTo l n d N J → (∀ j w, J j w → I j w) → J 0 W → Below w.heap.size w W → Calls Tryz.prog gf (#[.func (.yield l) #[] #[]] ++ lb) W fun e W' => (∃ v, e = .returned v) ∧ J N W')
    (hround : ∀ (l m : Nat) (j : Nat) (p : Nat) (W : World), j < N → I j W →
      assign.wpIn (Fence.wide.inRound l) m Tryz.prog (Exit.then (fun a₁ W₁ => W₁ = W ∧ ∀ W', I j W' → PAt p (sI (n + (j : Int) * d)) W' →
        body.wpIn (Fence.wide.inRound l) m Tryz.prog (fun e _ W₂ => e = .normal ∧ I (j + 1) W₂ ∧ KeepB W' W₂) a₁ W') (fun _ _ _ => False))
        { tmps := (ps.zip #[.pointer (some ⟨p, 0, none⟩), .nilIface]).foldl (fun t (q, v) => t.setIfInBounds q v) a.tmps, defers := [] } W)
    (hdone : ∀ (D : Nat) (W : World), w.heap.size ≤ D → I N W → W.heap[D]? = some (.deferred (some [])) → Q .normal { a with defers := { target := .collected D, args := #[] } :: a.defers } W) :
    (Code.rangeFunc g ps assign body).wpIn Fence.wide nn Tryz.prog Q a w := by
  refine wpIn_rangeFunc ?_
  intro fn hfn
  obtain ⟨rec, hrec⟩ : ∃ rec : LoopState → Option Code → Loop, rec = fun st pe => { state := st, pending := pe, fn, tmps := a.tmps, params := ps, assign, body, defers := w.heap.size } := ⟨_, rfl⟩
  obtain ⟨W1, hW1⟩ : ∃ W1, (w.alloc (.deferred (some []))).alloc (.loop (rec .ready none)) = W1 := ⟨_, rfl⟩
  have hL1 : W1.heap[w.heap.size + 1]? = some (.loop (rec .ready none)) := by
    rw [← hW1]; exact new_at2 _ _ (by simp)
  have hK1 : W1.heap[w.heap.size]? = some (.deferred (some [])) := by
    rw [← hW1]; exact (Below.heap_alloc _ _ _ (by simp)).trans (World.alloc_heap_new w _)
  have hb1 : Below w.heap.size w W1 := by
    rw [← hW1]; exact ((Below.refl _ w).alloc (Nat.le_refl _) _).alloc (by simp) _
  have hI1 : I 0 W1 := hI _ _ _ h0 hb1
  obtain ⟨J, hJdef⟩ : ∃ J : Nat → World → Prop, J = fun j W => I j W ∧ W.heap[w.heap.size + 1]? = some (.loop (rec .ready none)) ∧ W.heap[w.heap.size]? = some (.deferred (some [])) := ⟨_, rfl⟩
  refine ⟨w.heap.size + 1, [{ target := .collected w.heap.size, args := #[] }], W1, { target := .fn (.func gf) lb, args := #[.func (.yield (w.heap.size + 1)) #[] #[]] }, W1, gf,
    #[.func (.yield (w.heap.size + 1)) #[] #[]] ++ lb, W1, ?_, ?_, ?_, ?_, (fun h => by cases h), ?_⟩
  · rw [← hW1, hrec]; exact run_enterLoop_outer _ _ _ _ _
  · simp only [resolve, hg]
    simp [go_sem]
  · intro f' _; trivial
  · simp [invoke, go_sem, eg]
  · refine (callsIn_wide.2 (hiter (w.heap.size + 1) J W1 ?_ ?_ ?_ (fun j W h => by rw [hJdef] at h; exact h.1) (by rw [hJdef]; exact ⟨hI1, hL1, hK1⟩) hb1)).mono ?_
    · rintro j W W' h hb
      rw [hJdef] at h ⊢
      exact ⟨hI _ _ _ h.1 hb, (hb.block _ (Array.getElem?_eq_some_iff.1 h.2.1).1).trans h.2.1, (hb.block _ (Array.getElem?_eq_some_iff.1 h.2.2).1).trans h.2.2⟩
    · rintro cb j W u v h hb hle
      rw [hJdef] at h ⊢
      refine ⟨hIs _ _ _ _ _ h.1 hb hle, (Below.heap_setCell _ _ _ _ (fun e => ?_)).trans h.2.1, (Below.heap_setCell _ _ _ _ (fun e => ?_)).trans h.2.2⟩
      · dsimp only at e
        have := h.2.1
        rw [e, show W.heap[cb]? = _ from hb] at this
        cases this
      · dsimp only at e
        have := h.2.2
        rw [e, show W.heap[cb]? = _ from hb] at this
        cases this
    · intro j W p v lbx hj hJW hp ho hl4
      rw [hJdef] at hJW
      obtain ⟨hi, hl, hk⟩ := hJW
      have hlt : w.heap.size + 1 < W.heap.size := (Array.getElem?_eq_some_iff.1 hl).1
      have hy := run_yield (P := Tryz.prog) (args := #[.pointer (some ⟨p, 0, none⟩), .nilIface]) hl (by rw [hrec]; exact hps.symm)
      rw [hrec] at hy
      have hPA : PAt p (sI (n + (j : Int) * d)) W := ⟨v, lbx, hp, ho, hl4⟩
      refine ⟨fn, _, assign, body, hy, fun m => roundIn_of_wpIn hfn (wpIn_mono (hround (w.heap.size + 1) m j p W hj hi) ?_)⟩
      intro e a₁ W₁ hq
      cases e with
      | normal =>
        obtain ⟨rfl, hbody⟩ := hq
        refine ⟨_, run_beginRound hl (by rw [hrec]), ?_⟩
        have hl2 : (W₁.putObj (w.heap.size + 1) (.loop { rec .ready none with state := .busy })).heap[w.heap.size + 1]? = some (.loop { rec .ready none with state := .busy }) := World.putObj_heap_same hlt
        have hk2 : (W₁.putObj (w.heap.size + 1) (.loop { rec .ready none with state := .busy })).heap[w.heap.size]? = some (.deferred (some [])) := (World.putObj_heap_other (by omega)).trans hk
        refine wpIn_mono (hbody _ (hIp _ _ _ _ _ hi hl rfl (by omega)) (hPA.putObj _ hl rfl)) ?_
        rintro e a₂ W₂ ⟨rfl, hi3, hk3⟩
        have hl3 := hk3.2 _ _ hl2 rfl
        have hd3 := hk3.2 _ _ hk2 rfl
        have hlt3 : w.heap.size + 1 < W₂.heap.size := (Array.getElem?_eq_some_iff.1 hl3).1
        refine ⟨_, _, run_endRound none hl3, rfl, ?_, ((KeepR.putObj _ _ hl rfl).trans hk3.1).trans (KeepR.putObj _ _ hl3 rfl)⟩
        rw [hJdef]
        refine ⟨hIp _ _ _ _ _ hi3 hl3 rfl (by omega), ?_, (World.putObj_heap_other (by omega)).trans hd3⟩
        rw [hrec] at hl3 ⊢
        exact World.putObj_heap_same hlt3
      | _ => exact hq.elim
    · rintro e W2 ⟨⟨v, rfl⟩, hJ2⟩
      rw [hJdef] at hJ2
      obtain ⟨hi, hl, hk⟩ := hJ2
      refine ⟨none, _, by have := run_endLoop (P := Tryz.prog) hl (by rw [hrec]; simp); rw [hrec] at this; exact this, hdone _ _ (Nat.le_refl _) (hIp _ _ _ _ _ hi hl rfl (by omega)) ((World.putObj_heap_other (by omega)).trans hk)⟩
end Go.Proofs.YtphikmigopdndaaGreatFmt
