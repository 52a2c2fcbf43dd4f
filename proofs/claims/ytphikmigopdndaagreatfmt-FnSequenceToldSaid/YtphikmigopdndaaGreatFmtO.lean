/- The contract of impl.Braces at a word of one sequence that the reference tells. -/
import Derived.Test.YtphikmigopdndaaGreatFmtN
import Derived.Deep.AppendLies
import Derived.Maps.AppendAt
namespace Go.Proofs.YtphikmigopdndaaGreatFmt
open Go.RowKit Go.Shelf
attribute [local go_sem] Oper.semAt_some

theorem topAt_of {n m k : Int} {B wb : Nat} {w0 w : World} {ss : Nat → ByteArray} (h : WdRel B w0 wb 88 (SeqB 3 ss) w) (h0 : ss 0 = sI n) (h1 : ss 1 = sI m) (h2 : ss 2 = sI k)
    (r1 : -1000000 < n) (r2 : n < 1000000) (r3 : -1000000 < m) (r4 : m < 1000000) (r5 : -1000000 < k) (r6 : k < 1000000) : TopAt n m k wb w := by
  obtain ⟨v, pb, hw, hown, ⟨hpb, u, xs, hp, hox, hall⟩, hB⟩ := h
  obtain ⟨g, cap, rfl, _, _, _, hg⟩ := owns_form hown (by omega)
  obtain ⟨g2, cap2, rfl, _, _, _, hg2⟩ := owns_form hox (by omega)
  have hl : xs.length = 3 := hox.1
  match xs, hl with
  | [x0, x1, x2], _ =>
    obtain ⟨wb0, rfl, hw0⟩ := hall 0 x0 rfl
    obtain ⟨wb1, rfl, hw1⟩ := hall 1 x1 rfl
    obtain ⟨wb2, rfl, hw2⟩ := hall 2 x2 rfl
    rw [h0] at hw0
    rw [h1] at hw1
    rw [h2] at hw2
    have lits : ∀ (wbx : Nat) (z : Int), -1000000 < z → z < 1000000 → LitW B w wbx (sI z) → LitHands w wbx (sI z) := by
      intro wbx z z1 z2 ⟨v, pb, _, k1, k2, k3⟩ w1 hb
      obtain ⟨g3, cap3, rfl, _, _, _, hg3⟩ := owns_form k2 (by omega)
      have c3 : w.cell? ⟨g3, 0, none⟩ = some (.iface 73 (.pointer (some ⟨pb, 0, none⟩))) := hg3 0 _ rfl
      have c4 : w.cell? ⟨pb, 4, none⟩ = some (.string (sI z)) := by simp [World.cell?, k3.2]
      have hsz : (sI z).size ≤ 1000 := by have := sI_max z z1 z2; omega
      exact lit_any wbx g3 cap3 pb (sI z) w1 ((boxed_below k1 hb).cell) ((hb.cell (p := ⟨g3, 0, none⟩) (World.block_lt_of_cell? w _ c3)).trans c3) ((hb.cell (p := ⟨pb, 4, none⟩) (World.block_lt_of_cell? w _ c4)).trans c4) hsz
    exact ⟨g, cap, pb, g2, cap2, wb0, wb1, wb2, hw, hg 0 _ rfl, ⟨by simp [World.cell?, hp], by simp [World.cell?, hp], hg2 0 _ rfl, hg2 1 _ rfl, hg2 2 _ rfl⟩, lits _ _ r1 r2 hw0, lits _ _ r3 r4 hw1, lits _ _ r5 r6 hw2⟩

/-- between two rounds of the loop in impl.Braces -/
def BrI (n d : Int) (w : World) (j : Nat) (W : World) : Prop :=
  ∃ v, W.heap[w.heap.size + 1]? = some (.cells #[v, .int .i64 0, .int .i64 0, .slice none 0 0] 31 (0, 0)) ∧ W.ownsRow w.heap.size 9 1 v j ((seqL n d j).map Value.string) ∧
    W.heap[w.heap.size]? = some (.cells #[.slice none 0 0, .int .i64 0, .int .i64 0, .slice none 0 0] 31 (0, 0)) ∧ Below w.heap.size w W

theorem BrI.later {n d : Int} {w W W' : World} {j : Nat} (h : BrI n d w j W) (hb : Below W.heap.size W W') : BrI n d w j W' := by
  obtain ⟨v, h1, h2, h3, h4⟩ := h
  exact ⟨v, (hb.block _ (Array.getElem?_eq_some_iff.1 h1).1).trans h1, owns_below hb h2, (hb.block _ (Array.getElem?_eq_some_iff.1 h3).1).trans h3, h4.trans (hb.mono h4.size)⟩

theorem BrI.putObj {n d : Int} {w W : World} {j l : Nat} {o o' : Obj} (h : BrI n d w j W) (hl : W.heap[l]? = some o) (ho : o.isCells = false) (hle : w.heap.size ≤ l) : BrI n d w j (W.putObj l o') := by
  obtain ⟨v, h1, h2, h3, h4⟩ := h
  have hne : ∀ (k : Nat) (cs : Array Value) (t : TypeId) (fr : Nat × Nat), W.heap[k]? = some (.cells cs t fr) → k ≠ l := fun k cs t fr hk e => by
    subst e
    rw [hk] at hl
    cases hl
    cases ho
  exact ⟨v, (World.putObj_heap_other (hne _ _ _ _ h1)).trans h1, ownsRow_putObj h2 o' hl ho, (World.putObj_heap_other (hne _ _ _ _ h3)).trans h3, h4.grown (grownBy_putObj' W l o') h4.size (fun k e => by cases e; exact hle)⟩

theorem BrI.setCell {n d : Int} {w W : World} {j cb : Nat} {u v : Value} (h : BrI n d w j W) (hc : Boxed W cb 3 u) (hle : w.heap.size ≤ cb) : BrI n d w j (W.setCell ⟨cb, 0, none⟩ v) := by
  obtain ⟨v', h1, h2, h3, h4⟩ := h
  have hne : ∀ (k : Nat) (cs : Array Value), W.heap[k]? = some (.cells cs 31 (0, 0)) → k ≠ cb := fun k cs hk e => by
    subst e
    rw [show W.heap[k]? = _ from hc] at hk
    simp at hk
  exact ⟨v', (Below.heap_setCell _ _ _ _ (hne _ _ h1)).trans h1, h2.kept (grownBy_setCell' _ _ _) (.inr (fun e => hc.not_row (by decide) h2 e.symm)), (Below.heap_setCell _ _ _ _ (hne _ _ h3)).trans h3, h4.setCell (p := ⟨cb, 0, none⟩) hle _⟩

theorem own_not_cells {W : World} {B e s n : Nat} {v : Value} {xs : List Value} (h : W.ownsRow B e s v n xs) {k : Nat} (hk : v.ownBlock = some k) : ∃ cs, W.heap[k]? = some (.cells cs e (0, 0)) := by
  rcases h.2 with ⟨rfl, _⟩ | ⟨g, cap, cur, rfl, _, hgb, _⟩
  · simp [Value.ownBlock] at hk
  · obtain rfl : g = k := by simpa [Value.ownBlock] using hk
    exact ⟨_, hgb⟩

theorem br_append {B0 j : Nat} {W w1 : World} {v : Value} {xs : List Value} (s : ByteArray) (hown : W.ownsRow B0 9 1 v j xs) (hb1 : Below W.heap.size W w1) (hB : B0 ≤ W.heap.size) (hj : j ≤ 500) :
    ∃ g cap w4, (Builtin.append_ #[23, 23] 23 #[v, .slice (some ⟨w1.heap.size, 0, none⟩) 1 1]).run Tryz.prog (w1.alloc (.cells #[.string s] 9)) = .ok (.slice (some ⟨g, 0, none⟩) (j + 1) cap) w4 ∧
      w4.ownsRow B0 9 1 (.slice (some ⟨g, 0, none⟩) (j + 1) cap) (j + 1) (xs ++ [.string s]) ∧ (w1.alloc (.cells #[.string s] 9)).grownBy w4 v.ownBlock := by
  obtain ⟨i0, hi0, hz0, hz1, hz2⟩ := info_parts Tryz.info9
  obtain ⟨g, cap, w4, h1, h2, h3, _⟩ := run_append_lies (P := Tryz.prog) (w1.alloc (.cells #[.string s] 9)) 23 23 B0 9 i0 _ 1 16 Tryz.underlying23 hi0 hz0 hz1 hz2 rfl (by decide) v j xs ((owns_below hb1 hown).alloc _)
    ⟨w1.heap.size, 0, none⟩ 1 1 [.string s] rfl (World.news_of_block (cs := #[.string s]) (t := 9) (fr := (0, 0)) (heap_alloc_new w1 _)) (by simp [Value.oneCell']) (by decide) (by unfold maxLen; omega) (by omega) (by have := hb1.size; simp; omega) _ rfl
  exact ⟨g, cap, w4, h1, h2, h3⟩

theorem br_end {n d : Int} {w W w1 w4 : World} {j g cap : Nat} {v : Value} {s : ByteArray} (h1 : W.heap[w.heap.size + 1]? = some (.cells #[v, .int .i64 0, .int .i64 0, .slice none 0 0] 31 (0, 0)))
    (h2 : W.ownsRow w.heap.size 9 1 v j ((seqL n d j).map Value.string)) (h3 : W.heap[w.heap.size]? = some (.cells #[.slice none 0 0, .int .i64 0, .int .i64 0, .slice none 0 0] 31 (0, 0))) (h4 : Below w.heap.size w W)
    (hs : s = sI (n + (j : Int) * d)) (hb1 : Below W.heap.size W w1) (hown : w4.ownsRow w.heap.size 9 1 (.slice (some ⟨g, 0, none⟩) (j + 1) cap) (j + 1) ((seqL n d j).map Value.string ++ [.string s]))
    (hgrow : (w1.alloc (.cells #[.string s] 9)).grownBy w4 v.ownBlock) :
    w4.cell? ⟨w.heap.size + 1, 0, none⟩ = some v ∧ w4.frozen? ⟨w.heap.size + 1, 0, none⟩ = false ∧
      BrI n d w (j + 1) (w4.setCell ⟨w.heap.size + 1, 0, none⟩ (.slice (some ⟨g, 0, none⟩) (j + 1) cap)) ∧ KeepB W (w4.setCell ⟨w.heap.size + 1, 0, none⟩ (.slice (some ⟨g, 0, none⟩) (j + 1) cap)) := by
  have hs1 := hb1.size
  have hown1 : (w1.alloc (.cells #[.string s] 9)).ownsRow w.heap.size 9 1 v j ((seqL n d j).map Value.string) := (owns_below hb1 h2).alloc _
  have keep : ∀ (k : Nat) (o : Obj), W.heap[k]? = some o → (∀ cs, o ≠ .cells cs 9 (0, 0)) → w4.heap[k]? = some o := by
    intro k o hk hne
    have lk : k < W.heap.size := (Array.getElem?_eq_some_iff.1 hk).1
    have hk1 : (w1.alloc (.cells #[.string s] 9)).heap[k]? = some o := (Below.heap_alloc _ _ _ (by omega)).trans ((hb1.block k lk).trans hk)
    refine (hgrow.block k (by simp; omega) (fun e => ?_)).trans hk1
    obtain ⟨cs, hc⟩ := own_not_cells hown1 e.symm
    rw [hk1] at hc
    exact hne cs (Option.some.inj hc)
  have ko : w4.heap[w.heap.size + 1]? = some (.cells #[v, .int .i64 0, .int .i64 0, .slice none 0 0] 31 (0, 0)) := keep _ _ h1 (by intro cs e; simp at e)
  have kr : w4.heap[w.heap.size]? = some (.cells #[.slice none 0 0, .int .i64 0, .int .i64 0, .slice none 0 0] 31 (0, 0)) := keep _ _ h3 (by intro cs e; simp at e)
  have hsz : W.heap.size ≤ w4.heap.size := by have := hgrow.size; simp at this; omega
  have far : ∀ (k : Nat) (o : Obj), w4.heap[k]? = some o → (∀ cs, o ≠ .cells cs 31 (0, 0)) → (w4.setCell ⟨w.heap.size + 1, 0, none⟩ (.slice (some ⟨g, 0, none⟩) (j + 1) cap)).heap[k]? = some o := by
    intro k o hk hne
    refine (Below.heap_setCell _ _ _ _ (fun e => ?_)).trans hk
    dsimp only at e
    subst e
    rw [ko] at hk
    exact hne _ (Option.some.inj hk).symm
  refine ⟨by simp [World.cell?, ko], by simp [World.frozen?, ko], ⟨.slice (some ⟨g, 0, none⟩) (j + 1) cap, ?_, ?_, ?_, ?_⟩, ⟨by simpa using hsz, ?_⟩, ?_⟩
  · have : (w4.setCell ⟨w.heap.size + 1, 0, none⟩ (.slice (some ⟨g, 0, none⟩) (j + 1) cap)).heap[w.heap.size + 1]? = some (.cells (#[v, .int .i64 0, .int .i64 0, .slice none 0 0].setIfInBounds 0 (.slice (some ⟨g, 0, none⟩) (j + 1) cap)) 31 (0, 0)) := by
      simp [World.setCell, Array.getElem?_modify, ko]
    simpa using this
  · rw [seqL_succ, List.map_append, ← hs]
    refine hown.kept (grownBy_setCell' _ _ _) (.inr (fun e => ?_))
    obtain ⟨cs, hc⟩ := own_not_cells hown e
    rw [ko] at hc
    simp at hc
  · exact (Below.heap_setCell _ _ _ _ (by simp)).trans kr
  · exact ((((h4.trans (hb1.mono h4.size)).alloc (by have := h4.size; omega) _).grown hgrow (by have := h4.size; simp; omega) (fun k e => (hown1.lt k e).1))).setCell (p := ⟨w.heap.size + 1, 0, none⟩) (by simp) _
  · intro b t x t9 t31 hbx
    exact far _ _ (keep _ _ hbx (by intro cs e; simp at e; exact t9 e.2)) (by intro cs e; simp at e; exact t31 e.2)
  · intro k o hk ho
    exact far _ _ (keep _ _ hk (by rintro cs rfl; cases ho)) (by rintro cs rfl; cases ho)

theorem set4_facts {W : World} {b : Nat} {t : TypeId} {u0 u1 u2 u3 : Value} (h : W.heap[b]? = some (.cells #[u0, u1, u2, u3] t (0, 0))) (v0 v1 v2 v3 : Value) :
    let WE := (((W.setCell ⟨b, 0, none⟩ v0).setCell ⟨b, 1, none⟩ v1).setCell ⟨b, 2, none⟩ v2).setCell ⟨b, 3, none⟩ v3
    (∀ k : Nat, k ≠ b → WE.heap[k]? = W.heap[k]?) ∧ WE.heap[b]? = some (.cells #[v0, v1, v2, v3] t (0, 0)) := by
  refine ⟨fun k hk => ?_, ?_⟩
  · rw [Below.heap_setCell _ _ _ _ hk, Below.heap_setCell _ _ _ _ hk, Below.heap_setCell _ _ _ _ hk, Below.heap_setCell _ _ _ _ hk]
  · simp [World.setCell, Array.getElem?_modify, h]

theorem results_row {fn : Func} {p : Tmp} {ty : TypeId} (h : fn.results = #[.cell p ty]) (tmps : Array Value) (w : World) (g : Nat) (cs : Array Value)
    (hp : tmps.getD p undef = .pointer (some ⟨g, 0, none⟩)) (hl : (loadVar ty ⟨g, 0, none⟩).run Tryz.prog w = .ok (.agg cs) w) :
    (results fn tmps).run Tryz.prog w = .ok (.agg cs) w := by
  have hp' : tmps[p]?.getD undef = .pointer (some ⟨g, 0, none⟩) := by simpa using hp
  simp [results, h, hp', asAddr, hl]

theorem owns_set4 {W : World} {b B n : Nat} {v : Value} {xs : List Value} {cs : Array Value} (h : W.ownsRow B 9 1 v n xs) (hb : W.heap[b]? = some (.cells cs 31 (0, 0))) (v0 v1 v2 v3 : Value) :
    ((((W.setCell ⟨b, 0, none⟩ v0).setCell ⟨b, 1, none⟩ v1).setCell ⟨b, 2, none⟩ v2).setCell ⟨b, 3, none⟩ v3).ownsRow B 9 1 v n xs := by
  have hne : v.ownBlock ≠ some b := fun e => by
    obtain ⟨c, hc⟩ := own_not_cells h e
    rw [hb] at hc
    simp at hc
  have one : ∀ (X : World) (o : Nat) (u : Value), X.ownsRow B 9 1 v n xs → (X.setCell ⟨b, o, none⟩ u).ownsRow B 9 1 v n xs := fun X o u hX =>
    hX.kept (row := some b) ⟨rfl, rfl, rfl, (KeepsWalks.setCell X _ u).size, fun k _ hk => Below.heap_setCell _ _ _ k (fun e => hk (by rw [e]))⟩ (.inr hne)
  exact one _ _ _ (one _ _ _ (one _ _ _ (one _ _ _ h)))

theorem lit_size {n m k d : Int} {N j : Nat} (hg : Good n m k d N) (hj : j < N) : (sI (n + (j : Int) * d)).size ≤ 1000 := by
  have q1 := hg.n0
  have q2 := hg.n1
  have q3 := hg.m0
  have q4 := hg.m1
  have : -1000000 < n + (j : Int) * d ∧ n + (j : Int) * d < 1000000 := by
    rcases Int.lt_or_le m n with h | h
    · obtain ⟨_, _, a, b, _⟩ := good_down hg h (by omega : j ≤ N)
      have := b hj
      omega
    · obtain ⟨_, a, b, _⟩ := good_up hg h (by omega : j ≤ N)
      have := b hj
      omega
  have := sI_max _ this.1 this.2
  omega

set_option maxRecDepth 100000 in
set_option maxHeartbeats 2000000 in
theorem braces_any (b cp : Nat) (n m k d : Int) (N : Nat) (hg : Good n m k d N) (n0 : Nat) (w : World) (hT : Tab n0 w)
    (HW : Hid (∀ w1 : World, Below w.heap.size w w1 → Calls Tryz.prog 15 #[.slice (some ⟨b, 0, none⟩) 1 cp] w1 fun e w' => ∃ nb, e = .returned (.pointer (some ⟨nb, 0, none⟩)) ∧ Below w1.heap.size w1 w' ∧ TopAt n m k nb w')) :
    Calls Tryz.prog 8 #[.slice (some ⟨b, 0, none⟩) 1 cp] w fun e w' => ∃ v, e = .returned (.agg #[v, .int .i64 0, .int .i64 0, .slice none 0 0]) ∧ w'.ownsRow w.heap.size 9 1 v N ((seqL n d N).map Value.string) ∧ Below w.heap.size w w' := by
  refine (callsIn_wide (n := 9)).1 ?_
  refine callsIn_of_wp_marks Tryz.func8 rfl trivial ?_ rfl
  simp only [Tryz.ntmps8, List.size_toArray, List.length_cons, List.length_nil, Nat.reduceAdd, Nat.reduceSub, Array.replicate_succ, Array.replicate_zero, List.push_toArray, List.append_toArray, List.nil_append, List.cons_append]
  gi_wp2_with fail
  have hb0 : Below w.heap.size w ((w.alloc (.cells #[.slice none 0 0, .int .i64 0, .int .i64 0, .slice none 0 0] 31)).alloc (.cells #[.slice none 0 0, .int .i64 0, .int .i64 0, .slice none 0 0] 31)) :=
    ((Below.refl _ w).alloc (Nat.le_refl _) _).alloc (by simp) _
  refine ⟨trivial, (callsIn_wide.2 (HW.out _ hb0)).mono ?_⟩
  rintro e w1 ⟨nb, rfl, hb1, htop⟩
  have hs1 := hb1.size
  simp only [World.size_alloc] at hs1
  have hr1 : w1.heap[w.heap.size]? = some (.cells #[.slice none 0 0, .int .i64 0, .int .i64 0, .slice none 0 0] 31) := (hb1.block w.heap.size (by simp; omega)).trans ((Below.heap_alloc _ _ _ (by simp)).trans (new_at2 _ _ rfl))
  have ho1 : w1.heap[w.heap.size + 1]? = some (.cells #[.slice none 0 0, .int .i64 0, .int .i64 0, .slice none 0 0] 31) := (hb1.block (w.heap.size + 1) (by simp)).trans (new_at2 _ _ (by simp))
  have hB1 : Below w.heap.size w w1 := hb0.trans (hb1.mono (by simp; omega))
  clear hb1 hb0 HW
  gi_wp2_with fail
  refine ⟨trivial, (callsIn_wide.2 (seq_func nb w1)).mono ?_⟩
  rintro e w2 ⟨rfl, rfl⟩
  have ho2 : (w1.alloc (.cells #[.pointer (some ⟨nb, 0, none⟩)] 56)).heap[w.heap.size + 1]? = some (.cells #[.slice none 0 0, .int .i64 0, .int .i64 0, .slice none 0 0] 31) := (Below.heap_alloc _ _ _ (by omega)).trans ho1
  have hr2 : (w1.alloc (.cells #[.pointer (some ⟨nb, 0, none⟩)] 56)).heap[w.heap.size]? = some (.cells #[.slice none 0 0, .int .i64 0, .int .i64 0, .slice none 0 0] 31) := (Below.heap_alloc _ _ _ (by omega)).trans hr1
  have hx2 := Boxed.new w1 56 (.pointer (some ⟨nb, 0, none⟩))
  have hb2 : Below w1.heap.size w1 (w1.alloc (.cells #[.pointer (some ⟨nb, 0, none⟩)] 56)) := (Below.refl _ w1).alloc (Nat.le_refl _) _
  have htop2 := htop.later hb2
  have hB2 := hB1.trans (hb2.mono (by omega))
  have hs2 : (w1.alloc (.cells #[.pointer (some ⟨nb, 0, none⟩)] 56)).heap.size = w1.heap.size + 1 := by simp
  clear htop hB1 ho1 hr1 hb2
  generalize w1.alloc (.cells #[.pointer (some ⟨nb, 0, none⟩)] 56) = W0 at *
  have hrs : w.heap.size + 2 ≤ w1.heap.size := by omega
  have HX := Lib.hid hx2
  clear hx2
  have HTop := Lib.hid htop2
  clear htop2
  obtain ⟨xb, hxb⟩ : ∃ xb, xb = w1.heap.size := ⟨_, rfl⟩
  rw [← hxb]
  have HXB := Lib.hid hxb
  clear hs1 hxb
  gi_wp2_with fail
  have hx20 := enters_of (P := Tryz.prog) Tryz.func20 (by kernel_rfl) rfl
  have lB : w.heap.size + 1 < W0.heap.size := by omega
  refine range_law (gf := 20) (lb := #[.pointer (some ⟨xb, 0, none⟩)]) rfl hx20 rfl n d N (BrI n d w) ?hI ?hIp ?hIs ?h0 ?hiter ?hround ?hdone
  case hI => exact fun j W W' h hb => h.later hb
  case hIp => exact fun j W l o o' h hl ho hle => h.putObj hl ho (by omega)
  case hIs => exact fun cb j W u v h hb hle => h.setCell hb (by omega)
  case h0 => exact ⟨_, ho2, by simpa [seqL] using World.ownsRow_nil _ _ _ _, hr2, hB2⟩
  case hiter =>
    intro l J W hJ hs hR hJI hj hb
    exact iter_any l xb nb W0.heap.size n m k d N hg J hJ hs hR W hb.size hj n0 (fun j W h => by obtain ⟨v, _, _, _, h4⟩ := hJI _ _ h; exact hT.on (h4.mono hT.1)) (HTop.out.later hb) (by rw [HXB.out]; exact (boxed_below HX.out hb).cell)
  case hround => 
    intro l m0 j p W hj hi
    gi_wp2
    refine ⟨trivial, ?_⟩
    intro W' hi' hp
    obtain ⟨v, h1, h2, h3, h4⟩ := hi'
    obtain ⟨vp, lb, p1, p2, p3⟩ := hp.ex
    obtain ⟨g1, cap1, rfl, _, _, _, p4⟩ := owns_form p2 (by omega)
    have p5 : W'.cell? ⟨g1, 0, none⟩ = some (.iface 73 (.pointer (some ⟨lb, 0, none⟩))) := p4 0 _ rfl
    have p6 := p1.cell
    have gc : W'.cell? ⟨w.heap.size + 1, 0, none⟩ = some v := by simp [World.cell?, h1]
    have gf : W'.frozen? ⟨w.heap.size + 1, 0, none⟩ = false := by simp [World.frozen?, h1]
    have hj5 : j ≤ 500 := by have := hg.most; omega
    have q1 := hg.n0
    have q2 := hg.n1
    have hsz : (sI (n + (j : Int) * d)).size ≤ 1000 := lit_size hg hj
    obtain ⟨s, hs⟩ : ∃ s, s = sI (n + (j : Int) * d) := ⟨_, rfl⟩
    rw [← hs] at p3 hsz
    have lob : w.heap.size + 1 < W'.heap.size := (Array.getElem?_eq_some_iff.1 h1).1
    have HA := Lib.hid (fun w1 hb1 => br_append (B0 := w.heap.size) (w1 := w1) s h2 hb1 h4.size hj5)
    have HE := Lib.hid (fun w1 w4 g cap hb1 => br_end (w1 := w1) (w4 := w4) (g := g) (cap := cap) h1 h2 h3 h4 hs hb1)
    have P1 := Lib.hid p1
    have HO := Lib.hid h2
    have h4s := h4.size
    obtain ⟨i0, hi0, hz0, hz1, hz2⟩ := info_parts Tryz.info9
    have HI := Lib.hid hi0
    have HZ0 := Lib.hid hz0
    have HZ1 := Lib.hid hz1
    have HZ2 := Lib.hid hz2
    clear hi0 hz0 hz1 hz2
    have hmx : Tryz.prog.follows .mixedOrders = true := by kernel_rfl
    clear h1 h2 h3 h4 p1 p2 p4 hp hs
    gi_wp2
    refine wpIn_mono (region_in (R := fun _ W₂ => BrI n d w (j + 1) W₂ ∧ KeepB W' W₂) (by kernel_rfl) (by kernel_rfl) ?_) ?_
    · refine wpAny_take (i := 0) (v := .pointer (some ⟨w.heap.size + 1, 0, none⟩)) rfl (by kernel_rfl) (by kernel_rfl) (by kernel_rfl) (fun _ _ _ h => h) (Or.inl ⟨by rfl, by intro w; go_simp⟩) ?_
      refine wpAny_take (i := 2) (v := .pointer (some ⟨p, 0, none⟩)) rfl (by kernel_rfl) (by kernel_rfl) (by kernel_rfl) (fun _ _ _ h => h) (Or.inl ⟨by rfl, by intro w; go_simp⟩) ?_
      refine wpAny_ready (rs := [1, 3]) (by kernel_rfl) (by simp) ?_
      refine AllReady.cons rfl (fun K hK => ?_) (AllReady.cons rfl (fun K hK => ?_) (AllReady.nil))
      · go_simp
        refine hK _ _ ?_
        clear hK K
        refine wpAny_ready (rs := [3]) (by kernel_rfl) (by simp) ?_
        refine AllReady.cons rfl (fun K hK => ?_) (AllReady.nil)
        go_simp
        refine (lit_any p g1 cap1 lb s _ (by go_simp) (by go_simp) (by go_simp) hsz).mono ?_
        rintro e w1 ⟨rfl, hb1⟩
        have hb1' : Below W'.heap.size W' w1 := (Below.refl _ W').drew.trans hb1
        have hs1 := hb1'.size
        have gc1 : w1.cell? ⟨w.heap.size + 1, 0, none⟩ = some v := (hb1'.cell (p := ⟨w.heap.size + 1, 0, none⟩) lob).trans gc
        have lob1 : w.heap.size + 1 < w1.heap.size := by omega
        go_simp
        refine hK _ _ ?_
        clear hK K
        refine wpAny_ready (rs := [4]) (by kernel_rfl) (by simp) ?_
        refine AllReady.cons rfl (fun K hK => ?_) (AllReady.nil)
        go_simp
        refine hK _ _ ?_
        clear hK K
        refine wpAny_ready (rs := [5]) (by kernel_rfl) (by simp) ?_
        refine AllReady.cons rfl (fun K hK => ?_) (AllReady.nil)
        refine step_append_lies _ (by rfl) _ _ _ (by rfl) w.heap.size 9 i0 _ 1 16 Tryz.underlying23 HI.out HZ0.out HZ1.out HZ2.out rfl (by omega) v j _ (by rfl) ((owns_below hb1' HO.out).alloc _) ⟨w1.heap.size, 0, none⟩ 1 1 [.string s] (by rfl) (by rfl) (World.news_of_block (cs := #[.string s]) (t := 9) (fr := (0, 0)) (heap_alloc_new w1 _)) (by simp [Value.oneCell']) (by omega) (by unfold maxLen; omega) (by omega) (by have := h4s; simp; omega) _ rfl ?_
        intro ga capa w4 hown4 hgrow _ _
        obtain ⟨gc4, gf4, hend⟩ := HE.out w1 w4 ga capa hb1' hown4 hgrow
        have HEnd := Lib.hid hend
        clear hend hown4 hgrow hb1 hb1'
        refine hK _ _ ?_
        clear hK K
        refine wpAny_ready (rs := [6]) (by kernel_rfl) (by simp) ?_
        refine AllReady.cons rfl (fun K hK => ?_) (AllReady.nil)
        go_simp
        refine hK _ _ ?_
        clear hK K
        refine wpAny_ready (rs := [7]) (by kernel_rfl) (by simp) ?_
        refine AllReady.cons rfl (fun K hK => ?_) (AllReady.nil)
        go_simp
        refine hK _ _ ?_
        clear hK K
        refine wpAny_done (by kernel_rfl) ?_ _
        exact ⟨rfl, HEnd.out⟩
      · go_simp
        refine (lit_any p g1 cap1 lb s _ (by go_simp) (by go_simp) (by go_simp) hsz).mono ?_
        rintro e w1 ⟨rfl, hb1⟩
        have hb1' : Below W'.heap.size W' w1 := (Below.refl _ W').drew.trans hb1
        have hs1 := hb1'.size
        have gc1 : w1.cell? ⟨w.heap.size + 1, 0, none⟩ = some v := (hb1'.cell (p := ⟨w.heap.size + 1, 0, none⟩) lob).trans gc
        have lob1 : w.heap.size + 1 < w1.heap.size := by omega
        go_simp
        refine hK _ _ ?_
        clear hK K
        refine wpAny_ready (rs := [1, 4]) (by kernel_rfl) (by simp) ?_
        refine AllReady.cons rfl (fun K hK => ?_) (AllReady.cons rfl (fun K hK => ?_) (AllReady.nil))
        · go_simp
          refine hK _ _ ?_
          clear hK K
          refine wpAny_ready (rs := [4]) (by kernel_rfl) (by simp) ?_
          refine AllReady.cons rfl (fun K hK => ?_) (AllReady.nil)
          go_simp
          refine hK _ _ ?_
          clear hK K
          refine wpAny_ready (rs := [5]) (by kernel_rfl) (by simp) ?_
          refine AllReady.cons rfl (fun K hK => ?_) (AllReady.nil)
          refine step_append_lies _ (by rfl) _ _ _ (by rfl) w.heap.size 9 i0 _ 1 16 Tryz.underlying23 HI.out HZ0.out HZ1.out HZ2.out rfl (by omega) v j _ (by rfl) ((owns_below hb1' HO.out).alloc _) ⟨w1.heap.size, 0, none⟩ 1 1 [.string s] (by rfl) (by rfl) (World.news_of_block (cs := #[.string s]) (t := 9) (fr := (0, 0)) (heap_alloc_new w1 _)) (by simp [Value.oneCell']) (by omega) (by unfold maxLen; omega) (by omega) (by have := h4s; simp; omega) _ rfl ?_
          intro ga capa w4 hown4 hgrow _ _
          obtain ⟨gc4, gf4, hend⟩ := HE.out w1 w4 ga capa hb1' hown4 hgrow
          have HEnd := Lib.hid hend
          clear hend hown4 hgrow hb1 hb1'
          refine hK _ _ ?_
          clear hK K
          refine wpAny_ready (rs := [6]) (by kernel_rfl) (by simp) ?_
          refine AllReady.cons rfl (fun K hK => ?_) (AllReady.nil)
          go_simp
          refine hK _ _ ?_
          clear hK K
          refine wpAny_ready (rs := [7]) (by kernel_rfl) (by simp) ?_
          refine AllReady.cons rfl (fun K hK => ?_) (AllReady.nil)
          go_simp
          refine hK _ _ ?_
          clear hK K
          refine wpAny_done (by kernel_rfl) ?_ _
          exact ⟨rfl, HEnd.out⟩
        · go_simp
          refine hK _ _ ?_
          clear hK K
          refine wpAny_ready (rs := [1]) (by kernel_rfl) (by simp) ?_
          refine AllReady.cons rfl (fun K hK => ?_) (AllReady.nil)
          go_simp
          refine hK _ _ ?_
          clear hK K
          refine wpAny_ready (rs := [5]) (by kernel_rfl) (by simp) ?_
          refine AllReady.cons rfl (fun K hK => ?_) (AllReady.nil)
          refine step_append_lies _ (by rfl) _ _ _ (by rfl) w.heap.size 9 i0 _ 1 16 Tryz.underlying23 HI.out HZ0.out HZ1.out HZ2.out rfl (by omega) v j _ (by rfl) ((owns_below hb1' HO.out).alloc _) ⟨w1.heap.size, 0, none⟩ 1 1 [.string s] (by rfl) (by rfl) (World.news_of_block (cs := #[.string s]) (t := 9) (fr := (0, 0)) (heap_alloc_new w1 _)) (by simp [Value.oneCell']) (by omega) (by unfold maxLen; omega) (by omega) (by have := h4s; simp; omega) _ rfl ?_
          intro ga capa w4 hown4 hgrow _ _
          obtain ⟨gc4, gf4, hend⟩ := HE.out w1 w4 ga capa hb1' hown4 hgrow
          have HEnd := Lib.hid hend
          clear hend hown4 hgrow hb1 hb1'
          refine hK _ _ ?_
          clear hK K
          refine wpAny_ready (rs := [6]) (by kernel_rfl) (by simp) ?_
          refine AllReady.cons rfl (fun K hK => ?_) (AllReady.nil)
          go_simp
          refine hK _ _ ?_
          clear hK K
          refine wpAny_ready (rs := [7]) (by kernel_rfl) (by simp) ?_
          refine AllReady.cons rfl (fun K hK => ?_) (AllReady.nil)
          go_simp
          refine hK _ _ ?_
          clear hK K
          refine wpAny_done (by kernel_rfl) ?_ _
          exact ⟨rfl, HEnd.out⟩
    · rintro e a2 W2 ⟨rfl, h⟩
      exact ⟨rfl, h⟩
  case hdone =>
    intro D W hD hi hk
    obtain ⟨v, h1, h2, h3, h4⟩ := hi
    obtain ⟨g, cap, rfl, _⟩ := owns_form h2 hg.pos
    have c0 : W.cell? ⟨w.heap.size + 1, 0, none⟩ = some (.slice (some ⟨g, 0, none⟩) N cap) := by simp [World.cell?, h1]
    have c1 : W.cell? ⟨w.heap.size + 1, 1, none⟩ = some (.int .i64 0) := by simp [World.cell?, h1]
    have c2 : W.cell? ⟨w.heap.size + 1, 2, none⟩ = some (.int .i64 0) := by simp [World.cell?, h1]
    have c3 : W.cell? ⟨w.heap.size + 1, 3, none⟩ = some (.slice none 0 0) := by simp [World.cell?, h1]
    have r0 : W.cell? ⟨w.heap.size, 0, none⟩ = some (.slice none 0 0) := by simp [World.cell?, h3]
    have r1 : W.cell? ⟨w.heap.size, 1, none⟩ = some (.int .i64 0) := by simp [World.cell?, h3]
    have r2 : W.cell? ⟨w.heap.size, 2, none⟩ = some (.int .i64 0) := by simp [World.cell?, h3]
    have r3 : W.cell? ⟨w.heap.size, 3, none⟩ = some (.slice none 0 0) := by simp [World.cell?, h3]
    have f0 : W.frozen? ⟨w.heap.size, 0, none⟩ = false := by simp [World.frozen?, h3]
    have f1 : W.frozen? ⟨w.heap.size, 1, none⟩ = false := by simp [World.frozen?, h3]
    have f2 : W.frozen? ⟨w.heap.size, 2, none⟩ = false := by simp [World.frozen?, h3]
    have f3 : W.frozen? ⟨w.heap.size, 3, none⟩ = false := by simp [World.frozen?, h3]
    have H2 := Lib.hid h2
    have H3 := Lib.hid h3
    have H4 := Lib.hid h4
    have HK := Lib.hid hk
    clear h1 h2 h3 h4 hk HX HTop ho2 hr2 hB2 hs2 HXB hx20
    gi_wp2
    obtain ⟨k1, k2⟩ := set4_facts (W := W) (b := w.heap.size) H3.out (.slice (some ⟨g, 0, none⟩) N cap) (.int .i64 0) (.int .i64 0) (.slice none 0 0)
    have hne : D ≠ w.heap.size := by omega
    refine ⟨by simp, .inl ⟨_, _, rfl, run_takeDeferred ((k1 D hne).trans HK.out), ?_⟩⟩
    refine ⟨_, results_row rfl _ _ w.heap.size _ rfl (run_loadVar_row _ _ 31 31 _ (0, 0) _ ((World.putObj_heap_other (fun e => hne e.symm)).trans k2) Tryz.underlying31 rfl (by kernel_rfl)), ⟨_, rfl, ?_, ?_⟩⟩
    · refine ownsRow_putObj ?_ _ ((k1 D hne).trans HK.out) rfl
      exact owns_set4 H2.out H3.out _ _ _ _
    · have hb4 := H4.out
      refine Below.grown ?_ (grownBy_putObj' _ D _) (by simpa using hb4.size) (fun k e => by cases e; omega)
      exact (((hb4.setCell (p := ⟨w.heap.size, 0, none⟩) (Nat.le_refl _) _).setCell (p := ⟨w.heap.size, 1, none⟩) (Nat.le_refl _) _).setCell (p := ⟨w.heap.size, 2, none⟩) (Nat.le_refl _) _).setCell (p := ⟨w.heap.size, 3, none⟩) (Nat.le_refl _) _
end Go.Proofs.YtphikmigopdndaaGreatFmt
