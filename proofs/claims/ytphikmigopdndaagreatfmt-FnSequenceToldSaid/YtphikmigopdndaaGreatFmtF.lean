/- The contracts of impl.part and impl.word at a plain part; what a syntax word of one Lit and a sequence of such are, in memory. -/
import Derived.Test.YtphikmigopdndaaGreatFmtE
import Derived.RangeFuncNested
import Derived.Deep.RegionLaw
namespace Go.Proofs.YtphikmigopdndaaGreatFmt
open Go.RowKit

set_option maxRecDepth 100000 in
set_option maxHeartbeats 1000000 in
theorem part_plain (s : ByteArray) (w : World) :
    Calls Tryz.prog 24 #[.agg #[.int .i64 1, .string s, .int .i64 0, .slice none 0 0, .slice none 0 0]] w fun e w' =>
      e = .returned (.iface 73 (.pointer (some ⟨w.heap.size + 1, 0, none⟩))) ∧ w'.heap[w.heap.size + 1]? = some (.cells #[.int .u32 0, .int .u32 0, .int .u32 0, .int .u32 0, .string s] 79 (0, 0)) ∧ Below w.heap.size w w' := by
  go_enter Tryz.func24, Tryz.ntmps24
  go_wp2
  go_ret
  refine ⟨rfl, ?_, ((Below.refl _ _).alloc (Nat.le_refl _) _).alloc (by simp) _⟩
  rw [← World.size_alloc w (.cells #[.int .i64 1, .string s, .int .i64 0, .slice none 0 0, .slice none 0 0] 40)]
  exact heap_alloc_new _ _

theorem Tryz.info71 : (Tryz.prog.info? 71).map (fun i => (i.zero, i.size, i.bytes)) = some (some .nilIface, 1, 16) := by kernel_rfl

theorem boxed_chain {W w1 w4 : World} {o : Obj} {b : Nat} {t : TypeId} {v : Value} (h : Boxed W b t v) (hb : Below W.heap.size W w1) (hg : (w1.alloc o).grownBy w4 none) : Boxed w4 b t v :=
  ((h.kept (row := none) (grown_of_below hb none) (by simp)).alloc o).kept hg (by simp)

theorem boxed_below {W w1 : World} {b : Nat} {t : TypeId} {v : Value} (h : Boxed W b t v) (hb : Below W.heap.size W w1) : Boxed w1 b t v := h.kept (row := none) (grown_of_below hb none) (by simp)

/-- behind the round of impl.word: the word at wb holds the one part -/
def WdRel (B : Nat) (w : World) (wb : Nat) (T : TypeId) (R : Nat → Nat → World → Prop) (wx : World) : Prop :=
  ∃ (v : Value) (pb : Nat), wx.heap[wb]? = some (.cells #[v] 69 (0, 0)) ∧ wx.ownsRow B 71 1 v 1 [.iface T (.pointer (some ⟨pb, 0, none⟩))] ∧ R B pb wx ∧ Below B w wx

theorem wd_end {w W w1 w4 : World} {T : TypeId} {R : Nat → Nat → World → Prop} {gg cap pb : Nat} {o : Obj} {u : Value}
    (hR : ∀ B B' pb w1 w2, R B pb w1 → (∀ k, B ≤ k → k < w1.heap.size → w2.heap[k]? = w1.heap[k]?) → B' ≤ B → R B' pb w2)
    (hx : Boxed w4 w.heap.size 69 u) (hown : w4.ownsRow w.heap.size 71 1 (.slice (some ⟨gg, 0, none⟩) (0 + 1) cap) (0 + 1) ([] ++ [.iface T (.pointer (some ⟨pb, 0, none⟩))]))
    (hgrow : (w1.alloc o).grownBy w4 (Value.slice none 0 0).ownBlock) (hb1 : Below W.heap.size W w1) (hr1 : R W.heap.size pb w1) (hB : Below w.heap.size w W) (hlt : w.heap.size < W.heap.size) :
    WdRel w.heap.size w w.heap.size T R (w4.setCell ⟨w.heap.size, 0, none⟩ (.slice (some ⟨gg, 0, none⟩) 1 cap)) := by
  have hs1 := hb1.size
  refine ⟨_, pb, hx.set _, hown.kept (grownBy_setCell' _ _ _) (.inr (fun e => hx.not_row (by decide) hown e.symm)), ?_, ?_⟩
  · refine hR _ _ _ _ _ hr1 (fun k hk hk2 => ?_) (by omega)
    rw [Below.heap_setCell _ _ _ _ (by dsimp only; omega), hgrow.block k (by simp; omega) (by simp [Value.ownBlock])]
    exact Below.heap_alloc _ _ _ hk2
  · refine Below.setCell ?_ (p := ⟨w.heap.size, 0, none⟩) (Nat.le_refl _) _
    exact ((hB.trans (hb1.mono (B' := w.heap.size) (by omega))).alloc (by omega) o).grown hgrow (by simp; omega) (by intro k hk; simp [Value.ownBlock] at hk)

set_option maxRecDepth 100000 in
set_option maxHeartbeats 1000000 in
theorem word_one (b cp : Nat) (κ : Int) (s : ByteArray) (wa : Option Addr) (wl wk : Nat) (T : TypeId) (R : Nat → Nat → World → Prop) (w : World)
    (hR : ∀ B B' pb w1 w2, R B pb w1 → (∀ k, B ≤ k → k < w1.heap.size → w2.heap[k]? = w1.heap[k]?) → B' ≤ B → R B' pb w2)
    (hp : PartAt w b κ s (.slice wa wl wk))
    (HP : Hid (∀ w1 : World, Below w.heap.size w w1 → Calls Tryz.prog 24 #[.agg #[.int .i64 κ, .string s, .int .i64 0, .slice wa wl wk, .slice none 0 0]] w1 fun e w' => ∃ pb, e = .returned (.iface T (.pointer (some ⟨pb, 0, none⟩))) ∧ Below w1.heap.size w1 w' ∧ R w1.heap.size pb w')) :
    Calls Tryz.prog 15 #[.slice (some ⟨b, 0, none⟩) 1 cp] w fun e w' => ∃ wb, e = .returned (.pointer (some ⟨wb, 0, none⟩)) ∧ w.heap.size ≤ wb ∧ WdRel w.heap.size w wb T R w' := by
  obtain ⟨h0, h1, h2, h3, h4⟩ := hp
  have lb := World.block_lt_of_cell? w _ h0
  dsimp only at lb
  go_enter Tryz.func15, Tryz.ntmps15
  go_wp2
  refine wp_loop_rounds 2 ?_
  rw [rounds_succ]
  go_wp2_with fail
  obtain ⟨W, hW⟩ : ∃ W, W = (w.alloc (.cells #[.slice none 0 0] 69)).alloc (.cells #[.int .i64 κ, .string s, .int .i64 0, .slice wa wl wk, .slice none 0 0] 40) := ⟨_, rfl⟩
  have hsz : W.heap.size = w.heap.size + 1 + 1 := by rw [hW]; simp
  have hB0 : Below w.heap.size w W := by rw [hW]; exact ((Below.refl _ w).alloc (Nat.le_refl _) _).alloc (by simp) _
  have gX : Boxed W w.heap.size 69 (.slice none 0 0) := by rw [hW]; exact (Boxed.new w 69 _).alloc _
  have gc := gX.cell
  have gf := gX.frozen
  have g0 : W.cell? ⟨w.heap.size + 1, 0, none⟩ = some (.int .i64 κ) := by rw [hW]; go_simp
  have g1 : W.cell? ⟨w.heap.size + 1, 1, none⟩ = some (.string s) := by rw [hW]; go_simp
  have g2 : W.cell? ⟨w.heap.size + 1, 2, none⟩ = some (.int .i64 0) := by rw [hW]; go_simp
  have g3 : W.cell? ⟨w.heap.size + 1, 3, none⟩ = some (.slice wa wl wk) := by rw [hW]; go_simp
  have g4 : W.cell? ⟨w.heap.size + 1, 4, none⟩ = some (.slice none 0 0) := by rw [hW]; go_simp
  rw [← hW]
  have HS := Lib.hid hsz
  have HX := Lib.hid gX
  have hne1 : w.heap.size + 1 < W.heap.size := by omega
  clear hW hsz h0 h1 h2 h3 h4 gX
  obtain ⟨i0, hi0, hz0, hz1, hz2⟩ := info_parts Tryz.info71
  have HI := Lib.hid hi0
  have HZ0 := Lib.hid hz0
  have HZ1 := Lib.hid hz1
  have HZ2 := Lib.hid hz2
  clear hi0 hz0 hz1 hz2
  go_region_law (first | (go_simp; go_at_call 24; refine (HP.out _ hB0.drew).mono ?_; rintro e w1 ⟨pb, rfl, hb1, hr1⟩; have hz1 : w.heap.size + 1 < w1.heap.size := (by have hx := hb1.size; simp at hx; omega); have hz0 : w.heap.size < w1.heap.size := (by omega); have hx1 := boxed_below (W := W.drew) HX.out hb1; have gc1 := hx1.cell; have HX1 := Lib.hid hx1; clear hx1) | (refine step_append_lies _ (by rfl) _ _ _ (by rfl) w.heap.size 71 i0 .nilIface 1 16 Tryz.underlying67 HI.out HZ0.out HZ1.out HZ2.out rfl (by omega) (.slice none 0 0) 0 [] (by rfl) (World.ownsRow_nil _ _ _ _) ⟨w1.heap.size, 0, none⟩ 1 1 [.iface T (.pointer (some ⟨pb, 0, none⟩))] (by rfl) (by rfl) (World.news_of_block (cs := #[.iface T (.pointer (some ⟨pb, 0, none⟩))]) (t := 71) (fr := (0, 0)) (heap_alloc_new w1 _)) (by simp [Value.oneCell']) (by omega) (by unfold maxLen; omega) (by omega) (by simp; omega) (w1.heap.size + 1) (by simp) ?_; intro gg cap w4 hown4 hgrow hat hlt; have hx4 := boxed_chain (W := W.drew) HX.out hb1 hgrow; have gc4 := hx4.cell; have gf4 := hx4.frozen; have HX4 := Lib.hid hx4; clear hx4))
  all_goals
    have HW4 := Lib.hid (wd_end (R := R) hR HX4.out hown4 hgrow hb1 hr1 hB0.drew (by simp; omega))
    clear hown4 hgrow hb1 hr1
    go_wp2
    rw [rounds_succ]
    go_wp2
    go_ret
    exact ⟨_, rfl, Nat.le_refl _, HW4.out⟩

/-- a Lit of the text s lies at pb -/
def LitB (s : ByteArray) (B pb : Nat) (w : World) : Prop := B ≤ pb ∧ w.heap[pb]? = some (.cells #[.int .u32 0, .int .u32 0, .int .u32 0, .int .u32 0, .string s] 79 (0, 0))

theorem LitB.same {s : ByteArray} {B B' pb : Nat} {w1 w2 : World} (h : LitB s B pb w1) (hb : ∀ k, B ≤ k → k < w1.heap.size → w2.heap[k]? = w1.heap[k]?) (hB : B' ≤ B) : LitB s B' pb w2 :=
  ⟨Nat.le_trans hB h.1, (hb pb h.1 (Array.getElem?_eq_some_iff.1 h.2).1).trans h.2⟩

/-- a Word whose one part is a Lit of the text s lies at wb -/
def LitW (B : Nat) (w : World) (wb : Nat) (s : ByteArray) : Prop :=
  ∃ (v : Value) (pb : Nat), B ≤ wb ∧ w.heap[wb]? = some (.cells #[v] 69 (0, 0)) ∧ w.ownsRow B 71 1 v 1 [.iface 73 (.pointer (some ⟨pb, 0, none⟩))] ∧ LitB s B pb w

theorem LitW.same {s : ByteArray} {B B' wb : Nat} {w1 w2 : World} (h : LitW B w1 wb s) (hb : ∀ k, B ≤ k → k < w1.heap.size → w2.heap[k]? = w1.heap[k]?) (hB : B' ≤ B) : LitW B' w2 wb s := by
  obtain ⟨v, pb, h0, h1, h2, h3⟩ := h
  exact ⟨v, pb, Nat.le_trans hB h0, (hb wb h0 (Array.getElem?_eq_some_iff.1 h1).1).trans h1, owns_same h2 hb hB, h3.same hb hB⟩

/-- whatever is written to is none of a word's own blocks -/
theorem LitW.kept {s : ByteArray} {B wb : Nat} {w1 w2 : World} {row : Option Nat} (h : LitW B w1 wb s) (hg : w1.grownBy w2 row) (hr : ∀ k, row = some k → ∃ c t, w1.heap[k]? = some (.cells c t (0, 0)) ∧ t ≠ 69 ∧ t ≠ 71 ∧ t ≠ 79) : LitW B w2 wb s := by
  obtain ⟨v, pb, h0, h1, h2, h3⟩ := h
  have ne : ∀ k c t, w1.heap[k]? = some (.cells c t (0, 0)) → (t = 69 ∨ t = 71 ∨ t = 79) → some k ≠ row := by
    intro k c t hk ht e
    obtain ⟨c', t', hk', a, b, d⟩ := hr k e.symm
    rw [hk] at hk'
    simp only [Option.some.injEq, Obj.cells.injEq] at hk'
    obtain ⟨_, rfl, _⟩ := hk'
    rcases ht with rfl | rfl | rfl
    · exact a rfl
    · exact b rfl
    · exact d rfl
  refine ⟨v, pb, h0, (hg.block wb (Array.getElem?_eq_some_iff.1 h1).1 (ne _ _ _ h1 (.inl rfl))).trans h1, h2.kept hg ?_, h3.1, (hg.block pb (Array.getElem?_eq_some_iff.1 h3.2).1 (ne _ _ _ h3.2 (.inr (.inr rfl)))).trans h3.2⟩
  have h4 := h2.2
  rcases h4 with ⟨rfl, _⟩ | ⟨g, cap, cur, rfl, _, hg', _⟩
  · exact .inl rfl
  · exact .inr (ne g _ _ hg' (.inr (.inl rfl)))

theorem wordPlain_any (b cp : Nat) (s : ByteArray) (w : World) (hp : PartAt w b 1 s (.slice none 0 0)) :
    Calls Tryz.prog 15 #[.slice (some ⟨b, 0, none⟩) 1 cp] w fun e w' => ∃ wb, e = .returned (.pointer (some ⟨wb, 0, none⟩)) ∧ LitW w.heap.size w' wb s ∧ Below w.heap.size w w' := by
  refine (word_one b cp 1 s none 0 0 73 (LitB s) w (fun B B' pb w1 w2 h hb hB => h.same hb hB) hp (fun w1 _ => (part_plain s w1).mono fun _ _ ⟨he, hh, hb⟩ => ⟨_, he, hb, by omega, hh⟩)).mono ?_
  rintro e w' ⟨wb, he, hwb, v, pb, h1, h2, h3, h4⟩
  exact ⟨wb, he, ⟨v, pb, hwb, h1, h2, h3⟩, h4⟩

/-- a BraceExp that is a sequence: its elements are words of one Lit -/
def SeqB (n : Nat) (ss : Nat → ByteArray) (B pb : Nat) (w : World) : Prop :=
  B ≤ pb ∧ ∃ (v : Value) (xs : List Value), w.heap[pb]? = some (.cells #[.bool true, v] 93 (0, 0)) ∧ w.ownsRow B 56 1 v n xs ∧ ∀ (t : Nat) (y : Value), xs[t]? = some y → ∃ wb, y = .pointer (some ⟨wb, 0, none⟩) ∧ LitW B w wb (ss t)

theorem SeqB.same {n : Nat} {ss : Nat → ByteArray} {B B' pb : Nat} {w1 w2 : World} (h : SeqB n ss B pb w1) (hb : ∀ k, B ≤ k → k < w1.heap.size → w2.heap[k]? = w1.heap[k]?) (hB : B' ≤ B) : SeqB n ss B' pb w2 := by
  obtain ⟨h0, v, xs, h1, h2, h3⟩ := h
  refine ⟨Nat.le_trans hB h0, v, xs, (hb pb h0 (Array.getElem?_eq_some_iff.1 h1).1).trans h1, owns_same h2 hb hB, fun t y ht => ?_⟩
  obtain ⟨wb, e, hw⟩ := h3 t y ht
  exact ⟨wb, e, hw.same hb hB⟩

theorem Tryz.info56 : (Tryz.prog.info? 56).map (fun i => (i.zero, i.size, i.bytes)) = some (some (.pointer none), 1, 8) := by kernel_rfl

/-- the round of part at a sequence -/
def ERel (B : Nat) (w : World) (n : Nat) (ss : Nat → ByteArray) (xb : Nat) (i : Value) (wr : World) : Prop :=
  ∃ j : Nat, i = .int .i64 (j : Int) ∧ j ≤ n ∧ SeqB j ss B xb wr ∧ Below B w wr

theorem pair_cell {w : World} {xb : Nat} {u v : Value} {t : TypeId} (h : w.heap[xb]? = some (.cells #[u, v] t (0, 0))) : w.cell? ⟨xb, 1, none⟩ = some v ∧ w.frozen? ⟨xb, 1, none⟩ = false ∧ w.cell? ⟨xb, 0, none⟩ = some u := by
  simp [World.cell?, World.frozen?, h]

theorem pair_set {w : World} {xb : Nat} {u v : Value} {t : TypeId} (v' : Value) (h : w.heap[xb]? = some (.cells #[u, v] t (0, 0))) : (w.setCell ⟨xb, 1, none⟩ v').heap[xb]? = some (.cells #[u, v'] t (0, 0)) := by
  obtain ⟨hlt, hk⟩ := Array.getElem?_eq_some_iff.1 h
  show (w.heap.modify xb _)[xb]? = _
  rw [Array.getElem?_eq_getElem (by rw [Array.size_modify]; exact hlt), Array.getElem_modify_self, hk]
  rfl

end Go.Proofs.YtphikmigopdndaaGreatFmt
