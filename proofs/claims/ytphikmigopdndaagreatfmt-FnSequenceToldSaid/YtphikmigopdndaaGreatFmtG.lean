/- The contracts of impl.part and impl.word at a sequence of plain words. -/
import Derived.Test.YtphikmigopdndaaGreatFmtF
namespace Go.Proofs.YtphikmigopdndaaGreatFmt
open Go.RowKit

theorem erel_start {w : World} {n : Nat} {ss : Nat → ByteArray} (o : Obj) (u : Value) (hu : u = .bool true) :
    ERel w.heap.size w n ss (w.heap.size + 1) (.int .i64 0) ((w.alloc o).alloc (.cells #[u, .slice none 0 0] 93)) := by
  subst hu
  refine ⟨0, rfl, Nat.zero_le _, ⟨by omega, .slice none 0 0, [], ?_, World.ownsRow_nil _ _ _ _, fun t y ht => by simp at ht⟩, ((Below.refl _ _).alloc (Nat.le_refl _) _).alloc (by simp) _⟩
  rw [← World.size_alloc w o]
  exact heap_alloc_new _ _

/-- an append to a row of another type leaves the pair -/
theorem pair_kept {w3 w4 : World} {xb : Nat} {u v : Value} {B n : Nat} {xs : List Value} {o : Obj} (h : w3.heap[xb]? = some (.cells #[u, v] 93 (0, 0))) (hown : w3.ownsRow B 56 1 v n xs) (hg : (w3.alloc o).grownBy w4 v.ownBlock) :
    w4.heap[xb]? = some (.cells #[u, v] 93 (0, 0)) := by
  have hl : xb < w3.heap.size := (Array.getElem?_eq_some_iff.1 h).1
  refine (hg.block xb (by simp; omega) ?_).trans ((Below.heap_alloc _ _ _ hl).trans h)
  have h2 := hown.2
  rcases h2 with ⟨rfl, _⟩ | ⟨g, cap, cur, rfl, _, hg', _⟩
  · simp [Value.ownBlock]
  · intro e
    simp only [Value.ownBlock, Option.some.injEq] at e
    subst e
    rw [h] at hg'
    simp at hg'

theorem grown_setCell (W : World) (b i : Nat) (v : Value) : W.grownBy (W.setCell ⟨b, i, none⟩ v) (some b) :=
  ⟨rfl, rfl, rfl, by rw [setCell_size]; exact Nat.le_refl _, fun k _ hk => Below.heap_setCell _ _ _ k (fun e => hk (by rw [e]))⟩

theorem litw_all {B wb : Nat} {w1 w2 : World} {s : ByteArray} (h : LitW B w1 wb s) (hb : Below w1.heap.size w1 w2) : LitW B w2 wb s := h.same (fun k _ hk => hb.block k hk) (Nat.le_refl _)

theorem erel_next {w wr W w3 w4 : World} {n j wb gg cap : Nat} {ss : Nat → ByteArray} {u v : Value} {xs : List Value} {o : Obj} (hj : j < n) (hBr : Below w.heap.size w wr) (hB : w.heap.size ≤ wr.heap.size)
    (hown : wr.ownsRow w.heap.size 56 1 v j xs) (hall : ∀ (t : Nat) (y : Value), xs[t]? = some y → ∃ wb, y = .pointer (some ⟨wb, 0, none⟩) ∧ LitW w.heap.size wr wb (ss t))
    (hW : W = wr.drew) (hb3 : Below W.heap.size W w3) (hw3 : LitW W.heap.size w3 wb (ss j))
    (hown4 : w4.ownsRow w.heap.size 56 1 (.slice (some ⟨gg, 0, none⟩) (j + 1) cap) (j + 1) (xs ++ [.pointer (some ⟨wb, 0, none⟩)]))
    (hgrow : (w3.alloc o).grownBy w4 v.ownBlock) (hx4 : w4.heap[w.heap.size + 1]? = some (.cells #[.bool true, u] 93 (0, 0))) :
    ERel w.heap.size w n ss (w.heap.size + 1) (.int .i64 ((j : Int) + 1)) (w4.setCell ⟨w.heap.size + 1, 1, none⟩ (.slice (some ⟨gg, 0, none⟩) (j + 1) cap)) := by
  subst hW
  have hb3' : Below wr.heap.size wr w3 := ⟨hb3.os, hb3.tape, hb3.output, hb3.size, hb3.block⟩
  have hs3 : wr.heap.size ≤ w3.heap.size := hb3'.size
  have hxl : xs.length = j := by simpa using hown.1
  have hown3 := owns_below hb3' hown
  -- what is written to in the append is a row of pointers
  have hrow : ∀ k, v.ownBlock = some k → ∃ c t, (w3.alloc o).heap[k]? = some (.cells c t (0, 0)) ∧ t ≠ 69 ∧ t ≠ 71 ∧ t ≠ 79 := by
    intro k hk
    have h2 := (hown3.alloc o).2
    rcases h2 with ⟨rfl, _⟩ | ⟨g, cap, cur, rfl, _, hg', _⟩
    · simp [Value.ownBlock] at hk
    · simp only [Value.ownBlock, Option.some.injEq] at hk
      subst hk
      exact ⟨cur, 56, hg', by decide, by decide, by decide⟩
  have hset : ∀ k, some (w.heap.size + 1) = some k → ∃ c t, w4.heap[k]? = some (.cells c t (0, 0)) ∧ t ≠ 69 ∧ t ≠ 71 ∧ t ≠ 79 := by
    intro k hk
    simp only [Option.some.injEq] at hk
    subst hk
    exact ⟨_, 93, hx4, by decide, by decide, by decide⟩
  have keep : ∀ {b : Nat} {s : ByteArray}, LitW w.heap.size w3 b s → LitW w.heap.size (w4.setCell ⟨w.heap.size + 1, 1, none⟩ (.slice (some ⟨gg, 0, none⟩) (j + 1) cap)) b s := fun h =>
    ((litw_all h ((Below.refl _ _).alloc (Nat.le_refl _) o)).kept hgrow hrow).kept (grown_setCell w4 (w.heap.size + 1) 1 _) hset
  refine ⟨j + 1, by simp, by omega, ⟨by omega, _, xs ++ [.pointer (some ⟨wb, 0, none⟩)], pair_set _ hx4, hown4.kept (grown_setCell w4 _ 1 _) ?_, fun t y ht => ?_⟩, ?_⟩
  · right
    intro e
    simp only [Value.ownBlock, Option.some.injEq] at e
    have h2 := hown4.2
    rcases h2 with ⟨h, _⟩ | ⟨g, cap', cur, hv, _, hg', _⟩
    · cases h
    · simp only [Value.slice.injEq, Option.some.injEq, Addr.mk.injEq] at hv
      obtain ⟨⟨rfl, _⟩, _⟩ := hv
      rw [← e] at hx4
      rw [hx4] at hg'
      simp at hg'
  · by_cases h : t < j
    · rw [List.getElem?_append_left (by omega)] at ht
      obtain ⟨b, e, hb⟩ := hall t y ht
      exact ⟨b, e, keep (litw_all hb hb3')⟩
    · rw [List.getElem?_append_right (by omega), hxl] at ht
      have e : t - j = 0 := by
        rcases Nat.eq_zero_or_pos (t - j) with e | e
        · exact e
        · rw [List.getElem?_eq_none (by simp; omega)] at ht; cases ht
      rw [e] at ht
      simp only [List.getElem?_cons_zero, Option.some.injEq] at ht
      subst ht
      obtain rfl : t = j := by omega
      exact ⟨wb, rfl, keep (hw3.same (fun k _ _ => rfl) hB)⟩
  · refine Below.setCell ?_ (p := ⟨w.heap.size + 1, 1, none⟩) (by dsimp only; omega) _
    exact below_append (hBr.trans (hb3'.mono hB)) (by omega) hown3 hgrow

set_option maxRecDepth 100000 in
set_option maxHeartbeats 2000000 in
theorem part_seq (c cap n : Nat) (x : ByteArray) (bs ks : Nat → Nat) (ss : Nat → ByteArray) (w : World) (hn : n ≤ 100) (hn1 : 1 ≤ n)
    (HC : Hid (∀ t, t < n → w.cell? ⟨c, t, none⟩ = some (.slice (some ⟨bs t, 0, none⟩) 1 (ks t))))
    (HB : Hid (∀ t, t < n → ∀ w1 : World, Below w.heap.size w w1 → Calls Tryz.prog 15 #[.slice (some ⟨bs t, 0, none⟩) 1 (ks t)] w1 fun e w' => ∃ wb, e = .returned (.pointer (some ⟨wb, 0, none⟩)) ∧ LitW w1.heap.size w' wb (ss t) ∧ Below w1.heap.size w1 w')) :
    Calls Tryz.prog 24 #[.agg #[.int .i64 8, .string x, .int .i64 0, .slice (some ⟨c, 0, none⟩) n cap, .slice none 0 0]] w fun e w' =>
      ∃ pb, e = .returned (.iface 88 (.pointer (some ⟨pb, 0, none⟩))) ∧ Below w.heap.size w w' ∧ SeqB n ss w.heap.size pb w' := by
  have lc : c < w.heap.size := World.block_lt_of_cell? w _ (HC.out 0 (by omega))
  obtain ⟨i0, hi0, hz0, hz1, hz2⟩ := info_parts Tryz.info56
  have HI := Lib.hid hi0
  have HZ0 := Lib.hid hz0
  have HZ1 := Lib.hid hz1
  have HZ2 := Lib.hid hz2
  clear hi0 hz0 hz1 hz2
  go_enter Tryz.func24, Tryz.ntmps24
  go_wp2
  go_loopw [6, 88] (fun _ i wr => ERel w.heap.size w n ss (w.heap.size + 1) i wr) (fun _ i _ => n - (intOf i).toNat)
  case atStart => exact erel_start _ _ rfl
  case round =>
    obtain ⟨j, rfl, hj, ⟨_, v, xs, hx, hown, hall⟩, hBr⟩ := hrel
    have hszr : w.heap.size ≤ wr.heap.size := hBr.size
    have hxl : w.heap.size + 1 < wr.heap.size := (Array.getElem?_eq_some_iff.1 hx).1
    obtain ⟨gc, gf, _⟩ := pair_cell hx
    have HX := Lib.hid hx
    have HO := Lib.hid hown
    have HA := Lib.hid hall
    clear hx hown hall
    by_cases hlt : j < n
    · have hce : wr.cell? ⟨c, j, none⟩ = some (.slice (some ⟨bs j, 0, none⟩) 1 (ks j)) := (hBr.cell (p := ⟨c, j, none⟩) lc).trans (HC.out j hlt)
      go_wp2
      go_region_law (first | (go_simp; go_at_call 15; refine (HB.out j hlt _ hBr.drew).mono ?_; rintro e w3 ⟨wb, rfl, hw3, hb3⟩; have hs3 : wr.heap.size ≤ w3.heap.size := hb3.size; have hz3 : w.heap.size + 1 < w3.heap.size := (by omega); have hx3 := (hb3.block (w.heap.size + 1) (by simp; omega)).trans HX.out; have gc3 := (pair_cell hx3).1; have HX3 := Lib.hid hx3; have HW3 := Lib.hid hw3; clear hx3 hw3) | (refine step_append_lies _ (by rfl) _ _ _ (by rfl) w.heap.size 56 i0 (.pointer none) 1 8 Tryz.underlying91 HI.out HZ0.out HZ1.out HZ2.out rfl (by omega) v j xs (by rfl) ((owns_below (W := wr.drew) hb3 HO.out).alloc _) ⟨w3.heap.size, 0, none⟩ 1 1 [.pointer (some ⟨wb, 0, none⟩)] (by rfl) (by rfl) (World.news_of_block (cs := #[.pointer (some ⟨wb, 0, none⟩)]) (t := 56) (fr := (0, 0)) (heap_alloc_new w3 _)) (by simp [Value.oneCell']) (by omega) (by unfold maxLen; omega) (by omega) (by simp; omega) (w3.heap.size + 1) (by simp) ?_; intro gg cap w4 hown4 hgrow hat hlt4; have hx4 := pair_kept HX3.out (owns_below (W := wr.drew) hb3 HO.out) hgrow; have gc4 := (pair_cell hx4).1; have gf4 := (pair_cell hx4).2.1; have HX4 := Lib.hid hx4; clear hx4))
      all_goals
        have HE4 := Lib.hid (erel_next (w := w) (n := n) (ss := ss) hlt hBr hszr HO.out HA.out (W := wr.drew) rfl hb3 HW3.out hown4 hgrow HX4.out)
        clear hown4 hgrow hb3 hat
        go_wp2
        go_roundw
        case rel => exact HE4.out
        case measure => simp [intOf]; omega
    · obtain rfl : j = n := by omega
      go_wp2
      go_ret
      exact ⟨_, rfl, hBr, ⟨by omega, v, xs, HX.out, HO.out, HA.out⟩⟩

theorem wordTop_any (b cp c cap n : Nat) (x : ByteArray) (bs ks : Nat → Nat) (ss : Nat → ByteArray) (w : World) (hn : n ≤ 100) (hn1 : 1 ≤ n)
    (hp : PartAt w b 8 x (.slice (some ⟨c, 0, none⟩) n cap))
    (hc : ∀ t, t < n → w.cell? ⟨c, t, none⟩ = some (.slice (some ⟨bs t, 0, none⟩) 1 (ks t)))
    (hs : ∀ t, t < n → PartAt w (bs t) 1 (ss t) (.slice none 0 0)) :
    Calls Tryz.prog 15 #[.slice (some ⟨b, 0, none⟩) 1 cp] w fun e w' => ∃ wb, e = .returned (.pointer (some ⟨wb, 0, none⟩)) ∧ w.heap.size ≤ wb ∧ WdRel w.heap.size w wb 88 (SeqB n ss) w' := by
  have lc : c < w.heap.size := World.block_lt_of_cell? w _ (hc 0 (by omega))
  refine word_one b cp 8 x (some ⟨c, 0, none⟩) n cap 88 (SeqB n ss) w (fun B B' pb w1 w2 h hb hB => h.same hb hB) hp (fun w1 hb1 => ?_)
  exact part_seq c cap n x bs ks ss w1 hn hn1 (fun t ht => (hb1.cell (p := ⟨c, t, none⟩) lc).trans (hc t ht)) (fun t ht w2 hb2 => wordPlain_any _ _ _ w2 (((hs t ht).later hb1).later hb2))
end Go.Proofs.YtphikmigopdndaaGreatFmt
