/- The contracts of spec.choices and spec.Spread at one word that is a sequence of three plain words. -/
import Derived.Test.YtphikmigopdndaaGreatFmtC
namespace Go.Proofs.YtphikmigopdndaaGreatFmt
open Go.RowKit

theorem owns_base {W : World} {base base' : Nat} (hb : base' ≤ base) {e : TypeId} {size : Nat} {v : Value} {n : Nat} {xs : List Value} (h : W.ownsRow base e size v n xs) : W.ownsRow base' e size v n xs := by
  refine ⟨h.1, ?_⟩
  rcases h.2 with hn | ⟨g, cap, cur, hv, hg, rest⟩
  · exact .inl hn
  · exact .inr ⟨g, cap, cur, hv, Nat.le_trans hb hg, rest⟩

theorem post_later {n m k : Int} {w W : World} {e : Ending} {w' : World} (hb : Below w.heap.size w W) (h : SeqPost n m k W e w') : SeqPost n m k w e w' := by
  obtain ⟨h1, h2⟩ := h
  refine ⟨hb.trans (h1.mono hb.size), ?_⟩
  rcases h2 with h2 | ⟨d, N, v, hg, he, ho⟩
  · exact .inl h2
  · exact .inr ⟨d, N, v, hg, he, owns_base hb.size ho⟩

set_option maxHeartbeats 1000000 in
theorem choices_any (c cap : Nat) (x : ByteArray) (o : Int) (sums : Value) (n m k : Int) (w : World)
    (HQ : Hid (∀ w1 : World, Below w.heap.size w w1 → Calls Tryz.prog 19 #[.agg #[.int .i64 8, .string x, .int .i64 o, .slice (some ⟨c, 0, none⟩) 3 cap, sums]] w1 (SeqPost n m k w1))) :
    Calls Tryz.prog 11 #[.agg #[.int .i64 8, .string x, .int .i64 o, .slice (some ⟨c, 0, none⟩) 3 cap, sums]] w (SeqPost n m k w) := by
  go_enter Tryz.func11, Tryz.ntmps11
  go_wp2_with fail
  refine (HQ.out _ ((Below.refl _ _).alloc (Nat.le_refl _) _)).mono ?_
  intro e w1 hP
  have hP' := post_later ((Below.refl _ _).alloc (Nat.le_refl _) _) hP
  obtain ⟨h1, h2⟩ := hP
  have HP := Lib.hid hP'
  clear hP'
  rcases h2 with rfl | ⟨d, N, v, hg, rfl, ho⟩
  · go_wp2
    go_ret2
    exact HP.out
  · go_wp2
    go_ret2
    exact HP.out

theorem owns_form {W : World} {base : Nat} {e : TypeId} {v : Value} {N : Nat} {xs : List Value} (h : W.ownsRow base e 1 v N xs) (hN : 1 ≤ N) :
    ∃ g cap, v = .slice (some ⟨g, 0, none⟩) N cap ∧ N ≤ cap ∧ base ≤ g ∧ g < W.heap.size ∧ ∀ (i : Nat) (u : Value), xs[i]? = some u → W.cell? ⟨g, i, none⟩ = some u := by
  have h' := h.2
  rcases h' with ⟨_, h0⟩ | ⟨g, cap, cur, rfl, hb, hg, hn, _⟩
  · omega
  · refine ⟨g, cap, rfl, hn, hb, (Array.getElem?_eq_some_iff.1 hg).1, fun i u hu => ?_⟩
    have := h.cells (g := g) rfl i u hu
    rwa [show ((⟨g, 0, none⟩ : Addr).add i) = ⟨g, i, none⟩ by unfold Addr.add; split <;> simp_all] at this

theorem seq_cell (n d : Int) (N j : Nat) (h : j < N) : ((seqL n d N).map Value.string)[j]? = some (.string (sI (n + (j : Int) * d))) := by
  simp [seqL, h]

def NextRel (n d : Int) (w1 : World) (N : Nat) (i v : Value) (wr : World) : Prop :=
  ∃ j : Nat, i = .int .i64 (j : Int) ∧ j ≤ N ∧ wr.ownsRow w1.heap.size 9 1 v j ((seqL n d j).map Value.string) ∧ Below w1.heap.size w1 wr

theorem next_start {n d : Int} {w1 wr : World} {N : Nat} {v : Value} (h : wr.ownsRow w1.heap.size 9 1 v 0 []) (hb : Below w1.heap.size w1 wr) : NextRel n d w1 N (.int .i64 0) v wr :=
  ⟨0, rfl, Nat.zero_le _, by simpa [seqL] using h, hb⟩

theorem next_next {n d : Int} {w1 wr : World} {N j : Nat} {v : Value} (hj : j < N) (h : wr.ownsRow w1.heap.size 9 1 v (j + 1) ((seqL n d j).map Value.string ++ [.string (sI (n + (j : Int) * d))]))
    (hb : Below w1.heap.size w1 wr) : NextRel n d w1 N (.int .i64 ((j : Int) + 1)) v wr :=
  ⟨j + 1, by simp, by omega, by rw [seqL_succ, List.map_append]; exact h, hb⟩

theorem Good.mid {n m k d : Int} {N j : Nat} (h : Good n m k d N) (hj : j < N) : -10000 < n + (j : Int) * d ∧ n + (j : Int) * d < 10000 := by
  have h0 := h.n0
  have h1 := h.n1
  have h2 := h.m0
  have h3 := h.m1
  have hk := h.k0
  rcases h.dir with ⟨hnm, rfl, _, hl⟩ | ⟨hnm, _, rfl, hN⟩
  · have a : (0 : Int) ≤ (j : Int) * d := Int.mul_nonneg (by omega) (by omega)
    have b : (j : Int) * d ≤ ((N : Int) - 1) * d := Int.mul_le_mul_of_nonneg_right (by omega) (by omega)
    omega
  · omega

def SpreadPost (n m k : Int) (w : World) (e : Ending) (w' : World) : Prop :=
  Below w.heap.size w w' ∧
  (e = .returned (.tuple #[.slice none 0 0, .bool false]) ∨
   ∃ (d : Int) (N : Nat) (v : Value), Good n m k d N ∧ N ≤ 400 ∧ e = .returned (.tuple #[v, .bool true]) ∧ w'.ownsRow w.heap.size 9 1 v N ((seqL n d N).map Value.string))

set_option maxRecDepth 100000 in
set_option maxHeartbeats 1000000 in
theorem spread_any (b cp c cap : Nat) (x : ByteArray) (o : Int) (n m k : Int) (w : World)
    (h0 : w.cell? ⟨b, 0, none⟩ = some (.int .i64 8)) (h1 : w.cell? ⟨b, 1, none⟩ = some (.string x)) (h2' : w.cell? ⟨b, 2, none⟩ = some (.int .i64 o))
    (h3 : w.cell? ⟨b, 3, none⟩ = some (.slice (some ⟨c, 0, none⟩) 3 cap)) (h4 : w.cell? ⟨b, 4, none⟩ = some (.slice none 0 0))
    (HQ : Hid (∀ w1 : World, Below w.heap.size w w1 → Calls Tryz.prog 11 #[.agg #[.int .i64 8, .string x, .int .i64 o, .slice (some ⟨c, 0, none⟩) 3 cap, .slice none 0 0]] w1 (SeqPost n m k w1))) :
    Calls Tryz.prog 5 #[.slice (some ⟨b, 0, none⟩) 1 cp] w (SpreadPost n m k w) := by
  have lb := World.block_lt_of_cell? w _ h0
  dsimp only at lb
  obtain ⟨i0, hi0, hz0', hz1, hz2⟩ := info_parts Tryz.info9
  have HI := Lib.hid hi0
  have HZ0 := Lib.hid hz0'
  have HZ1 := Lib.hid hz1
  have HZ2 := Lib.hid hz2
  clear hi0 hz0' hz1 hz2
  have hcat : ∀ s : ByteArray, (⟨#[]⟩ : ByteArray) ++ s = s := fun s => ByteArray.empty_append
  go_enter Tryz.func5, Tryz.ntmps5
  go_wp2
  refine wp_loop_rounds 2 ?_
  rw [rounds_succ]
  go_wp2_with fail
  refine (HQ.out _ (((Below.refl _ _).alloc (Nat.le_refl _) _).alloc (by simp) _)).mono ?_
  intro e w1 hP
  obtain ⟨hb, h2⟩ := hP
  have hB : Below w.heap.size w w1 := (((Below.refl _ w).alloc (Nat.le_refl _) (.cells #[.string ⟨#[]⟩] 9)).alloc (by simp) _).trans (hb.mono (by simp; omega))
  have hs0 : w1.cell? ⟨w.heap.size, 0, none⟩ = some (.string ⟨#[]⟩) := by rw [hb.cell (by simp; omega)]; go_simp
  have hz : w.heap.size + 1 < w1.heap.size := by have := hb.size; simp at this; omega
  have hz0 : w.heap.size < w1.heap.size := by omega
  have HB := Lib.hid hb
  clear hb h0 h1 h2' h3 h4
  rcases h2 with rfl | ⟨d, N, v, hg, rfl, ho⟩
  · go_wp2
    go_ret2
    exact ⟨hB, .inl rfl⟩
  · have HG := Lib.hid hg
    have hN := hg.most
    have hN1 := hg.pos
    clear hg
    have HO := Lib.hid ho
    obtain ⟨g, cp', rfl, hcp, hgb, hgl, hcells⟩ := owns_form ho hN1
    have HC := Lib.hid hcells
    clear ho hcells
    go_wp2
    refine wp_loop_rounds 2 ?_
    rw [rounds_succ]
    go_wp2
    go_loopw [9, 13, 37] (fun v _ i wr => NextRel n d w1 N i v wr) (fun _ _ i _ => N - (intOf i).toNat)
    case atStart => exact next_start (World.ownsRow_made w1 #[] 0 (Nat.le_refl _) (by decide) rfl) ((Below.refl _ _).alloc (Nat.le_refl _) _)
    case round =>
      obtain ⟨j, rfl, hj, hown, hBr⟩ := hrel
      have hszr : w1.heap.size ≤ wr.heap.size := hBr.size
      by_cases hlt : j < N
      · have hce : wr.cell? ⟨g, j, none⟩ = some (.string (sI (n + (j : Int) * d))) := (hBr.cell (p := ⟨g, j, none⟩) hgl).trans (HC.out j _ (seq_cell n d N j hlt))
        have hmid := HG.out.mid hlt
        have hsi := sI_max (n + (j : Int) * d) (by omega) (by omega)
        have HOw := Lib.hid hown
        clear hown hmid
        go_wp2_with (at_builtin; refine wpList_append_own _ rfl _ _ 23 rfl w1.heap.size 9 i0 (.string ⟨#[]⟩) 1 16 Tryz.underlying23 HI.out HZ0.out HZ1.out HZ2.out rfl (by decide) _ _ _ rfl (HOw.out.alloc _) ⟨wr.heap.size, 0, none⟩ 1 1 [.string (sI (n + (j : Int) * d))] rfl rfl (cell_one_new _ _ _) (by simp [Value.oneCell']) (by unfold maxLen; omega) (by omega) (by simp; omega) ?_; intro v' w4 hown4 hgrow _)
        have hB4 : Below w1.heap.size w1 w4 := below_append hBr hszr HOw.out hgrow
        go_roundw
        case rel => exact next_next hlt hown4 hB4
        case measure => simp [intOf]; omega
      · obtain rfl : j = N := by omega
        obtain ⟨g2, cp2, rfl, _, _, _, _⟩ := owns_form hown hN1
        have HOw := Lib.hid hown
        clear hown
        have hBf : Below w.heap.size w wr := hB.trans (hBr.mono (B' := w.heap.size) (by omega))
        by_cases h400 : j ≤ 400
        · go_wp2
          rw [rounds_succ]
          go_wp2
          rw [rounds_succ]
          go_wp2
          go_ret2
          exact ⟨hBf, .inr ⟨d, j, _, HG.out, h400, rfl, owns_base (by omega) HOw.out⟩⟩
        · go_wp2
          rw [rounds_succ]
          go_wp2
          go_ret2
          exact ⟨hBf, .inl rfl⟩
end Go.Proofs.YtphikmigopdndaaGreatFmt
