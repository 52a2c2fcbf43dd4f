/- The contract of laws.FnSequence: it answers true. -/
import Derived.Test.YtphikmigopdndaaGreatFmtO
import Derived.Lib.SmallJoins
namespace Go.Proofs.YtphikmigopdndaaGreatFmt
open Go.RowKit

/-- the word of the law: one sequence of three plain words -/
structure InAt (n m k : Int) (b c x0 x1 x2 : Nat) (w : World) : Prop where
  top : PartAt w b 8 ⟨#[]⟩ (.slice (some ⟨c, 0, none⟩) 3 3)
  c0 : w.cell? ⟨c, 0, none⟩ = some (.slice (some ⟨x0, 0, none⟩) 1 1)
  c1 : w.cell? ⟨c, 1, none⟩ = some (.slice (some ⟨x1, 0, none⟩) 1 1)
  c2 : w.cell? ⟨c, 2, none⟩ = some (.slice (some ⟨x2, 0, none⟩) 1 1)
  p0 : PartAt w x0 1 (sI n) (.slice none 0 0)
  p1 : PartAt w x1 1 (sI m) (.slice none 0 0)
  p2 : PartAt w x2 1 (sI k) (.slice none 0 0)

theorem InAt.later {n m k : Int} {b c x0 x1 x2 : Nat} {w w' : World} (h : InAt n m k b c x0 x1 x2 w) (hb : Below w.heap.size w w') : InAt n m k b c x0 x1 x2 w' := by
  have lc : c < w.heap.size := World.block_lt_of_cell? w _ h.c0
  exact ⟨h.top.later hb, (hb.cell (p := ⟨c, 0, none⟩) lc).trans h.c0, (hb.cell (p := ⟨c, 1, none⟩) lc).trans h.c1, (hb.cell (p := ⟨c, 2, none⟩) lc).trans h.c2, h.p0.later hb, h.p1.later hb, h.p2.later hb⟩

def three {α : Type} (a b c : α) (t : Nat) : α := match t with
  | 0 => a
  | 1 => b
  | _ => c

theorem InAt.cs {n m k : Int} {b c x0 x1 x2 : Nat} {w : World} (h : InAt n m k b c x0 x1 x2 w) : ∀ t, t < 3 → w.cell? ⟨c, t, none⟩ = some (.slice (some ⟨three x0 x1 x2 t, 0, none⟩) 1 ((fun _ => 1) t)) := by
  intro t ht
  have : t = 0 ∨ t = 1 ∨ t = 2 := by omega
  rcases this with rfl | rfl | rfl
  · exact h.c0
  · exact h.c1
  · exact h.c2

theorem InAt.ps {n m k : Int} {b c x0 x1 x2 : Nat} {w : World} (h : InAt n m k b c x0 x1 x2 w) : ∀ t, t < 3 → PartAt w (three x0 x1 x2 t) 1 (three (sI n) (sI m) (sI k) t) (.slice none 0 0) := by
  intro t ht
  have : t = 0 ∨ t = 1 ∨ t = 2 := by omega
  rcases this with rfl | rfl | rfl
  · exact h.p0
  · exact h.p1
  · exact h.p2

theorem five_cells {w : World} {B : Nat} {v : Value} {a0 a1 a2 a3 a4 : Value} (h : w.ownsRow B 45 5 v 1 [a0, a1, a2, a3, a4]) :
    ∃ g cap, v = .slice (some ⟨g, 0, none⟩) 1 cap ∧ w.cell? ⟨g, 0, none⟩ = some a0 ∧ w.cell? ⟨g, 1, none⟩ = some a1 ∧ w.cell? ⟨g, 2, none⟩ = some a2 ∧ w.cell? ⟨g, 3, none⟩ = some a3 ∧ w.cell? ⟨g, 4, none⟩ = some a4 := by
  rcases h.2 with ⟨_, h0⟩ | ⟨g, cap, cur, rfl, hb, hg, hn, _⟩
  · omega
  · have key : ∀ (i : Nat) (u : Value), [a0, a1, a2, a3, a4][i]? = some u → w.cell? ⟨g, i, none⟩ = some u := fun i u hu => by
      have := h.cells (g := g) rfl i u hu
      rwa [show ((⟨g, 0, none⟩ : Addr).add i) = ⟨g, i, none⟩ by unfold Addr.add; split <;> simp_all] at this
    exact ⟨g, cap, rfl, key 0 _ rfl, key 1 _ rfl, key 2 _ rfl, key 3 _ rfl, key 4 _ rfl⟩

theorem spread_of {n m k : Int} {b c x0 x1 x2 : Nat} {W : World} (h : InAt n m k b c x0 x1 x2 W) (n0 : Nat) (hT : Tab n0 W) (r1 : -1000000 < n) (r2 : n < 1000000) (r3 : -1000000 < m) (r4 : m < 1000000) (r5 : 0 ≤ k) (r6 : k < 256) :
    Calls Tryz.prog 6 #[.slice (some ⟨b, 0, none⟩) 1 1] W fun e w' => ∃ v, e = .returned v ∧ Below W.heap.size W w' ∧ Calls Tryz.prog 5 #[v] w' (SpreadPost n m k w') := by
  refine (specTop_any b 1 c 3 3 ⟨#[]⟩ (three x0 x1 x2) (fun _ => 1) (three (sI n) (sI m) (sI k)) W (by omega) (by omega) h.top h.cs h.ps).mono ?_
  rintro e w' ⟨v, u, rfl, hv, ⟨xs, hu, hall⟩, hb⟩
  obtain ⟨g, cap, rfl, q0, q1, q2, q3, q4⟩ := five_cells hv
  obtain ⟨gc, capc, rfl, _, _, _, hgc⟩ := owns_form hu (by omega)
  have hl : xs.length = 3 := hu.1
  match xs, hl with
  | [y0, y1, y2], _ =>
    obtain ⟨z0, h0⟩ := hall 0 y0 rfl
    obtain ⟨z1, h1⟩ := hall 1 y1 rfl
    obtain ⟨z2, h2⟩ := hall 2 y2 rfl
    obtain ⟨g0, k0, rfl, a0, a1, _⟩ := five_cells h0
    obtain ⟨g1, k1, rfl, b0, b1, _⟩ := five_cells h1
    obtain ⟨g2, k2, rfl, d0, d1, _⟩ := five_cells h2
    have e0 := hgc 0 _ rfl
    have e1 := hgc 1 _ rfl
    have e2 := hgc 2 _ rfl
    refine ⟨_, rfl, hb, spread_any g cap gc capc ⟨#[]⟩ 0 n m k w' q0 q1 q2 q3 q4 (Lib.hid (fun w1 hb1 => choices_any gc capc ⟨#[]⟩ 0 (.slice none 0 0) n m k w1 (Lib.hid (fun w2 hb2 => ?_))))⟩
    have hB : Below w'.heap.size w' w2 := hb1.trans (hb2.mono hb1.size)
    have cell : ∀ (x o : Nat) (y : Value), w'.cell? ⟨x, o, none⟩ = some y → w2.cell? ⟨x, o, none⟩ = some y := fun x o y hy => (hB.cell (p := ⟨x, o, none⟩) (World.block_lt_of_cell? w' _ hy)).trans hy
    refine seq_any gc capc g0 g1 g2 k0 k1 k2 ⟨#[]⟩ (.slice none 0 0) n m k n0 w2 0 ((hT.all hb).all hB) (cell _ _ _ e0) (cell _ _ _ e1) (cell _ _ _ e2) (cell _ _ _ a0) (cell _ _ _ a1) (cell _ _ _ b0) (cell _ _ _ b1) (cell _ _ _ d0) (cell _ _ _ d1)
      (inB n m) (Lib.hid (fun w => bounds_any n m w r1 r2 r3 r4)) (Lib.hid (fun w => digits_pos k false r5 (by omega) w)) r1 r2 r3 r4 r5 r6 ?_ _ rfl
    by_cases hin : -10000 < n ∧ n < 10000 ∧ -10000 < m ∧ m < 10000
    · have he : inB n m = true := decide_eq_true hin
      rcases Int.lt_or_le k 1 with hk | hk
      · exact .inr (.inl ⟨he, by omega⟩)
      · exact .inr (.inr ⟨he, hk, hin.1, hin.2.1, hin.2.2.1, hin.2.2.2⟩)
    · exact .inl (decide_eq_false hin)

theorem braces_of {n m k d : Int} {N b c x0 x1 x2 : Nat} {W : World} (h : InAt n m k b c x0 x1 x2 W) (n0 : Nat) (hT : Tab n0 W) (hg : Good n m k d N) :
    Calls Tryz.prog 8 #[.slice (some ⟨b, 0, none⟩) 1 1] W fun e w' => ∃ v, e = .returned (.agg #[v, .int .i64 0, .int .i64 0, .slice none 0 0]) ∧ w'.ownsRow W.heap.size 9 1 v N ((seqL n d N).map Value.string) ∧ Below W.heap.size W w' := by
  have r1 := hg.n0
  have r2 := hg.n1
  have r3 := hg.m0
  have r4 := hg.m1
  have r5 := hg.k0
  have r6 := hg.k1
  refine braces_any b 1 n m k d N hg n0 W hT (Lib.hid (fun w1 hb1 => ?_))
  have h' := h.later hb1
  refine (wordTop_any b 1 c 3 3 ⟨#[]⟩ (three x0 x1 x2) (fun _ => 1) (three (sI n) (sI m) (sI k)) w1 (by omega) (by omega) h'.top h'.cs h'.ps).mono ?_
  rintro e w' ⟨nb, rfl, _, hw⟩
  have hb : Below w1.heap.size w1 w' := by obtain ⟨_, _, _, _, _, hb⟩ := hw; exact hb
  exact ⟨nb, rfl, hb, topAt_of hw rfl rfl rfl (by omega) (by omega) (by omega) (by omega) (by omega) (by omega)⟩

abbrev wordO (s : ByteArray) : Obj := .cells #[.int .i64 1, .string s, .int .i64 0, .slice none 0 0, .slice none 0 0] 40

theorem part_of_heap {w : World} {b : Nat} {κ : Int} {s : ByteArray} {wd : Value} {t : TypeId} (h : w.heap[b]? = some (.cells #[.int .i64 κ, .string s, .int .i64 0, wd, .slice none 0 0] t (0, 0))) : PartAt w b κ s wd := by
  refine ⟨?_, ?_, ?_, ?_, ?_⟩ <;> simp [World.cell?, h]

theorem in_of {n m k : Int} {w w1 w2 w3 : World} (hb1 : Below w.heap.size w w1) (hb2 : Below (w1.alloc (wordO (sI n))).heap.size (w1.alloc (wordO (sI n))) w2) (hb3 : Below (w2.alloc (wordO (sI m))).heap.size (w2.alloc (wordO (sI m))) w3) :
    let W := ((w3.alloc (wordO (sI k))).alloc (.cells #[.slice (some ⟨w1.heap.size, 0, none⟩) 1 1, .slice (some ⟨w2.heap.size, 0, none⟩) 1 1, .slice (some ⟨w3.heap.size, 0, none⟩) 1 1] 22)).alloc
      (.cells #[.int .i64 8, .string ⟨#[]⟩, .int .i64 0, .slice (some ⟨w3.heap.size + 1, 0, none⟩) 3 3, .slice none 0 0] 40)
    InAt n m k (w3.heap.size + 1 + 1) (w3.heap.size + 1) w1.heap.size w2.heap.size w3.heap.size W ∧ Below w.heap.size w W := by
  intro W
  have s2 := hb2.size
  have s3 := hb3.size
  rw [World.size_alloc] at s2 s3
  have a1 : w1.heap.size < w2.heap.size := by omega
  have a2 : w2.heap.size < w3.heap.size := by omega
  have hB3 : Below w3.heap.size w3 W := (((Below.refl _ w3).alloc (Nat.le_refl _) _).alloc (by simp) _).alloc (by simp; omega) _
  have e3 : W.heap[w3.heap.size]? = some (wordO (sI k)) := (Below.heap_alloc _ _ _ (by simp; omega)).trans ((Below.heap_alloc _ _ _ (by simp)).trans (new_at2 _ _ rfl))
  have ec : W.heap[w3.heap.size + 1]? = some (.cells #[.slice (some ⟨w1.heap.size, 0, none⟩) 1 1, .slice (some ⟨w2.heap.size, 0, none⟩) 1 1, .slice (some ⟨w3.heap.size, 0, none⟩) 1 1] 22) :=
    (Below.heap_alloc _ _ _ (by simp)).trans (new_at2 _ _ (by simp))
  have eb : W.heap[w3.heap.size + 1 + 1]? = some (.cells #[.int .i64 8, .string ⟨#[]⟩, .int .i64 0, .slice (some ⟨w3.heap.size + 1, 0, none⟩) 3 3, .slice none 0 0] 40) := new_at2 _ _ (by simp)
  have e2 : W.heap[w2.heap.size]? = some (wordO (sI m)) := (hB3.block _ a2).trans ((hb3.block _ (by simp)).trans (new_at2 _ _ rfl))
  have e1 : W.heap[w1.heap.size]? = some (wordO (sI n)) := (hB3.block _ (by omega)).trans ((hb3.block _ (by simp; omega)).trans ((Below.heap_alloc _ _ _ a1).trans ((hb2.block _ (by simp)).trans (new_at2 _ _ rfl))))
  refine ⟨⟨part_of_heap eb, by simp [World.cell?, ec], by simp [World.cell?, ec], by simp [World.cell?, ec], part_of_heap e1, part_of_heap e2, part_of_heap e3⟩, ?_⟩
  have s1 := hb1.size
  exact ((((hb1.alloc s1 _).trans (hb2.mono (by simp; omega))).alloc (by omega) _).trans (hb3.mono (by simp; omega))).trans (hB3.mono (by omega))

set_option maxRecDepth 100000 in
set_option maxHeartbeats 2000000 in
theorem law_any (n m k : Int) (r1 : -32768 ≤ n) (r2 : n ≤ 32767) (r3 : -32768 ≤ m) (r4 : m ≤ 32767) (r5 : 0 ≤ k) (r6 : k ≤ 255) (n0 : Nat) (w : World) (hT : Tab n0 w) :
    Calls Tryz.prog 4 #[.int .i16 n, .int .i16 m, .int .u8 k] w fun e w' => e = .returned (.bool true) ∧ Below w.heap.size w w' := by
  go_enter Tryz.func4, Tryz.ntmps4
  go_wp2_with fail
  refine (itoa_any n (by omega) (by omega) n0 w hT).mono ?_
  rintro e w1 ⟨rfl, hb1⟩
  have hT1 := hT.all hb1
  have hB1 : Below w1.heap.size w1 (w1.alloc (.cells #[.int .i64 1, .string (sI n), .int .i64 0, .slice none 0 0, .slice none 0 0] 40)) := (Below.refl _ w1).alloc (Nat.le_refl _) _
  go_wp2_with fail
  refine (itoa_any m (by omega) (by omega) n0 _ (hT1.all hB1)).mono ?_
  rintro e w2 ⟨rfl, hb2⟩
  have hT2 := (hT1.all hB1).all hb2
  have hB2 : Below w2.heap.size w2 (w2.alloc (.cells #[.int .i64 1, .string (sI m), .int .i64 0, .slice none 0 0, .slice none 0 0] 40)) := (Below.refl _ w2).alloc (Nat.le_refl _) _
  go_wp2_with fail
  refine (itoa_any k (by omega) (by omega) n0 _ (hT2.all hB2)).mono ?_
  rintro e w3 ⟨rfl, hb3⟩
  have hT3 := (hT2.all hB2).all hb3
  go_wp2_with fail
  obtain ⟨hin, hB⟩ := in_of (k := k) hb1 hb2 hb3
  revert hin hB
  generalize ((w3.alloc (.cells #[.int .i64 1, .string (sI k), .int .i64 0, .slice none 0 0, .slice none 0 0] 40)).alloc (.cells #[.slice (some ⟨w1.heap.size, 0, none⟩) 1 1, .slice (some ⟨w2.heap.size, 0, none⟩) 1 1, .slice (some ⟨w3.heap.size, 0, none⟩) 1 1] 22)).alloc
      (.cells #[.int .i64 8, .string ⟨#[]⟩, .int .i64 0, .slice (some ⟨w3.heap.size + 1, 0, none⟩) 3 3, .slice none 0 0] 40) = W
  intro hin hB
  have hTW := hT.all hB
  have HIn := Lib.hid hin
  clear hb1 hb2 hb3 hT1 hT2 hT3 hB1 hB2 hin
  refine (spread_of HIn.out n0 hTW (by omega) (by omega) (by omega) (by omega) r5 (by omega)).mono ?_
  rintro e w4 ⟨v, rfl, hb4, hsp⟩
  have HSp := Lib.hid hsp
  clear hsp
  go_wp2_with fail
  refine HSp.out.mono ?_
  rintro e w5 ⟨hb5, hres⟩
  have hB5 : Below W.heap.size W w5 := hb4.trans (hb5.mono hb4.size)
  have hBw : Below w.heap.size w w5 := hB.trans (hB5.mono hB.size)
  have HT := Lib.hid (hTW.all hB5)
  have HI5 := Lib.hid (HIn.out.later hB5)
  clear HSp HIn hb4 hb5 hB5 hB hTW
  rcases hres with rfl | ⟨d, N, v2, hg, hN4, rfl, hown⟩
  · go_wp2
    go_ret
    exact ⟨rfl, hBw⟩
  · have hN1 := hg.pos
    obtain ⟨g1, c1, rfl, _, _, _, hcs1⟩ := owns_form hown hN1
    have HO := Lib.hid hcs1
    have HG := Lib.hid hg
    clear hcs1 hown hg
    go_wp2_with fail
    refine (braces_of HI5.out n0 HT.out HG.out).mono ?_
    rintro e w6 ⟨v3, rfl, hown3, hb6⟩
    obtain ⟨g3, c3, rfl, _, _, _, hcs3⟩ := owns_form hown3 hN1
    have hBw6 := hBw.trans (hb6.mono hBw.size)
    have hb7 : Below w6.heap.size w6 (w6.alloc (.cells #[.slice (some ⟨g3, 0, none⟩) N c3, .int .i64 0, .int .i64 0, .slice none 0 0] 31)) := (Below.refl _ w6).alloc (Nat.le_refl _) _
    have HB6 := Lib.hid hb6
    have HO3 := Lib.hid hcs3
    clear hb6 hcs3 hown3
    go_wp2_with fail
    refine (same_any g3 g1 c3 c1 (seqL n d N) N (seqL_len n d N) (by omega) _ ?_ ?_).mono ?_
    · intro i hi
      rw [seqL_get n d N i hi]
      have := HO3.out i _ (seq_cell n d N i hi)
      exact (hb7.cell (p := ⟨g3, i, none⟩) (World.block_lt_of_cell? w6 _ this)).trans this
    · intro i hi
      rw [seqL_get n d N i hi]
      have := HO.out i _ (seq_cell n d N i hi)
      have h6 := (HB6.out.cell (p := ⟨g1, i, none⟩) (World.block_lt_of_cell? w5 _ this)).trans this
      exact (hb7.cell (p := ⟨g1, i, none⟩) (World.block_lt_of_cell? w6 _ h6)).trans h6
    · rintro e w7 ⟨rfl, rfl⟩
      go_wp2
      go_ret
      exact ⟨rfl, hBw6.trans (hb7.mono hBw6.size)⟩
end Go.Proofs.YtphikmigopdndaaGreatFmt
