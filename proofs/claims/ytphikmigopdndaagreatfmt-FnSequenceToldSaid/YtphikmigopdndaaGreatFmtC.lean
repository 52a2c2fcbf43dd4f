/- The contract of spec.sequence at three plain words that Itoa wrote: it leaves the sequence out, or hands back the numerals from one end to the other. -/
import Derived.Test.YtphikmigopdndaaGreatFmtB
import Derived.Deep.RegionHeld3
namespace Go.Proofs.YtphikmigopdndaaGreatFmt
open Go.RowKit

/-- what lies from n on, by steps of d: N texts -/
def seqL (n d : Int) (N : Nat) : List ByteArray := (List.range N).map fun (j : Nat) => sI (n + (j : Int) * d)

theorem seqL_len (n d : Int) (N : Nat) : (seqL n d N).length = N := by simp [seqL]
theorem seqL_succ (n d : Int) (N : Nat) : seqL n d (N + 1) = seqL n d N ++ [sI (n + (N : Int) * d)] := by
  simp [seqL, List.range_succ]
theorem seqL_get (n d : Int) (N i : Nat) (h : i < N) : (seqL n d N)[i]?.getD ByteArray.empty = sI (n + (i : Int) * d) := by
  simp [seqL, h]

/-- the sequence is one that the reference tells: its ends, its step, how many texts it has -/
structure Good (n m k d : Int) (N : Nat) : Prop where
  n0 : -10000 < n
  n1 : n < 10000
  m0 : -10000 < m
  m1 : m < 10000
  k0 : 1 ≤ k
  k1 : k < 256
  pos : 1 ≤ N
  most : N ≤ 401
  dir : (n ≤ m ∧ d = k ∧ m < n + (N : Int) * k ∧ n + ((N : Int) - 1) * k ≤ m) ∨ (m < n ∧ k = 1 ∧ d = -1 ∧ (N : Int) = n - m + 1)

/-- what spec.sequence comes to -/
def SeqPost (n m k : Int) (w : World) (e : Ending) (w' : World) : Prop :=
  Below w.heap.size w w' ∧
  (e = .returned (.tuple #[.slice none 0 0, .bool false]) ∨
   ∃ (d : Int) (N : Nat) (v : Value), Good n m k d N ∧ e = .returned (.tuple #[v, .bool true]) ∧ w'.ownsRow w.heap.size 9 1 v N ((seqL n d N).map Value.string))

theorem Tryz.info9 : (Tryz.prog.info? 9).map (fun i => (i.zero, i.size, i.bytes)) = some (some (.string ⟨#[]⟩), 1, 16) := by kernel_rfl

theorem bcell {W w1 : World} (hb : Below W.heap.size W w1) : (∀ b o, b < W.heap.size → w1.cell? ⟨b, o, none⟩ = W.cell? ⟨b, o, none⟩) ∧ (∀ b o, b < W.heap.size → w1.frozen? ⟨b, o, none⟩ = W.frozen? ⟨b, o, none⟩) :=
  ⟨fun b o h => hb.cell (p := ⟨b, o, none⟩) h, fun b o h => hb.frozen (p := ⟨b, o, none⟩) h⟩

/-- the loop of an upward sequence, j texts being written: the next number is q -/
def UpRel (n0 B : Nat) (n m k : Int) (w : World) (p v : Value) (wr : World) : Prop :=
  ∃ (j : Nat) (q : Int), p = .int .i64 q ∧ q = n + (j : Int) * k ∧ n ≤ q ∧ q ≤ m + k ∧ (j = 0 ∨ n + ((j : Int) - 1) * k ≤ m) ∧
    wr.ownsRow B 9 1 v j ((seqL n k j).map Value.string) ∧ Below B w wr ∧ Tab n0 wr

/-- the loop of a downward one -/
def DownRel (n0 B : Nat) (n m : Int) (w : World) (p v : Value) (wr : World) : Prop :=
  ∃ (j : Nat) (q : Int), p = .int .i64 q ∧ q = n - (j : Int) ∧ q ≤ n ∧ m - 1 ≤ q ∧
    wr.ownsRow B 9 1 v j ((seqL n (-1) j).map Value.string) ∧ Below B w wr ∧ Tab n0 wr

theorem up_few {n m k q : Int} {j : Nat} (hk : 1 ≤ k) (hq : q = n + (j : Int) * k) (hle : q ≤ m) (h : (m - n).tdiv k ≤ 400) (hnm : n ≤ m) : j ≤ 400 := by
  rw [Int.tdiv_eq_ediv_of_nonneg (by omega)] at h
  have h1 : (j : Int) * k ≤ m - n := by omega
  have h2 : (j : Int) ≤ (m - n) / k := (Int.le_ediv_iff_mul_le (by omega)).2 h1
  omega

theorem grown_of_below {W w1 : World} (hb : Below W.heap.size W w1) (row : Option Nat) : W.grownBy w1 row := ⟨hb.os, hb.tape, hb.output, hb.size, fun k hk _ => hb.block k hk⟩

theorem owns_below {W w1 : World} (hb : Below W.heap.size W w1) {base : Nat} {e : TypeId} {size : Nat} {v : Value} {n : Nat} {xs : List Value} (h : W.ownsRow base e size v n xs) : w1.ownsRow base e size v n xs := by
  refine h.kept (row := none) (grown_of_below hb none) ?_
  cases hv : v.ownBlock with
  | none => exact .inl rfl
  | some g => exact .inr (by simp)

/-- what is appended to owned memory -/
theorem below_append {B : Nat} {w0 W w2 : World} {v : Value} {e : TypeId} {size n : Nat} {xs : List Value} {o : Obj} (hb : Below B w0 W) (hB : B ≤ W.heap.size)
    (hown : W.ownsRow B e size v n xs) (hg : (W.alloc o).grownBy w2 v.ownBlock) : Below B w0 w2 := by
  refine (hb.alloc hB o).grown hg (by simp; omega) ?_
  intro k hk
  exact (hown.lt k hk).1

theorem up_start {n0 : Nat} {n m k : Int} {w W : World} {v : Value} (hnm : n ≤ m) (hk : 1 ≤ k) (hB : Below w.heap.size w W) (hT : Tab n0 W) (hown : W.ownsRow w.heap.size 9 1 v 0 []) :
    UpRel n0 w.heap.size n m k w (.int .i64 n) v W :=
  ⟨0, n, rfl, by simp, by omega, by omega, .inl rfl, by simpa [seqL] using hown, hB, hT⟩

theorem up_next {n0 B : Nat} {n m k q : Int} {j : Nat} {w w' : World} {v' : Value} (hk : 1 ≤ k) (hq : q = n + (j : Int) * k) (hn : n ≤ q) (hle : q ≤ m)
    (hown : w'.ownsRow B 9 1 v' (j + 1) ((seqL n k j).map Value.string ++ [.string (sI q)])) (hB : Below B w w') (hT : Tab n0 w') :
    UpRel n0 B n m k w (.int .i64 (q + k)) v' w' := by
  refine ⟨j + 1, q + k, rfl, ?_, by omega, by omega, .inr ?_, ?_, hB, hT⟩
  · rw [hq]; simp [Int.add_mul]; omega
  · rw [show ((j + 1 : Nat) : Int) - 1 = (j : Int) by omega, ← hq]; exact hle
  · rw [seqL_succ, List.map_append, ← hq]; exact hown

theorem up_end {n m k q : Int} {j : Nat} (h1 : -10000 < n) (h2 : n < 10000) (h3 : -10000 < m) (h4 : m < 10000) (hk : 1 ≤ k) (hk1 : k < 256) (hnm : n ≤ m)
    (hq : q = n + (j : Int) * k) (hgt : m < q) (hlast : j = 0 ∨ n + ((j : Int) - 1) * k ≤ m) (hquo : (m - n).tdiv k ≤ 400) : Good n m k k j := by
  have hj : j ≠ 0 := by rintro rfl; simp at hq; omega
  have hl : n + ((j : Int) - 1) * k ≤ m := hlast.resolve_left hj
  have hm : j - 1 ≤ 400 := up_few (n := n) (m := m) (q := n + ((j : Int) - 1) * k) (j := j - 1) hk (by rw [show ((j - 1 : Nat) : Int) = (j : Int) - 1 by omega]) hl hquo hnm
  exact ⟨h1, h2, h3, h4, hk, hk1, by omega, by omega, .inl ⟨hnm, rfl, by omega, hl⟩⟩

theorem down_start {n0 : Nat} {n m : Int} {w W : World} {v : Value} (hnm : m < n) (hB : Below w.heap.size w W) (hT : Tab n0 W) (hown : W.ownsRow w.heap.size 9 1 v 0 []) :
    DownRel n0 w.heap.size n m w (.int .i64 n) v W :=
  ⟨0, n, rfl, by simp, by omega, by omega, by simpa [seqL] using hown, hB, hT⟩

theorem down_next {n0 B : Nat} {n m q k : Int} {j : Nat} {w w' : World} {v' : Value} (hk : k = 1) (hq : q = n - (j : Int)) (_hn : q ≤ n) (hle : m ≤ q)
    (hown : w'.ownsRow B 9 1 v' (j + 1) ((seqL n (-1) j).map Value.string ++ [.string (sI q)])) (hB : Below B w w') (hT : Tab n0 w') :
    DownRel n0 B n m w (.int .i64 (q + -k)) v' w' := by
  subst hk
  refine ⟨j + 1, q + -1, rfl, by omega, by omega, by omega, ?_, hB, hT⟩
  rw [seqL_succ, List.map_append, show n + (j : Int) * -1 = q by omega]
  exact hown

theorem down_end {n m q k : Int} {j : Nat} (hk : k = 1) (h1 : -10000 < n) (h2 : n < 10000) (h3 : -10000 < m) (h4 : m < 10000) (hnm : m < n)
    (hq : q = n - (j : Int)) (hgt : q < m) (hge : m - 1 ≤ q) (hquo : (n - m).tdiv k ≤ 400) : Good n m k (-1) j := by
  subst hk
  rw [Int.tdiv_one] at hquo
  exact ⟨h1, h2, h3, h4, by omega, by omega, by omega, by omega, .inr ⟨hnm, rfl, rfl, by omega⟩⟩

theorem post_no {n m k : Int} {w w' : World} (hb : Below w.heap.size w w') : SeqPost n m k w (.returned (.tuple #[.slice none 0 0, .bool false])) w' := ⟨hb, .inl rfl⟩
theorem post_yes {n m k d : Int} {w w' : World} {v : Value} {N : Nat} (hb : Below w.heap.size w w') (hg : Good n m k d N) (ho : w'.ownsRow w.heap.size 9 1 v N ((seqL n d N).map Value.string)) :
    SeqPost n m k w (.returned (.tuple #[v, .bool true])) w' := ⟨hb, .inr ⟨d, N, v, hg, rfl, ho⟩⟩


set_option maxRecDepth 100000 in
set_option maxHeartbeats 4000000 in
theorem seq_any (c cap b0 b1 b2 k0 k1 k2 : Nat) (x : ByteArray) (sums : Value) (n m k : Int) (n0 : Nat) (w : World) (o : Int) (hT : Tab n0 w)
    (hc0 : w.cell? ⟨c, 0, none⟩ = some (.slice (some ⟨b0, 0, none⟩) 1 k0))
    (hc1 : w.cell? ⟨c, 1, none⟩ = some (.slice (some ⟨b1, 0, none⟩) 1 k1))
    (hc2 : w.cell? ⟨c, 2, none⟩ = some (.slice (some ⟨b2, 0, none⟩) 1 k2))
    (h00 : w.cell? ⟨b0, 0, none⟩ = some (.int .i64 1)) (h01 : w.cell? ⟨b0, 1, none⟩ = some (.string (sI n)))
    (h10 : w.cell? ⟨b1, 0, none⟩ = some (.int .i64 1)) (h11 : w.cell? ⟨b1, 1, none⟩ = some (.string (sI m)))
    (h20 : w.cell? ⟨b2, 0, none⟩ = some (.int .i64 1)) (h21 : w.cell? ⟨b2, 1, none⟩ = some (.string (sI k)))
    (bb : Bool) (HB : Hid (∀ w : World, Calls Tryz.prog 27 #[.string (sI n), .string (sI m)] w fun e w' => e = .returned (.tuple #[.int .i64 n, .int .i64 m, .bool false, .bool bb]) ∧ Below w.heap.size w w'))
    (HD : Hid (∀ w : World, Calls Tryz.prog 29 #[.string (sI k), .bool false] w fun e w' => e = .returned (.tuple #[.int .i64 k, .bool true]) ∧ Below w.heap.size w w'))
    (hn0 : -1000000 < n) (hn1 : n < 1000000) (hm0 : -1000000 < m) (hm1 : m < 1000000) (hk0 : 0 ≤ k) (hk1 : k < 256)
    (hcase : bb = false ∨ (bb = true ∧ k ≤ 0) ∨ (bb = true ∧ 1 ≤ k ∧ -10000 < n ∧ n < 10000 ∧ -10000 < m ∧ m < 10000)) (mn : Bool) (hmn : decide (m < n) = mn) :
    Calls Tryz.prog 19 #[.agg #[.int .i64 8, .string x, .int .i64 o, .slice (some ⟨c, 0, none⟩) 3 cap, sums]] w (SeqPost n m k w) := by
  have lc := World.block_lt_of_cell? w _ hc0
  have l0 := World.block_lt_of_cell? w _ h00
  have l1 := World.block_lt_of_cell? w _ h10
  have l2 := World.block_lt_of_cell? w _ h20
  dsimp only at lc l0 l1 l2
  obtain ⟨i0, hi0, hz0, hz1, hz2⟩ := info_parts Tryz.info9
  have HI := Lib.hid hi0
  have HZ0 := Lib.hid hz0
  have HZ1 := Lib.hid hz1
  have HZ2 := Lib.hid hz2
  clear hi0 hz0 hz1 hz2
  rcases hcase with rfl | ⟨rfl, hc⟩ | ⟨rfl, hc, r1, r2, r3, r4⟩
  all_goals
    cases mn
  all_goals
    go_enter Tryz.func19, Tryz.ntmps19
    go_wp2_with fail
    obtain ⟨W, hW⟩ : ∃ W, W = w.alloc (.cells #[.int .i64 8, .string x, .int .i64 o, .slice (some ⟨c, 0, none⟩) 3 cap, sums] 45) := ⟨_, rfl⟩
    have hsz : W.heap.size = w.heap.size + 1 := by rw [hW]; simp
    have hB0 : Below w.heap.size w W := by rw [hW]; exact (Below.refl _ w).alloc (Nat.le_refl _) _
    have g : W.cell? ⟨w.heap.size, 3, none⟩ = some (.slice (some ⟨c, 0, none⟩) 3 cap) := by rw [hW]; go_simp
    have g0 : W.cell? ⟨c, 0, none⟩ = some (.slice (some ⟨b0, 0, none⟩) 1 k0) := by rw [hW]; go_simp
    have g1 : W.cell? ⟨c, 1, none⟩ = some (.slice (some ⟨b1, 0, none⟩) 1 k1) := by rw [hW]; go_simp
    have g2 : W.cell? ⟨c, 2, none⟩ = some (.slice (some ⟨b2, 0, none⟩) 1 k2) := by rw [hW]; go_simp
    have g00 : W.cell? ⟨b0, 0, none⟩ = some (.int .i64 1) := by rw [hW]; go_simp
    have g01 : W.cell? ⟨b0, 1, none⟩ = some (.string (sI n)) := by rw [hW]; go_simp
    have g10 : W.cell? ⟨b1, 0, none⟩ = some (.int .i64 1) := by rw [hW]; go_simp
    have g11 : W.cell? ⟨b1, 1, none⟩ = some (.string (sI m)) := by rw [hW]; go_simp
    have g20 : W.cell? ⟨b2, 0, none⟩ = some (.int .i64 1) := by rw [hW]; go_simp
    have g21 : W.cell? ⟨b2, 1, none⟩ = some (.string (sI k)) := by rw [hW]; go_simp
    rw [← hW]
    have HS := Lib.hid hsz
    have hTW := hT.on (hB0.mono hT.1)
    clear hW hsz hc0 hc1 hc2 h00 h01 h10 h11 h20 h21
    go_region_held3 (fun w' => w'.cell? ⟨w.heap.size, 3, none⟩ = some (.slice (some ⟨c, 0, none⟩) 3 cap) ∧ w'.cell? ⟨c, 0, none⟩ = some (.slice (some ⟨b0, 0, none⟩) 1 k0) ∧ w'.cell? ⟨c, 1, none⟩ = some (.slice (some ⟨b1, 0, none⟩) 1 k1)) (first | go_keep | (go_split_ands; refine ⟨?_, ?_, ?_⟩ <;> (rw [hb1.cell (by simp; have := HS.out; omega)]; assumption)))
      (first | (go_at_call 28; refine (lone_any _ _ _ _ (by assumption) (by assumption)).mono ?_; rintro e w1 ⟨rfl, rfl⟩) | (go_at_call 27; refine (HB.out _).mono ?_; rintro e w1 ⟨rfl, hb1⟩))
    have hlt : W.heap.size = w.heap.size + 1 := HS.out
    have q3 := (hb1.cell (p := ⟨w.heap.size, 3, none⟩) (by simp; omega)).trans g
    have q2 := (hb1.cell (p := ⟨c, 2, none⟩) (by simp; omega)).trans g2
    have q20 := (hb1.cell (p := ⟨b2, 0, none⟩) (by simp; omega)).trans g20
    have q21 := (hb1.cell (p := ⟨b2, 1, none⟩) (by simp; omega)).trans g21
    have hB1 : Below w.heap.size w w1 := hB0.drew.trans (hb1.mono (B' := w.heap.size) (by simp; omega))
    clear hlt hb1 hB0 g g0 g1 g2 g00 g01 g10 g11 g20 g21 HB
    go_wp2_with (first | (go_at_call 28; refine (lone_any _ _ _ _ (by assumption) (by assumption)).mono ?_; rintro e w1 ⟨rfl, rfl⟩) | (go_at_call 29; refine (HD.out _).mono ?_; rintro e w2 ⟨rfl, hb2⟩))
    all_goals have hB2 : Below w.heap.size w w2 := hB1.trans (hb2.mono (B' := w.heap.size) (by have := hB1.size; omega))
    all_goals
      first
      | (go_ret2
         exact post_no hB2)
      | (have hT2 := hT.on (hB2.mono hT.1)
         clear hb2 hB1 q3 q2 q20 q21 hTW
         have hq : (m - n).tdiv k ≤ 400 ∧ (n - m).tdiv k ≤ 400 := by assumption
         have HQ := Lib.hid hq
         clear hq
         have hsz2 : w.heap.size ≤ w2.heap.size := hB2.size
         first
         | (have hnm : n ≤ m := by have := of_decide_eq_false hmn; omega
            have tag : decide (m < n) = false := hmn
            go_loopw [4, 11] (fun p v wr => UpRel n0 w.heap.size n m k w p v wr) (fun p _ _ => (m + 1 - intOf p).toNat)
            case atStart =>
              exact up_start hnm hc (hB2.alloc hsz2 _) (hT2.all ((Below.refl _ _).alloc (Nat.le_refl _) _)) (World.ownsRow_made w2 #[] 0 hsz2 (by decide) rfl)
            case round =>
              obtain ⟨j, q, rfl, hqe, hnq, hqm, hlast, hown, hBr, hTr⟩ := hrel
              have HE := Lib.hid hqe
              have HL := Lib.hid hlast
              clear hqe hlast
              by_cases hle : q ≤ m
              · have hj := up_few hc HE.out hle HQ.out.1 hnm
                have hszr : w.heap.size ≤ wr.heap.size := hBr.size
                go_wp2_with (first | (go_at_call 10; refine (itoa_any q (by omega) (by omega) n0 _ hTr).mono ?_; rintro e w3 ⟨rfl, hb3⟩; have hown3 := owns_below hb3 hown; have hsz3 := hb3.size) | (at_builtin; refine wpList_append_own _ rfl _ _ 23 rfl w.heap.size 9 i0 (.string ⟨#[]⟩) 1 16 Tryz.underlying23 HI.out HZ0.out HZ1.out HZ2.out rfl (by decide) _ _ _ rfl (hown3.alloc _) ⟨w3.heap.size, 0, none⟩ 1 1 [.string (sI q)] rfl rfl (cell_one_new _ _ _) (by simp [Value.oneCell']) (by unfold maxLen; omega) (by omega) (by simp; omega) ?_; intro v' w4 hown4 hgrow _))
                have hB4 : Below w.heap.size w w4 := below_append (hBr.trans (hb3.mono (B' := w.heap.size) hszr)) (by omega) hown3 hgrow
                have hT4 := hT.on (hB4.mono hT.1)
                go_roundw
                case rel => exact up_next hc HE.out hnq hle hown4 hB4 hT4
                case measure => simp [intOf]; omega
              · go_wp2
                go_ret2
                exact post_yes hBr (up_end r1 r2 r3 r4 hc hk1 hnm HE.out (by omega) HL.out HQ.out.1) hown)
         | (have hnm : m < n := of_decide_eq_true hmn
            have hkk : k ≤ 1 := by assumption
            have HK : Hid (k = 1) := Lib.hid (by omega)
            go_loopw [4, 11] (fun p v wr => DownRel n0 w.heap.size n m w p v wr) (fun p _ _ => (intOf p + 1 - m).toNat)
            case atStart =>
              exact down_start hnm (hB2.alloc hsz2 _) (hT2.all ((Below.refl _ _).alloc (Nat.le_refl _) _)) (World.ownsRow_made w2 #[] 0 hsz2 (by decide) rfl)
            case round =>
              obtain ⟨j, q, rfl, hqe, hnq, hqm, hown, hBr, hTr⟩ := hrel
              have HE := Lib.hid hqe
              clear hqe
              by_cases hle : m ≤ q
              · have hj : j ≤ 400 := by have h1 := HQ.out.2; have h2 := HE.out; rw [HK.out, Int.tdiv_one] at h1; omega
                have hszr : w.heap.size ≤ wr.heap.size := hBr.size
                go_wp2_with (first | (go_at_call 10; refine (itoa_any q (by omega) (by omega) n0 _ hTr).mono ?_; rintro e w3 ⟨rfl, hb3⟩; have hown3 := owns_below hb3 hown; have hsz3 := hb3.size) | (at_builtin; refine wpList_append_own _ rfl _ _ 23 rfl w.heap.size 9 i0 (.string ⟨#[]⟩) 1 16 Tryz.underlying23 HI.out HZ0.out HZ1.out HZ2.out rfl (by decide) _ _ _ rfl (hown3.alloc _) ⟨w3.heap.size, 0, none⟩ 1 1 [.string (sI q)] rfl rfl (cell_one_new _ _ _) (by simp [Value.oneCell']) (by unfold maxLen; omega) (by omega) (by simp; omega) ?_; intro v' w4 hown4 hgrow _))
                have hB4 : Below w.heap.size w w4 := below_append (hBr.trans (hb3.mono (B' := w.heap.size) hszr)) (by omega) hown3 hgrow
                have hT4 := hT.on (hB4.mono hT.1)
                go_roundw
                case rel => exact down_next HK.out HE.out hnq hle hown4 hB4 hT4
                case measure => simp [intOf]; omega
              · go_wp2
                go_ret2
                exact post_yes hBr (down_end HK.out r1 r2 r3 r4 hnm HE.out (by omega) hqm HQ.out.2) hown))
end Go.Proofs.YtphikmigopdndaaGreatFmt
