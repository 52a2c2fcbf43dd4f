/- The contracts of spec.digits and spec.bounds at what strconv.Itoa wrote. -/
import Derived.Test.YtphikmigopdndaaGreatFmtA
namespace Go.Proofs.YtphikmigopdndaaGreatFmt
open Go.RowKit

set_option maxHeartbeats 800000 in
theorem digits_pos_abs (s : ByteArray) (b : Bool) (v : Int) (w : World) (hmin : 1 ≤ s.size) (hmax : s.size ≤ 7)
    (hd : ∀ (i : Nat) (h : i < s.size), 48 ≤ (s[i].toNat : Int) ∧ (s[i].toNat : Int) ≤ 57) (q : Bool) (hh : ((s[0].toNat : Int) == 48) = q) (hq1 : q = true → s.size = 1)
    (HT : Hid (∀ w : World, Calls Tryz.prog 50 #[.string s] w fun e w' => e = .returned (.tuple #[.int .i64 v, .nilIface]) ∧ Below w.heap.size w w')) :
    Calls Tryz.prog 29 #[.string s, .bool b] w fun e w' => e = .returned (.tuple #[.int .i64 v, .bool true]) ∧ Below w.heap.size w w' := by
  have hq := Lib.hid hd
  clear hd
  have z1 : ((s.size : Int) == 0) = false := by rw [beq_eq_false_iff_ne]; omega
  have z2 : ¬ s = ByteArray.empty := fun h => by rw [h] at hmin; exact absurd hmin (by decide)
  have z3 : ((s[0].toNat : Int) == 45) = false := by rw [beq_eq_false_iff_ne]; have := hq.out 0 (by omega); omega
  by_cases hs : 1 < s.size
  all_goals
    cases q
    all_goals
      first
      | exact absurd (hq1 rfl) (by omega)
      | (clear hq1
         cases b
         all_goals
          go_enter Tryz.func29, Tryz.ntmps29
          go_wp2
          go_loop [7, 44] (fun _ i => ∃ k : Nat, k ≤ s.size ∧ i = .int .i64 k) (fun _ i => s.size - (intOf i).toNat)
          case atStart => exact ⟨0, Nat.zero_le _, rfl⟩
          case round =>
            obtain ⟨k, hk, rfl⟩ := hrel
            by_cases hlt : k < s.size
            · have c0 := (hq.out k hlt).1
              have c1 := (hq.out k hlt).2
              go_wp2
              go_round
              case rel => exact ⟨k + 1, by omega, by go_num⟩
              case measure => simp [intOf]; omega
            · go_wp2_with (go_at_call 50; refine (HT.out _).mono ?_; rintro e w' ⟨rfl, hb⟩)
              go_quiet (fail)
              go_wp2
              go_ret2
              exact ⟨rfl, below_drewN hb _⟩)

theorem ext_size (s : ByteArray) : (s.extract 1 s.size).size = s.size - 1 := by simp
theorem ext_get (s : ByteArray) (i : Nat) (h : i < (s.extract 1 s.size).size) : (s.extract 1 s.size)[i] = s[i + 1]'(by rw [ext_size] at h; omega) := by
  rw [ByteArray.getElem_extract]
  congr 1
  omega

set_option maxHeartbeats 800000 in
theorem digits_neg_abs (s : ByteArray) (v : Int) (w : World) (hmin : 2 ≤ s.size) (hmax : s.size ≤ 7)
    (hd : ∀ (i : Nat) (h : i + 1 < s.size), 48 ≤ (s[i + 1].toNat : Int) ∧ (s[i + 1].toNat : Int) ≤ 57) (h0 : (s[0].toNat : Int) = 45) (hh : (s[1].toNat : Int) ≠ 48)
    (HT : Hid (∀ w : World, Calls Tryz.prog 50 #[.string s] w fun e w' => e = .returned (.tuple #[.int .i64 v, .nilIface]) ∧ Below w.heap.size w w')) :
    Calls Tryz.prog 29 #[.string s, .bool true] w fun e w' => e = .returned (.tuple #[.int .i64 v, .bool true]) ∧ Below w.heap.size w w' := by
  have hq := Lib.hid hd
  have e1 : ((s[0].toNat : Int) == 45) = true := beq_iff_eq.2 h0
  have e2 : (((s.extract 1 s.size)[0]'(by rw [ext_size]; omega)).toNat : Int) ≠ 48 := by rw [ext_get]; exact hh
  have e3 : ((((s.extract 1 s.size)[0]'(by rw [ext_size]; omega)).toNat : Int) == 48) = false := by rw [beq_eq_false_iff_ne]; exact e2
  have z1 : (((s.size - 1 : Nat) : Int) == 0) = false := by rw [beq_eq_false_iff_ne]; omega
  clear hd hh h0 e2
  go_enter Tryz.func29, Tryz.ntmps29
  go_wp2
  go_loop [7, 44] (fun _ i => ∃ k : Nat, k ≤ s.size - 1 ∧ i = .int .i64 k) (fun _ i => s.size - (intOf i).toNat)
  case atStart => exact ⟨0, Nat.zero_le _, rfl⟩
  case round =>
    obtain ⟨k, hk, rfl⟩ := hrel
    by_cases hlt : k < s.size - 1
    · have c0 : 48 ≤ (((s.extract 1 s.size)[k]'(by rw [ext_size]; omega)).toNat : Int) := by rw [ext_get]; exact (hq.out k (by omega)).1
      have c1 : (((s.extract 1 s.size)[k]'(by rw [ext_size]; omega)).toNat : Int) ≤ 57 := by rw [ext_get]; exact (hq.out k (by omega)).2
      go_wp2
      go_round
      case rel => exact ⟨k + 1, by omega, by go_num⟩
      case measure => simp [intOf]; omega
    · go_wp2_with (go_at_call 50; refine (HT.out _).mono ?_; rintro e w' ⟨rfl, hb⟩)
      go_quiet (fail)
      go_wp2
      go_ret2
      exact ⟨rfl, below_drewN hb _⟩

theorem digits_pos (n : Int) (b : Bool) (h0 : 0 ≤ n) (h1 : n < 1000000) (w : World) :
    Calls Tryz.prog 29 #[.string (sI n), .bool b] w fun e w' => e = .returned (.tuple #[.int .i64 n, .bool true]) ∧ Below w.heap.size w w' := by
  have hmin := sI_min n (by omega) h1
  refine digits_pos_abs (sI n) b n w hmin (sI_max n (by omega) h1) (fun i h => sI_pos_dig h0 i h) _ rfl (fun hq => ?_) (fun w => atoi_any n (by omega) h1 w)
  by_cases hs : 1 < (sI n).size
  · exact absurd (beq_iff_eq.1 hq) (sI_pos_head h0 hs)
  · omega

theorem digits_true (n : Int) (h0 : -1000000 < n) (h1 : n < 1000000) (w : World) :
    Calls Tryz.prog 29 #[.string (sI n), .bool true] w fun e w' => e = .returned (.tuple #[.int .i64 n, .bool true]) ∧ Below w.heap.size w w' := by
  by_cases hn : n < 0
  · have h2 := sI_neg_size hn
    exact digits_neg_abs (sI n) n w h2 (sI_max n h0 h1) (fun i h => sI_neg_dig hn i h) (sI_neg_zero hn (by omega)) (sI_neg_head hn (by omega)) (fun w => atoi_any n h0 h1 w)
  · exact digits_pos n true (by omega) h1 w

/-- whether both ends are small enough -/
def inB (n m : Int) : Bool := decide (-10000 < n ∧ n < 10000 ∧ -10000 < m ∧ m < 10000)

set_option maxHeartbeats 800000 in
theorem bounds_yes (s t : ByteArray) (n m : Int) (w : World) (h1 : -10000 < n) (h2 : n < 10000) (h3 : -10000 < m) (h4 : m < 10000)
    (HS : Hid (∀ w : World, Calls Tryz.prog 49 #[.string s] w fun e w' => e = .returned (.bool false) ∧ w = w'))
    (HN : Hid (∀ w : World, Calls Tryz.prog 29 #[.string s, .bool true] w fun e w' => e = .returned (.tuple #[.int .i64 n, .bool true]) ∧ Below w.heap.size w w'))
    (HM : Hid (∀ w : World, Calls Tryz.prog 29 #[.string t, .bool true] w fun e w' => e = .returned (.tuple #[.int .i64 m, .bool true]) ∧ Below w.heap.size w w')) :
    Calls Tryz.prog 27 #[.string s, .string t] w fun e w' => e = .returned (.tuple #[.int .i64 n, .int .i64 m, .bool false, .bool true]) ∧ Below w.heap.size w w' := by
  go_enter Tryz.func27, Tryz.ntmps27
  go_wp2_with fail
  refine (HS.out _).mono ?_
  rintro e w1 ⟨rfl, rfl⟩
  go_wp2_with fail
  refine (HN.out _).mono ?_
  rintro e w1 ⟨rfl, hb1⟩
  go_wp2_with fail
  refine (HM.out _).mono ?_
  rintro e w2 ⟨rfl, hb2⟩
  go_wp2_with fail
  refine bodyPost_ret (v := .tuple #[.int .i64 n, .int .i64 m, .bool false, .bool true]) (by simp [results, Tryz.results27, go_sem]) rfl ?_
  exact ⟨rfl, hb1.trans (hb2.mono hb1.size)⟩

set_option maxHeartbeats 1600000 in
theorem bounds_no (s t : ByteArray) (n m : Int) (w : World) (h : n ≤ -10000 ∨ (-10000 < n ∧ 10000 ≤ n) ∨ (-10000 < n ∧ n < 10000 ∧ m ≤ -10000) ∨ (-10000 < n ∧ n < 10000 ∧ -10000 < m ∧ 10000 ≤ m))
    (HS : Hid (∀ w : World, Calls Tryz.prog 49 #[.string s] w fun e w' => e = .returned (.bool false) ∧ w = w'))
    (HN : Hid (∀ w : World, Calls Tryz.prog 29 #[.string s, .bool true] w fun e w' => e = .returned (.tuple #[.int .i64 n, .bool true]) ∧ Below w.heap.size w w'))
    (HM : Hid (∀ w : World, Calls Tryz.prog 29 #[.string t, .bool true] w fun e w' => e = .returned (.tuple #[.int .i64 m, .bool true]) ∧ Below w.heap.size w w')) :
    Calls Tryz.prog 27 #[.string s, .string t] w fun e w' => e = .returned (.tuple #[.int .i64 n, .int .i64 m, .bool false, .bool false]) ∧ Below w.heap.size w w' := by
  rcases h with h1 | ⟨h1, h2⟩ | ⟨h1, h2, h3⟩ | ⟨h1, h2, h3, h4⟩
  all_goals
    go_enter Tryz.func27, Tryz.ntmps27
    go_wp2_with fail
    refine (HS.out _).mono ?_
    rintro e w1 ⟨rfl, rfl⟩
    go_wp2_with fail
    refine (HN.out _).mono ?_
    rintro e w1 ⟨rfl, hb1⟩
    go_wp2_with fail
    refine (HM.out _).mono ?_
    rintro e w2 ⟨rfl, hb2⟩
    go_wp2_with fail
    refine bodyPost_ret (v := .tuple #[.int .i64 n, .int .i64 m, .bool false, .bool false]) (by simp [results, Tryz.results27, go_sem] <;> omega) rfl ?_
    exact ⟨rfl, hb1.trans (hb2.mono hb1.size)⟩

theorem bounds_any (n m : Int) (w : World) (h0 : -1000000 < n) (h1 : n < 1000000) (k0 : -1000000 < m) (k1 : m < 1000000) :
    Calls Tryz.prog 27 #[.string (sI n), .string (sI m)] w fun e w' => e = .returned (.tuple #[.int .i64 n, .int .i64 m, .bool false, .bool (inB n m)]) ∧ Below w.heap.size w w' := by
  by_cases h : -10000 < n ∧ n < 10000 ∧ -10000 < m ∧ m < 10000
  · have e : inB n m = true := by unfold inB; exact decide_eq_true h
    rw [e]
    obtain ⟨a, b, c, d⟩ := h
    exact bounds_yes _ _ n m w a b c d (fun w => small_sI n h0 h1 w) (fun w => digits_true n h0 h1 w) (fun w => digits_true m k0 k1 w)
  · have e : inB n m = false := by unfold inB; exact decide_eq_false h
    rw [e]
    exact bounds_no _ _ n m w (by omega) (fun w => small_sI n h0 h1 w) (fun w => digits_true n h0 h1 w) (fun w => digits_true m k0 k1 w)
end Go.Proofs.YtphikmigopdndaaGreatFmt
