/- The contracts of the leaves: strconv's functions at what Itoa wrote; spec.bounds$1, lone, digits, bounds; laws.same; expand.hasLeadingZeros. -/
import Derived.Test.YtphikmigopdndaaGreatFmtShelf
import Derived.Test.YtphikmigopdndaaGreatFmtM
import Derived.WalkKit
import Derived.WalkSpells
import Derived.WalkLawsBesides
import Derived.BigQuiet
import Derived.Lib.Hide
import Derived.Lib.AppendIntMem
namespace Go.Proofs.YtphikmigopdndaaGreatFmt
open Go.RowKit

/-- the library's table of powers stands, in this world and in each that is as it was below n0 -/
def Tab (n0 : Nat) (w : World) : Prop := n0 ≤ w.heap.size ∧ Lib.TabBelow Tryz.prog n0 w "internal/strconv.uint64pow10" .u64 Lib.pow10Tab

theorem Tab.on {n0 : Nat} {w w' : World} (h : Tab n0 w) (hb : Below n0 w w') : Tab n0 w' := ⟨Nat.le_trans h.1 hb.size, h.2.on hb⟩
theorem Tab.all {n0 : Nat} {w w' : World} (h : Tab n0 w) (hb : Below w.heap.size w w') : Tab n0 w' := h.on (hb.mono h.1)

theorem below_grow' (w : World) (k : Nat) (os : Array Obj) : Below w.heap.size w (Go.Sort.grow (w.drewN k) os) := Lib.below_grow _ w (Nat.le_refl _) k os

theorem itoa_any (n : Int) (h0 : -9223372036854775808 ≤ n) (h1 : n ≤ 9223372036854775807) (n0 : Nat) (w : World) (ht : Tab n0 w) :
    Calls Tryz.prog 10 #[.int .i64 n] w fun e w' => e = .returned (.string (sI n)) ∧ Below w.heap.size w w' :=
  (Tryz.strconv_Itoa n h0 h1 w ht.2.here).mono fun _ _ ⟨he, k, os, hw⟩ => ⟨he, hw ▸ below_grow' w k os⟩

theorem formatInt_any (n : Int) (h0 : -9223372036854775808 ≤ n) (h1 : n ≤ 9223372036854775807) (n0 : Nat) (w : World) (ht : Tab n0 w) :
    Calls Tryz.prog 36 #[.int .i64 n, .int .i64 10] w fun e w' => e = .returned (.string (sI n)) ∧ Below w.heap.size w w' :=
  (Tryz.strconv_FormatInt_10 n h0 h1 w ht.2.here).mono fun _ _ ⟨he, k, os, hw⟩ => ⟨he, hw ▸ below_grow' w k os⟩

theorem below_bytes (w w' : World) (h : w' = w ∨ ∃ t, w' = Lib.bytesWorld w 5 t) : Below w.heap.size w w' := by
  rcases h with rfl | ⟨t, rfl⟩
  · exact Below.refl _ _
  · exact Lib.bytesWorld_below w 5 t

theorem sI_max (n : Int) (h : -1000000 < n) (h2 : n < 1000000) : (sI n).size ≤ 7 := by
  rw [sI_size]; exact (itoa_len n h h2).2
theorem sI_min (n : Int) (h : -1000000 < n) (h2 : n < 1000000) : 1 ≤ (sI n).size := by
  rw [sI_size]; exact (itoa_len n h h2).1

theorem atoi_any (n : Int) (h0 : -1000000 < n) (h1 : n < 1000000) (w : World) :
    Calls Tryz.prog 50 #[.string (sI n)] w fun e w' => e = .returned (.tuple #[.int .i64 n, .nilIface]) ∧ Below w.heap.size w w' :=
  (Tryz.strconv_Atoi_ok (sI n) (by have := sI_max n h0 h1; omega) n (by rw [sI_list]; exact atoiAll_itoa n h0 h1) w).mono fun _ _ ⟨he, hw⟩ => ⟨he, below_bytes _ _ hw⟩

theorem parseInt_any (n : Int) (h0 : -1000000 < n) (h1 : n < 1000000) (w : World) :
    Calls Tryz.prog 33 #[.string (sI n), .int .i64 10, .int .i64 64] w fun e w' => e = .returned (.tuple #[.int .i64 n, .nilIface]) ∧ Below w.heap.size w w' :=
  (Tryz.strconv_ParseInt_10_at64_ok (sI n) (by have := sI_max n h0 h1; omega) n (by rw [sI_list]; exact parseIntB_itoa n h0 h1) w).mono fun _ _ ⟨he, hw⟩ => ⟨he, below_bytes _ _ hw⟩

set_option maxHeartbeats 400000 in
theorem small_len (s : ByteArray) (w : World) (h : ((s.size : Int) == 1) = false) :
    Calls Tryz.prog 49 #[.string s] w fun e w' => e = .returned (.bool false) ∧ w = w' := by
  go_enter Tryz.func49, Tryz.ntmps49
  go_wp2
  go_ret
  exact ⟨rfl, rfl⟩

set_option maxHeartbeats 400000 in
theorem small_dig (s : ByteArray) (w : World) (h : s.size = 1) (h2 : (s[0].toNat : Int) < 97) :
    Calls Tryz.prog 49 #[.string s] w fun e w' => e = .returned (.bool false) ∧ w = w' := by
  go_enter Tryz.func49, Tryz.ntmps49
  go_wp2
  go_ret
  exact ⟨rfl, rfl⟩

/-- a numeral is no lone small letter -/
theorem small_sI (n : Int) (h0 : -1000000 < n) (h1 : n < 1000000) (w : World) :
    Calls Tryz.prog 49 #[.string (sI n)] w fun e w' => e = .returned (.bool false) ∧ w = w' := by
  by_cases h : (sI n).size = 1
  · have hn : ¬ n < 0 := fun hn => by have := sI_neg_size hn; omega
    exact small_dig _ w h (by have := sI_pos_dig (n := n) (by omega) 0 (by omega); omega)
  · exact small_len _ w (by rw [beq_eq_false_iff_ne]; omega)

set_option maxHeartbeats 400000 in
theorem lone_any (b cap : Nat) (s : ByteArray) (w : World) (h0 : w.cell? ⟨b, 0, none⟩ = some (.int .i64 1)) (h1 : w.cell? ⟨b, 1, none⟩ = some (.string s)) :
    Calls Tryz.prog 28 #[.slice (some ⟨b, 0, none⟩) 1 cap] w fun e w' => e = .returned (.string s) ∧ w = w' := by
  go_enter Tryz.func28, Tryz.ntmps28
  go_wp2
  go_ret
  exact ⟨rfl, rfl⟩

set_option maxHeartbeats 400000 in
theorem same_any (b c cap cap' : Nat) (ss : List ByteArray) (n : Nat) (hn : ss.length = n) (hN : n ≤ 1000) (w : World)
    (h0 : ∀ i, i < n → w.cell? ⟨b, i, none⟩ = some (.string (ss[i]?.getD ByteArray.empty)))
    (h1 : ∀ i, i < n → w.cell? ⟨c, i, none⟩ = some (.string (ss[i]?.getD ByteArray.empty))) :
    Calls Tryz.prog 9 #[.slice (some ⟨b, 0, none⟩) n cap, .slice (some ⟨c, 0, none⟩) n cap'] w fun e w' => e = .returned (.bool true) ∧ w = w' := by
  have H0 := Lib.hid h0
  have H1 := Lib.hid h1
  have Hn := Lib.hid hn
  clear h0 h1 hn
  go_enter Tryz.func9, Tryz.ntmps9
  go_wp2
  go_loop [5, 6, 14] (fun _ _ i => ∃ k : Nat, k ≤ n ∧ i = .int .i64 k) (fun _ _ i => n - (intOf i).toNat)
  case atStart => exact ⟨0, Nat.zero_le _, rfl⟩
  case round =>
    obtain ⟨k, hk, rfl⟩ := hrel
    by_cases hlt : k < n
    · have c0 := H0.out k hlt
      have c1 := H1.out k hlt
      go_wp2
      go_round
      case rel => exact ⟨k + 1, by omega, by go_num⟩
      case measure => simp [intOf]; omega
    · go_wp2
      go_ret
      exact ⟨rfl, rfl⟩

theorem hasPrefix_minus_pos (n : Int) (hn : 0 ≤ n) : Lib.trimPrefix (Lib.itoa n) [45] = Lib.itoa n := by
  unfold Lib.trimPrefix
  rw [if_neg]
  intro h
  rw [itoa_pos hn] at h
  cases hd : Lib.decDigits n.toNat with
  | nil => exact absurd hd (decDigits_ne _)
  | cons b r =>
    have := decDigits_dig n.toNat b (by rw [hd]; simp)
    rw [hd] at h
    simp [Lib.hasPrefix] at h
    rw [← h] at this
    exact absurd this.1 (by decide)

theorem hasPrefix_minus_neg (n : Int) (hn : n < 0) : Lib.trimPrefix (Lib.itoa n) [45] = Lib.itoa (n.natAbs : Int) := by
  unfold Lib.trimPrefix
  rw [itoa_neg hn, if_pos (by simp [Lib.hasPrefix]), itoa_pos (by omega)]
  simp

/-- what is left behind the sign -/
theorem trim_sI (n : Int) : (⟨(Lib.trimPrefix (sI n).data.toList [45]).toArray⟩ : ByteArray) = sI (n.natAbs : Int) := by
  rw [sI_list]
  by_cases hn : n < 0
  · rw [hasPrefix_minus_neg n hn]; rfl
  · rw [hasPrefix_minus_pos n (by omega), show ((n.natAbs : Nat) : Int) = n by omega]; rfl

theorem trim_any (n : Int) (w : World) :
    Calls Tryz.prog 54 #[.string (sI n), .string ⟨#[45]⟩] w fun e w' => e = .returned (.string (sI (n.natAbs : Int))) ∧ w = w' :=
  (Tryz.strings_TrimPrefix (sI n) ⟨#[45]⟩ w).mono fun _ _ ⟨he, hw⟩ => ⟨by rw [he, ← trim_sI n], hw.symm⟩

set_option maxHeartbeats 400000 in
theorem hlz_abs (s t : ByteArray) (w : World) (hmax : t.size ≤ 7) (hh : ∀ h : 1 < t.size, (t[0].toNat : Int) ≠ 48)
    (HT : Hid (Calls Tryz.prog 54 #[.string s, .string ⟨#[45]⟩] w fun e w' => e = .returned (.string t) ∧ w = w')) :
    Calls Tryz.prog 34 #[.string s] w fun e w' => e = .returned (.bool false) ∧ w = w' := by
  have hp := Lib.hid hh
  clear hh
  by_cases hs : 1 < t.size
  · have e1 : ((t[0].toNat : Int) == 48) = false := by rw [beq_eq_false_iff_ne]; exact hp.out hs
    go_enter Tryz.func34, Tryz.ntmps34
    go_wp2_with (go_at_call 54; refine HT.out.mono ?_; rintro e w' ⟨rfl, rfl⟩)
    go_ret
    exact ⟨rfl, rfl⟩
  · go_enter Tryz.func34, Tryz.ntmps34
    go_wp2_with (go_at_call 54; refine HT.out.mono ?_; rintro e w' ⟨rfl, rfl⟩)
    go_ret
    exact ⟨rfl, rfl⟩

theorem hlz_any (n : Int) (h0 : -1000000 < n) (h1 : n < 1000000) (w : World) :
    Calls Tryz.prog 34 #[.string (sI n)] w fun e w' => e = .returned (.bool false) ∧ w = w' :=
  hlz_abs _ _ w (sI_max (n.natAbs : Int) (by omega) (by omega)) (fun h => sI_pos_head (n := (n.natAbs : Int)) (by omega) h) (trim_any n w)
end Go.Proofs.YtphikmigopdndaaGreatFmt
