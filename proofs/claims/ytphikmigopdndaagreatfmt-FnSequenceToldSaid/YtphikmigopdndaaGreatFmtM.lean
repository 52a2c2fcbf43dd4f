/- Plain facts on decimal numerals: what strconv.Itoa writes is read back as the same number; its bytes are digits behind an optional sign; no needless nought stands ahead. No program in sight. -/
import Derived.Lib.ItoaNum
import Derived.Lib.AtoiTie
import Derived.Lib.ParseIntBTie
namespace Go.Proofs.YtphikmigopdndaaGreatFmt
open Go.Lib

theorem decFrom_snoc (l : List UInt8) (b : UInt8) (d : Nat) (hb : digitVal b = some d) : ∀ (acc m : Nat), decFrom acc l = some m → decFrom acc (l ++ [b]) = some (m * 10 + d) := by
  induction l with
  | nil =>
    intro acc m h
    simp only [decFrom, Option.some.injEq] at h
    subst h
    simp [decFrom, hb]
  | cons c r ih =>
    intro acc m h
    simp only [decFrom] at h
    simp only [List.cons_append, decFrom]
    cases hc : digitVal c with
    | none => rw [hc] at h; cases h
    | some k => rw [hc] at h; exact ih _ _ h

theorem digit_toNat (k : Nat) (h : k < 10) : (UInt8.ofNat (48 + k)).toNat = 48 + k := by
  simp only [UInt8.toNat_ofNat']
  omega

theorem digitVal_of (k : Nat) (h : k < 10) : digitVal (UInt8.ofNat (48 + k)) = some k := by
  unfold digitVal
  rw [digit_toNat k h, if_pos (by omega)]
  congr 1
  omega

theorem decFrom_decDigits (u : Nat) : decFrom 0 (decDigits u) = some u := by
  induction u using Nat.strongRecOn with
  | _ u ih =>
    by_cases h : u < 10
    · rw [decDigits, dif_pos h]
      simp only [decFrom, digitVal_of u h]
      simp
    · rw [decDigits, dif_neg h, decFrom_snoc _ _ (u % 10) (digitVal_of _ (by omega)) _ _ (ih (u / 10) (by omega))]
      congr 1
      omega

theorem decDigits_ne (u : Nat) : decDigits u ≠ [] := by
  intro h
  have := decDigits_length u
  rw [h] at this
  have h1 := nDigits_pos u
  simp at this
  omega

theorem decNat_decDigits (u : Nat) : decNat (decDigits u) = some u := by
  unfold decNat
  have : (decDigits u).isEmpty = false := by
    cases h : decDigits u with
    | nil => exact absurd h (decDigits_ne u)
    | cons a b => rfl
  rw [this]
  exact decFrom_decDigits u

/-- every byte is a figure -/
theorem decDigits_dig (u : Nat) : ∀ b ∈ decDigits u, 48 ≤ b.toNat ∧ b.toNat ≤ 57 := by
  induction u using Nat.strongRecOn with
  | _ u ih =>
    intro b hb
    by_cases h : u < 10
    · rw [decDigits, dif_pos h] at hb
      simp only [List.mem_singleton] at hb
      subst hb
      rw [digit_toNat u h]
      omega
    · rw [decDigits, dif_neg h, List.mem_append] at hb
      rcases hb with hb | hb
      · exact ih (u / 10) (by omega) b hb
      · simp only [List.mem_singleton] at hb
        subst hb
        rw [digit_toNat _ (by omega)]
        omega

/-- the first byte is no nought, but for 0 itself -/
theorem decDigits_head (u : Nat) (h0 : 1 ≤ u) : ∃ b r, decDigits u = b :: r ∧ b.toNat ≠ 48 := by
  induction u using Nat.strongRecOn with
  | _ u ih =>
    by_cases h : u < 10
    · rw [decDigits, dif_pos h]
      exact ⟨_, [], rfl, by rw [digit_toNat u h]; omega⟩
    · obtain ⟨b, r, hb, hn⟩ := ih (u / 10) (by omega) (by omega)
      rw [decDigits, dif_neg h, hb]
      exact ⟨b, r ++ [_], rfl, hn⟩

theorem nDigits_le (k : Nat) : ∀ u, u < 10 ^ (k + 1) → nDigits u ≤ k + 1 := by
  induction k with
  | zero => intro u h; rw [nDigits_small (by simpa using h)]; omega
  | succ k ih =>
    intro u h
    by_cases h1 : u < 10
    · rw [nDigits_small h1]; omega
    · rw [nDigits_big h1]
      have := ih (u / 10) (by rw [Nat.pow_succ] at h; omega)
      omega

/-- what strconv.Itoa writes -/
def sI (n : Int) : ByteArray := ⟨(itoa n).toArray⟩

theorem sI_list (n : Int) : (sI n).data.toList = itoa n := rfl

theorem sI_size (n : Int) : (sI n).size = (itoa n).length := by
  unfold sI ByteArray.size
  simp

theorem itoa_pos {n : Int} (h : 0 ≤ n) : itoa n = decDigits n.toNat := by
  unfold itoa
  rw [if_neg (by omega)]

theorem itoa_neg {n : Int} (h : n < 0) : itoa n = 45 :: decDigits n.natAbs := by
  unfold itoa
  rw [if_pos h]

theorem decDigits_len6 (u : Nat) (h : u < 1000000) : (decDigits u).length ≤ 6 := by
  rw [decDigits_length]
  exact nDigits_le 5 u (by simpa using h)

theorem itoa_len (n : Int) (h : -1000000 < n) (h2 : n < 1000000) : 1 ≤ (itoa n).length ∧ (itoa n).length ≤ 7 := by
  by_cases hn : n < 0
  · rw [itoa_neg hn]
    have := decDigits_len6 n.natAbs (by omega)
    simp
    omega
  · rw [itoa_pos (by omega)]
    have := decDigits_len6 n.toNat (by omega)
    have h3 := decDigits_length n.toNat
    have h4 := nDigits_pos n.toNat
    omega

theorem atoiAll_itoa (n : Int) (h : -1000000 < n) (h2 : n < 1000000) : atoiAll (itoa n) = .ok n := by
  have hl := itoa_len n h h2
  rw [atoiAll_short _ (by omega)]
  by_cases hn : n < 0
  · rw [itoa_neg hn]
    simp only [atoi, decNat_decDigits]
    simp only [beq_self_eq_true, if_true, Option.map_some, NumEnd.ofOption]
    congr 1
    omega
  · rw [itoa_pos (by omega)]
    obtain ⟨b, r, hb⟩ : ∃ b r, decDigits n.toNat = b :: r := by
      cases h' : decDigits n.toNat with
      | nil => exact absurd h' (decDigits_ne _)
      | cons b r => exact ⟨b, r, rfl⟩
    have hd := decDigits_dig n.toNat b (by rw [hb]; simp)
    have hv := decNat_decDigits n.toNat
    rw [hb] at hv ⊢
    have h45 : (b == 45) = false := by
      rw [beq_eq_false_iff_ne]
      intro e
      rw [e] at hd
      exact absurd hd.1 (by decide)
    have h43 : (b == 43) = false := by
      rw [beq_eq_false_iff_ne]
      intro e
      rw [e] at hd
      exact absurd hd.1 (by decide)
    simp only [atoi, h45, h43, hv]
    simp only [Bool.false_eq_true, if_false, Option.map_some, NumEnd.ofOption]
    congr 1
    omega

theorem parseIntB_itoa (n : Int) (h : -1000000 < n) (h2 : n < 1000000) : parseIntB 64 (itoa n) = .ok n := by
  rw [parseIntB_64]
  exact atoiAll_itoa n h h2

/-- the bytes of a numeral, by place -/
theorem sI_get (n : Int) (i : Nat) (hi : i < (sI n).size) : (sI n)[i] = (itoa n)[i]'(by rw [← sI_size]; exact hi) := by
  simp [sI, ByteArray.getElem_eq_getElem_data]

theorem sI_pos_dig {n : Int} (h : 0 ≤ n) (i : Nat) (hi : i < (sI n).size) : 48 ≤ ((sI n)[i].toNat : Int) ∧ ((sI n)[i].toNat : Int) ≤ 57 := by
  have h1 : (sI n)[i] ∈ decDigits n.toNat := by
    rw [sI_get n i hi]
    rw [← itoa_pos h]
    exact List.getElem_mem _
  have := decDigits_dig _ _ h1
  omega

theorem sI_neg_dig {n : Int} (h : n < 0) (i : Nat) (hi : i + 1 < (sI n).size) : 48 ≤ ((sI n)[i + 1].toNat : Int) ∧ ((sI n)[i + 1].toNat : Int) ≤ 57 := by
  have h1 : (sI n)[i + 1] ∈ decDigits n.natAbs := by
    rw [sI_get n (i + 1) hi]
    have hl : i < (decDigits n.natAbs).length := by
      have := hi
      rw [sI_size, itoa_neg h] at this
      simpa using this
    have : (itoa n)[i + 1]'(by rw [← sI_size]; exact hi) = (decDigits n.natAbs)[i] := by
      simp [itoa_neg h]
    rw [this]
    exact List.getElem_mem _
  have := decDigits_dig _ _ h1
  omega

theorem sI_neg_zero {n : Int} (h : n < 0) (hi : 0 < (sI n).size) : ((sI n)[0].toNat : Int) = 45 := by
  rw [sI_get n 0 hi]
  simp [itoa_neg h]

theorem sI_neg_size {n : Int} (h : n < 0) : 2 ≤ (sI n).size := by
  rw [sI_size, itoa_neg h]
  have h3 := decDigits_length n.natAbs
  have h4 := nDigits_pos n.natAbs
  simp
  omega

/-- no needless nought -/
theorem sI_pos_head {n : Int} (h : 0 ≤ n) (h1 : 1 < (sI n).size) : ((sI n)[0].toNat : Int) ≠ 48 := by
  have hn : 1 ≤ n.toNat := by
    rcases Nat.eq_zero_or_pos n.toNat with e | e
    · rw [sI_size, itoa_pos h, e, decDigits_length, nDigits_small (by decide)] at h1
      omega
    · exact e
  obtain ⟨b, r, hb, hne⟩ := decDigits_head n.toNat hn
  rw [sI_get n 0 (by omega)]
  have : (itoa n)[0]'(by rw [← sI_size]; omega) = b := by simp [itoa_pos h, hb]
  rw [this]
  omega

theorem sI_neg_head {n : Int} (h : n < 0) (h1 : 1 < (sI n).size) : ((sI n)[1].toNat : Int) ≠ 48 := by
  obtain ⟨b, r, hb, hne⟩ := decDigits_head n.natAbs (by omega)
  rw [sI_get n 1 h1]
  have : (itoa n)[1]'(by rw [← sI_size]; omega) = b := by simp [itoa_neg h, hb]
  rw [this]
  omega

end Go.Proofs.YtphikmigopdndaaGreatFmt
