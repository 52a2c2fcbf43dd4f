/- The contracts of syntax.Word.Lit at a word of one Lit, strings.Join at one text, slices.Grow and slices.Concat as the expansion calls them. -/
import Derived.Test.YtphikmigopdndaaGreatFmtG
import Derived.Laws.AppendOwnNone
namespace Go.Proofs.YtphikmigopdndaaGreatFmt
open Go.RowKit

theorem ta_lit (p : Option Addr) (w : World) : (Instr.typeAssert (.iface 73 (.pointer p)) 71 73 true).run Tryz.prog w = .ok (.tuple #[.pointer p, .bool true]) w := by kernel_rfl
theorem ta_lit_brace (p : Option Addr) (w : World) : (Instr.typeAssert (.iface 73 (.pointer p)) 71 88 true).run Tryz.prog w = .ok (.tuple #[.pointer none, .bool false]) w := by kernel_rfl
theorem ta_brace (p : Option Addr) (w : World) : (Instr.typeAssert (.iface 88 (.pointer p)) 71 88 true).run Tryz.prog w = .ok (.tuple #[.pointer p, .bool true]) w := by kernel_rfl

theorem join_one (s : ByteArray) : (⟨(Lib.join ([s].map (·.data.toList)) (⟨#[]⟩ : ByteArray).data.toList).toArray⟩ : ByteArray) = s := by
  simp [Lib.join]

theorem join_any (bk c : Nat) (s : ByteArray) (w : World) (h : w.cell? ⟨bk, 0, none⟩ = some (.string s)) (hc : 1 ≤ c) (hs : s.size ≤ 1000) :
    Calls Tryz.prog 25 #[.slice (some ⟨bk, 0, none⟩) 1 c, .string ⟨#[]⟩] w fun e w' => e = .returned (.string s) ∧ Below w.heap.size w w' := by
  refine (Tryz.strings_Join bk 0 c [s] ⟨#[]⟩ w ?_ (World.block_lt_of_cell? w _ h) (by simp) (by simpa using hc) ?_).mono ?_
  · intro j x hx
    cases j with
    | zero => simp at hx; subst hx; simpa using h
    | succ j => simp at hx
  · simp [Lib.join]
    simpa using (by omega : s.size ≤ 140737488355328)
  · rintro e w' ⟨rfl, hb⟩
    exact ⟨by rw [join_one], hb⟩

set_option maxRecDepth 100000 in
set_option maxHeartbeats 1000000 in
theorem lit_any (wb g cap pb : Nat) (s : ByteArray) (w : World) (h0 : w.cell? ⟨wb, 0, none⟩ = some (.slice (some ⟨g, 0, none⟩) 1 cap)) (h1 : w.cell? ⟨g, 0, none⟩ = some (.iface 73 (.pointer (some ⟨pb, 0, none⟩))))
    (h2 : w.cell? ⟨pb, 4, none⟩ = some (.string s)) (hs : s.size ≤ 1000) :
    Calls Tryz.prog 16 #[.pointer (some ⟨wb, 0, none⟩)] w fun e w' => e = .returned (.string s) ∧ Below w.heap.size w w' := by
  have l0 : wb < w.heap.size := World.block_lt_of_cell? w _ h0
  have l1 : g < w.heap.size := World.block_lt_of_cell? w _ h1
  have l2 : pb < w.heap.size := World.block_lt_of_cell? w _ h2
  have hmk : ∀ w, (Instr.makeSlice 23 (.int .i64 0) (.int .i64 1)).run Tryz.prog w = .ok (.slice (some ⟨w.heap.size, 0, none⟩) 0 1) (w.alloc (.cells #[.string ⟨#[]⟩] 9)) := fun _ => by kernel_rfl
  have hta := ta_lit
  go_enter Tryz.func16, Tryz.ntmps16
  go_wp2
  refine wp_loop_rounds 2 ?_
  rw [rounds_succ]
  go_wp2
  rw [rounds_succ]
  go_wp2_with fail
  refine (join_any _ _ s _ ?_ (Nat.le_refl _) hs).mono ?_
  · go_simp
  · rintro e w1 ⟨rfl, hb1⟩
    have hB : Below w.heap.size w w1 := (((Below.refl _ w).alloc (Nat.le_refl _) _).alloc (by simp) _).trans (hb1.mono (by simp; omega))
    clear hb1
    go_wp2
    go_ret
    exact ⟨rfl, hB⟩

theorem grow_owns (w : World) :
    (w.alloc (.cells (Builtin.zeroCells #[Value.nilIface] 1 ++ Builtin.zeroCells #[Value.nilIface] ((Question.appendCap 1 0 71).cut (w.tape w.drawn (Question.appendCap 1 0 71)) - 1)) 71)).drew.ownsRow w.heap.size 71 1
      (.slice (some ⟨w.heap.size, 0, none⟩) 0 ((Question.appendCap 1 0 71).cut (w.tape w.drawn (Question.appendCap 1 0 71)))) 0 [] := by
  have h1 := grownCap_ge w 1 0 71
  have h2 := grownCap_le_maxLen w 1 0 71 (by decide)
  unfold grownCap at h1 h2
  refine ⟨rfl, .inr ⟨w.heap.size, _, _, rfl, Nat.le_refl _, heap_alloc_new w _, Nat.zero_le _, h2, ?_, by simp⟩⟩
  rw [Array.size_append, size_zeroCells, size_zeroCells]
  simp
  omega

set_option maxRecDepth 100000 in
set_option maxHeartbeats 400000 in
theorem grow_any (w : World) :
    Calls Tryz.prog 51 #[.slice none 0 0, .int .i64 1] w fun e w' => ∃ v, e = .returned v ∧ w'.ownsRow w.heap.size 71 1 v 0 [] ∧ Below w.heap.size w w' := by
  go_enter Tryz.func51, Tryz.ntmps51
  go_wp2
  go_ret
  refine ⟨_, rfl, ?_, ((Below.refl _ _).alloc (Nat.le_refl _) _).drew⟩
  exact grow_owns w

theorem news_one {w : World} {g : Nat} {u : Value} (h : w.cell? ⟨g, 0, none⟩ = some u) : ∀ (j : Nat) (x : Value), [u][j]? = some x → w.cell? ((⟨g, 0, none⟩ : Addr).add j) = some x := by
  intro j x hx
  cases j with
  | zero =>
    simp only [List.getElem?_cons_zero, Option.some.injEq] at hx
    subst hx
    have : (⟨g, 0, none⟩ : Addr).add 0 = ⟨g, 0, none⟩ := by unfold Addr.add; split <;> simp_all
    rw [this]; exact h
  | succ j => simp at hx

set_option maxRecDepth 100000 in
set_option maxHeartbeats 1000000 in
theorem concat_any (c cc g cap : Nat) (u : Value) (hu1 : u.oneCell' = true) (w : World) (h0 : w.cell? ⟨c, 0, none⟩ = some (.slice none 0 0)) (h1 : w.cell? ⟨c, 1, none⟩ = some (.slice (some ⟨g, 0, none⟩) 1 cap))
    (h2 : w.cell? ⟨g, 0, none⟩ = some u) :
    Calls Tryz.prog 32 #[.slice (some ⟨c, 0, none⟩) 2 cc] w fun e w' => ∃ v, e = .returned v ∧ w'.ownsRow w.heap.size 71 1 v 1 [u] ∧ Below w.heap.size w w' := by
  have lc : c < w.heap.size := World.block_lt_of_cell? w _ h0
  have lg : g < w.heap.size := World.block_lt_of_cell? w _ h2
  obtain ⟨i0, hi0, hz0, hz1, hz2⟩ := info_parts Tryz.info71
  have HI := Lib.hid hi0
  have HZ0 := Lib.hid hz0
  have HZ1 := Lib.hid hz1
  have HZ2 := Lib.hid hz2
  clear hi0 hz0 hz1 hz2
  go_enter Tryz.func32, Tryz.ntmps32
  go_wp2
  refine wp_loop_rounds 3 ?_
  rw [rounds_succ]
  go_wp2
  rw [rounds_succ]
  go_wp2
  rw [rounds_succ]
  go_wp2_with (go_at_call 51; refine (grow_any _).mono ?_; rintro e w1 ⟨v, rfl, hown, hb⟩; have k0 : w1.cell? ⟨c, 0, none⟩ = some (.slice none 0 0) := (hb.cell (p := ⟨c, 0, none⟩) lc).trans h0; have k1 : w1.cell? ⟨c, 1, none⟩ = some (.slice (some ⟨g, 0, none⟩) 1 cap) := (hb.cell (p := ⟨c, 1, none⟩) lc).trans h1; have k2 : w1.cell? ⟨g, 0, none⟩ = some u := (hb.cell (p := ⟨g, 0, none⟩) lg).trans h2; have HO := Lib.hid hown; clear hown)
  refine wp_loop_rounds 3 ?_
  rw [rounds_succ]
  go_wp2_with (at_builtin; refine wpList_append_own_none rfl _ _ 67 rfl w.heap.size 71 i0 1 Tryz.underlying67 HI.out v 0 [] rfl HO.out rfl ?_)
  rw [rounds_succ]
  go_wp2_with (at_builtin; refine wpList_append_own _ rfl _ _ 67 rfl w.heap.size 71 i0 .nilIface 1 16 Tryz.underlying67 HI.out HZ0.out HZ1.out HZ2.out rfl (by decide) v 0 [] rfl HO.out ⟨g, 0, none⟩ 1 cap [u] rfl rfl (news_one k2) (by simpa using hu1) (by unfold maxLen; omega) (by omega) hb.size ?_; intro v' w4 hown4 hgrow _)
  have hB4 : Below w.heap.size w w4 := hb.grown hgrow hb.size (fun k hk => (HO.out.lt k hk).1)
  have HO4 := Lib.hid hown4
  clear hown4 hgrow
  rw [rounds_succ]
  go_wp2
  go_ret
  exact ⟨v', rfl, HO4.out, hB4⟩
end Go.Proofs.YtphikmigopdndaaGreatFmt
