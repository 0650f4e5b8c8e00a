/- cloneGenerationList: cloneList and slices.Clone. -/
import Derived.Test.YbulkbeuyBytes
namespace Go.Proofs.Ybulkbeuy.Sh
open Go.ChangeShapes Go.WideShapes Go.ChangeAt Go.RowKit
set_option linter.unusedSimpArgs false
set_option linter.unusedVariables false

theorem slices_clone_any {b0 : Nat} (v : Value) (n : Nat) (xs : List Value) (w : World) (hv : w.ownsRow b0 32 2 v n xs) (hn : n ≤ 1024) (h1 : ∀ u ∈ xs, u.oneCell' = true) :
    Calls Yba.prog 11 #[v] w fun e w' => ∃ u, e = .returned u ∧ Below w.heap.size w w' ∧ w'.ownsRow w.heap.size 32 2 u n xs := by
  have q26 := fun (w : World) a n c => Lib.run_eql_slice_nil (P := Yba.prog) w 26 32 a n c 0 0 Yba.underlying26
  obtain ⟨i0, hi, hz0, hz1, hz2⟩ := info_parts info32
  have hlen := hv.1
  have HV := hidMk hv
  rcases hv.2 with ⟨rfl, rfl⟩ | ⟨g, cap, cur, rfl, hb, _⟩
  · go_enter Yba.func11, Yba.ntmps11
    go_wp2_with fail
    go_ret
    refine ⟨_, rfl, Below.refl _ _, ?_⟩
    have : xs = [] := List.length_eq_zero_iff.1 (by simpa using hlen)
    subst this
    exact World.ownsRow_nil _ _ _ _
  · clear hv
    have HN := hidMk ((HV.out.alloc (.cells #[] 32)).cells rfl)
    have HO := hidMk (World.ownsRow_lit (base := w.heap.size) (e := 32) (size := 2) w #[] 0 (Nat.le_refl _) (by omega) rfl)
    go_enter Yba.func11, Yba.ntmps11
    go_wp2_with (at_builtin; refine wpList_append_own _ rfl _ _ 26 rfl w.heap.size 32 i0 (.agg #[.string ⟨#[]⟩, .slice none 0 0]) 2 40 Yba.underlying26 hi hz0 hz1 hz2 rfl (by decide) _ _ _ rfl HO.out ⟨g, 0, none⟩ n cap xs rfl hlen HN.out h1 (by unfold maxLen; omega) (by omega) (by simp) ?_; intro v' w2 hown hgr hnil)
    go_ret
    refine ⟨v', rfl, ((Below.refl _ w).alloc (Nat.le_refl _) _).grown hgr (by simp) (fun k hk => by cases hk; exact Nat.le_refl _), ?_⟩
    rw [Nat.zero_add] at hown
    exact hown

theorem list_clone_any {b0 : Nat} (v : Value) (n : Nat) (xs : List Value) (w : World) (hv : w.ownsRow b0 32 2 v n xs) (hn : n ≤ 1024) (h1 : ∀ u ∈ xs, u.oneCell' = true) :
    Calls Yba.prog 10 #[v] w fun e w' => ∃ u, e = .returned u ∧ Below w.heap.size w w' ∧ w'.ownsRow w.heap.size 32 2 u n xs := by
  obtain ⟨i0, hi, hz0, hz1, hz2⟩ := info_parts info32
  have hlen := hv.1
  have HV := hidMk hv
  rcases hv.2 with ⟨rfl, rfl⟩ | ⟨g, cap, cur, rfl, hb, _⟩
  · clear hv
    go_enter Yba.func10, Yba.ntmps10
    go_wp2_with (first
      | (at_make; refine wpList_make_own _ rfl _ _ 26 rfl w.heap.size 32 i0 _ 2 Yba.underlying26 hi hz0 hz1 .i64 .i64 _ 0 rfl rfl rfl (by rw [hz2]; omega) (by unfold maxLen; omega) (Nat.le_refl _) ?_; intro wm hown hgr)
      | (at_builtin; refine wpList_append_own_none rfl _ _ 26 rfl w.heap.size 32 i0 2 Yba.underlying26 hi _ _ _ rfl hown rfl ?_))
    go_ret
    have : xs = [] := List.length_eq_zero_iff.1 (by simpa using hlen)
    subst this
    exact ⟨_, rfl, (Below.refl _ w).grown hgr (Nat.le_refl _) (fun k hk => by cases hk), hown⟩
  · clear hv
    go_enter Yba.func10, Yba.ntmps10
    go_wp2_with (first
      | (at_make; refine wpList_make_own _ rfl _ _ 26 rfl w.heap.size 32 i0 _ 2 Yba.underlying26 hi hz0 hz1 .i64 .i64 _ n rfl rfl rfl (by rw [hz2]; omega) (by unfold maxLen; omega) (Nat.le_refl _) ?_; intro wm hown hgr; have HN := hidMk ((HV.out.kept hgr (by simp [Value.ownBlock])).cells rfl); have hsz := hgr.size)
      | (at_builtin; refine wpList_append_own _ rfl _ _ 26 rfl w.heap.size 32 i0 (.agg #[.string ⟨#[]⟩, .slice none 0 0]) 2 40 Yba.underlying26 hi hz0 hz1 hz2 rfl (by decide) _ _ _ rfl hown ⟨g, 0, none⟩ n cap xs rfl hlen HN.out h1 (by unfold maxLen; omega) (by omega) (by omega) ?_; intro v' w2 hown2 hgr2 hnil))
    go_ret
    refine ⟨v', rfl, ((Below.refl _ w).grown hgr (Nat.le_refl _) (fun k hk => by cases hk)).grown hgr2 (by omega) (fun k hk => by cases hk; exact Nat.le_refl _), ?_⟩
    rw [Nat.zero_add] at hown2
    exact hown2

theorem gen_any {b0 : Nat} (v : Value) (held : Bool) (n : Nat) (xs : List Value) (w : World) (hv : w.ownsRow b0 32 2 v n xs) (hn : n ≤ 1024) (h1 : ∀ u ∈ xs, u.oneCell' = true) :
    Calls Yba.prog 8 #[v, .bool held] w fun e w' => ∃ u, e = .returned u ∧ Below w.heap.size w w' ∧ w'.ownsRow w.heap.size 32 2 u n xs := by
  have H1 := hidMk (list_clone_any v n xs w hv hn h1)
  have H2 := hidMk (slices_clone_any v n xs w hv hn h1)
  clear hv h1
  cases held with
  | true =>
    go_enter Yba.func8, Yba.ntmps8
    go_wp2_with fail
    refine H1.out.mono ?_
    rintro e w' ⟨u, rfl, hB, hO⟩
    go_wp2_with fail
    go_ret
    exact ⟨u, rfl, hB, hO⟩
  | false =>
    go_enter Yba.func8, Yba.ntmps8
    go_wp2_with fail
    refine H2.out.mono ?_
    rintro e w' ⟨u, rfl, hB, hO⟩
    go_wp2_with fail
    go_ret
    exact ⟨u, rfl, hB, hO⟩
end Go.Proofs.Ybulkbeuy.Sh
