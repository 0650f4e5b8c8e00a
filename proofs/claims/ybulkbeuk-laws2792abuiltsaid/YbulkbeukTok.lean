/- The walks of isBlank, nextElement, countElements: they compute the plain count. -/
import Derived.Test.YbulkbeukRows
import Derived.Test.YbulkbeukCnt
import Derived.WalkKit
import Derived.ProofKit
import Derived.WalkSpells
namespace Go.Proofs.Ybulkbeuk.Tok
open Go.ChangeShapes Go.WideShapes Go.ChangeAt Go.RowKit Go.Proofs.Ybulkbeuk.Cnt

theorem hidMk {p : Prop} (h : p) : Hid p := h

/-- isBlank -/
theorem isBlank_any (x : Int) (cr : Bool) (w : World) :
    Calls Yba.prog 20 #[.int .u8 x, .bool cr] w fun e w' => e = .returned (.bool (bl cr x)) ∧ w' = w := by
  by_cases h1 : (x == 32) = true
  · have hb : bl cr x = true := by simp only [bl, h1]; rfl
    rw [hb]; clear hb
    go_enter Yba.func20, Yba.ntmps20
    go_wp2
    go_ret
    exact ⟨rfl, rfl⟩
  · have h1' : (x == 32) = false := by simpa using h1
    clear h1
    by_cases h2 : (x == 9) = true
    · have hb : bl cr x = true := by simp only [bl, h1', h2]; rfl
      rw [hb]; clear hb
      go_enter Yba.func20, Yba.ntmps20
      go_wp2
      go_ret
      exact ⟨rfl, rfl⟩
    · have h2' : (x == 9) = false := by simpa using h2
      clear h2
      cases cr
      · have hb : bl false x = false := by simp only [bl, h1', h2']; rfl
        rw [hb]; clear hb
        go_enter Yba.func20, Yba.ntmps20
        go_wp2
        go_ret
        exact ⟨rfl, rfl⟩
      · have hb : bl true x = (x == 13) := by simp only [bl, h1', h2']; rfl
        rw [hb]; clear hb
        go_enter Yba.func20, Yba.ntmps20
        go_wp2
        all_goals
          go_ret
          exact ⟨rfl, rfl⟩

/-- nextElement: from place p on -/
def Next (s : ByteArray) (cr : Bool) (p : Nat) (e : Ending) : Prop :=
  (∃ p' : Nat, e = .returned (.tuple #[.string ⟨#[]⟩, .int .i64 (p' : Int), .bool false]) ∧ cnt cr none ((byt s).drop p) = 0) ∨
  (∃ (t : ByteArray) (p' : Nat), e = .returned (.tuple #[.string t, .int .i64 (p' : Int), .bool true]) ∧ p < p' ∧ p' ≤ s.size ∧ cnt cr none ((byt s).drop p) = cnt cr none ((byt s).drop p') + 1)

set_option maxHeartbeats 800000 in
theorem next_any (s : ByteArray) (p : Nat) (cr : Bool) (w : World) (hs : s.size ≤ maxLen) (hp : p ≤ s.size) :
    Calls Yba.prog 16 #[.string s, .int .i64 (p : Int), .bool cr] w fun e w' => Next s cr p e ∧ w' = w := by
  unfold maxLen at hs
  go_enter Yba.func16, Yba.ntmps16
  go_wp2_with fail
  go_loop [1] (fun i => ∃ k : Nat, i = .int .i64 (k : Int) ∧ p ≤ k ∧ k ≤ s.size ∧ Hid (cnt cr none ((byt s).drop p) = cnt cr none ((byt s).drop k))) (fun i => s.size - (intOf i).toNat)
  case atStart => exact ⟨p, rfl, Nat.le_refl _, hp, rfl⟩
  case round =>
    obtain ⟨k, rfl, hpk, hk, HC⟩ := hrel
    by_cases hlt : k < s.size
    · have HD := hidMk (byt_drop s k hlt)
      by_cases hb : bl cr (s[k].toNat : Int) = true
      · go_wp2_with (go_at_call 20; refine (isBlank_any _ _ _).mono ?_; rintro e w' ⟨rfl, rfl⟩)
        go_round
        case rel => exact ⟨k + 1, by go_num, by omega, by omega, by rw [HC.out, HD.out]; exact cnt_skip (by simp [sk, hb])⟩
        case measure => simp [intOf]; omega
      · have hb' : bl cr (s[k].toNat : Int) = false := by simpa using hb
        clear hb
        by_cases h44 : ((s[k].toNat : Int) == 44) = true
        · go_wp2_with (go_at_call 20; refine (isBlank_any _ _ _).mono ?_; rintro e w' ⟨rfl, rfl⟩)
          go_round
          case rel => exact ⟨k + 1, by go_num, by omega, by omega, by rw [HC.out, HD.out]; exact cnt_skip (by simp only [sk, h44, Bool.or_true])⟩
          case measure => simp [intOf]; omega
        · have h44' : ((s[k].toNat : Int) == 44) = false := by simpa using h44
          clear h44
          have hne : ((k : Int) == (s.size : Int)) = false := by simp; omega
          by_cases h35 : ((s[k].toNat : Int) == 35) = true
          · go_wp2_with (go_at_call 20; refine (isBlank_any _ _ _).mono ?_; rintro e w' ⟨rfl, rfl⟩)
            go_ret3
            exact ⟨.inl ⟨k, rfl, by rw [HC.out, HD.out]; exact cnt_hash h35⟩, rfl⟩
          · have h35' : ((s[k].toNat : Int) == 35) = false := by simpa using h35
            clear h35
            have hsk : sk cr (s[k].toNat : Int) = false := by simp only [sk, hb', h44', Bool.or_false]
            have HC2 : Hid (cnt cr none ((byt s).drop p) = cnt cr (some false) ((byt s).drop k) + 1) := by
              show cnt cr none ((byt s).drop p) = cnt cr (some false) ((byt s).drop k) + 1
              rw [HC.out, HD.out]
              exact cnt_start hsk h35'
            have HEN : Hid (en cr (s[k].toNat : Int) = false) := by
              show en cr (s[k].toNat : Int) = false
              simp only [en, hb', h44', h35', Bool.or_false]
            clear hsk HC HD
            go_wp2_with (go_at_call 20; refine (isBlank_any _ _ _).mono ?_; rintro e w' ⟨rfl, rfl⟩)
            go_loop [1, 10, 11] (fun i qv _ => ∃ (j : Nat) (q : Bool), i = .int .i64 (j : Int) ∧ qv = .bool q ∧ k ≤ j ∧ j ≤ s.size ∧ Hid ((j = k ∧ q = false) ∨ k < j) ∧ Hid (cnt cr none ((byt s).drop p) = cnt cr (some q) ((byt s).drop j) + 1)) (fun i _ _ => s.size - (intOf i).toNat)
            case atStart => exact ⟨k, false, rfl, rfl, Nat.le_refl _, hk, .inl ⟨rfl, rfl⟩, HC2⟩
            case round =>
              obtain ⟨j, q, rfl, rfl, hkj, hj, HJ, HC⟩ := hrel
              by_cases hlj : j < s.size
              · have HD := hidMk (byt_drop s j hlj)
                by_cases h34 : ((s[j].toNat : Int) == 34) = true
                · go_wp2_with fail
                  go_round
                  case rel => exact ⟨j + 1, !q, by go_num, rfl, by omega, by omega, .inr (by omega), by show _ = _; rw [HC.out, HD.out]; exact congrArg (· + 1) (cnt_quote h34)⟩
                  case measure => simp [intOf]; omega
                · have h34' : ((s[j].toNat : Int) == 34) = false := by simpa using h34
                  clear h34
                  cases q
                  · by_cases hb1 : bl cr (s[j].toNat : Int) = true
                    · have hen : en cr (s[j].toNat : Int) = true := by simp only [en, hb1, Bool.true_or]
                      go_wp2_with (go_at_call 20; refine (isBlank_any _ _ _).mono ?_; rintro e w' ⟨rfl, rfl⟩)
                      go_ret3
                      exact ⟨.inr ⟨_, j, rfl, by rcases HJ.out with ⟨rfl, _⟩ | h; exact absurd (HEN.out.symm.trans hen) (by simp); omega, hj, by rw [HC.out, HD.out]; exact congrArg (· + 1) (cnt_end h34' rfl hen)⟩, rfl⟩
                    · have hb1' : bl cr (s[j].toNat : Int) = false := by simpa using hb1
                      clear hb1
                      by_cases h44j : ((s[j].toNat : Int) == 44) = true
                      · have hen : en cr (s[j].toNat : Int) = true := by simp only [en, h44j, Bool.true_or, Bool.or_true]
                        go_wp2_with (go_at_call 20; refine (isBlank_any _ _ _).mono ?_; rintro e w' ⟨rfl, rfl⟩)
                        go_ret3
                        exact ⟨.inr ⟨_, j, rfl, by rcases HJ.out with ⟨rfl, _⟩ | h; exact absurd (HEN.out.symm.trans hen) (by simp); omega, hj, by rw [HC.out, HD.out]; exact congrArg (· + 1) (cnt_end h34' rfl hen)⟩, rfl⟩
                      · have h44j' : ((s[j].toNat : Int) == 44) = false := by simpa using h44j
                        clear h44j
                        by_cases h35j : ((s[j].toNat : Int) == 35) = true
                        · have hen : en cr (s[j].toNat : Int) = true := by simp only [en, h35j, Bool.or_true]
                          go_wp2_with (go_at_call 20; refine (isBlank_any _ _ _).mono ?_; rintro e w' ⟨rfl, rfl⟩)
                          go_ret3
                          exact ⟨.inr ⟨_, j, rfl, by rcases HJ.out with ⟨rfl, _⟩ | h; exact absurd (HEN.out.symm.trans hen) (by simp); omega, hj, by rw [HC.out, HD.out]; exact congrArg (· + 1) (cnt_end h34' rfl hen)⟩, rfl⟩
                        · have h35j' : ((s[j].toNat : Int) == 35) = false := by simpa using h35j
                          clear h35j
                          have hen : en cr (s[j].toNat : Int) = false := by simp only [en, hb1', h44j', h35j', Bool.or_false]
                          have HEN2 := hidMk hen
                          clear hen
                          go_wp2_with (go_at_call 20; refine (isBlank_any _ _ _).mono ?_; rintro e w' ⟨rfl, rfl⟩)
                          go_round
                          case rel => exact ⟨j + 1, false, by go_num, rfl, by omega, by omega, .inr (by omega), by show _ = _; rw [HC.out, HD.out]; exact congrArg (· + 1) (cnt_in h34' (by rw [HEN2.out]; rfl))⟩
                          case measure => simp [intOf]; omega
                  · go_wp2_with fail
                    go_round
                    case rel => exact ⟨j + 1, true, by go_num, rfl, by omega, by omega, .inr (by omega), by show _ = _; rw [HC.out, HD.out]; exact congrArg (· + 1) (cnt_in h34' rfl)⟩
                    case measure => simp [intOf]; omega
              · go_wp2_with fail
                go_ret3
                exact ⟨.inr ⟨_, j, rfl, by rcases HJ.out with ⟨rfl, _⟩ | h <;> omega, hj, by rw [HC.out, byt_end s j hlj, cnt_nil, cnt_nil]⟩, rfl⟩
    · have hne : ((k : Int) == (s.size : Int)) = true := by simp; omega
      go_wp2_with fail
      go_ret3
      exact ⟨.inl ⟨k, rfl, by rw [HC.out, byt_end s k hlt]; exact cnt_nil _ _⟩, rfl⟩

set_option maxHeartbeats 400000 in
/-- countElements -/
theorem count_any (s : ByteArray) (cr : Bool) (w : World) (hs : s.size ≤ maxLen) :
    Calls Yba.prog 7 #[.string s, .bool cr] w fun e w' => e = .returned (.int .i64 (cnt cr none (byt s) : Int)) ∧ w' = w := by
  have hs' := hs
  unfold maxLen at hs'
  go_enter Yba.func7, Yba.ntmps7
  go_wp2_with fail
  go_loop [5, 6, 7] (fun nv i _ => ∃ c p : Nat, nv = .int .i64 (c : Int) ∧ i = .int .i64 (p : Int) ∧ c ≤ p ∧ p ≤ s.size ∧ Hid (cnt cr none (byt s) = c + cnt cr none ((byt s).drop p))) (fun _ i _ => s.size - (intOf i).toNat)
  case atStart => exact ⟨0, 0, rfl, rfl, Nat.le_refl _, Nat.zero_le _, by show _ = _; simp⟩
  case round =>
    obtain ⟨c, p, rfl, rfl, hcp, hp, HC⟩ := hrel
    go_wp2_with fail
    refine (next_any s p cr _ hs hp).mono ?_
    rintro e w' ⟨hN, rfl⟩
    rcases hN with ⟨p', rfl, h0⟩ | ⟨t, p', rfl, h1, h2, h3⟩
    · have H0 := hidMk h0
      clear h0
      go_wp2_with fail
      go_ret
      refine ⟨?_, rfl⟩
      rw [HC.out, H0.out]
      simp
    · have H3 := hidMk h3
      clear h3
      go_wp2_with fail
      go_round
      case rel => exact ⟨c + 1, p', by go_num, rfl, by omega, h2, by show _ = _; rw [HC.out, H3.out]; omega⟩
      case measure => simp [intOf]; omega

end Go.Proofs.Ybulkbeuk.Tok
