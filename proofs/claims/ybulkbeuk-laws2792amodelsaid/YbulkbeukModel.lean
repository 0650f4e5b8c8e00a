/- The walk of zzs2792amodel: it computes the plain count. -/
import Derived.Test.YbulkbeukTok
import Derived.Deep.DeepCutAuto
namespace Go.Proofs.Ybulkbeuk.Tok
open Go.ChangeShapes Go.WideShapes Go.ChangeAt Go.RowKit Go.Proofs.Ybulkbeuk.Cnt

set_option maxHeartbeats 1600000 in
theorem model_any (s : ByteArray) (cr : Bool) (w : World) (hs : s.size ≤ maxLen) :
    Calls Yba.prog 8 #[.string s, .bool cr] w fun e w' => e = .returned (.int .i64 (cnt cr none (byt s) : Int)) ∧ w' = w := by
  have hs' := hs
  unfold maxLen at hs'
  go_enter Yba.func8, Yba.ntmps8
  go_wp2_with fail
  go_loop [5, 6, 7, 8] (fun nv i _ _ => ∃ c k : Nat, nv = .int .i64 (c : Int) ∧ i = .int .i64 (k : Int) ∧ c ≤ k ∧ k ≤ s.size ∧ Hid (cnt cr none (byt s) = c + cnt cr none ((byt s).drop k))) (fun _ i _ _ => s.size - (intOf i).toNat)
  case atStart => exact ⟨0, 0, rfl, rfl, Nat.le_refl _, Nat.zero_le _, by show _ = _; simp⟩
  case round =>
    obtain ⟨c, k, rfl, rfl, hck, hk, HC⟩ := hrel
    by_cases hlt : k < s.size
    · have HD := hidMk (byt_drop s k hlt)
      go_upto_region 5 with fail
      go_cut [32] from 9 to 76 (fun b wc => b = .bool (sk cr (s[k].toNat : Int)) ∧ wc = w)
      case first =>
        by_cases h32 : ((s[k].toNat : Int) == 32) = true
        · have hr : sk cr (s[k].toNat : Int) = true := by simp only [sk, bl, h32, Bool.true_or]
          go_wp2_with fail
          go_meet
          case rel => exact ⟨by rw [hr], rfl⟩
        · have h32' : ((s[k].toNat : Int) == 32) = false := by simpa using h32
          clear h32
          by_cases h9 : ((s[k].toNat : Int) == 9) = true
          · have hr : sk cr (s[k].toNat : Int) = true := by simp only [sk, bl, h9, Bool.true_or, Bool.or_true]
            go_wp2_with fail
            go_meet
            case rel => exact ⟨by rw [hr], rfl⟩
          · have h9' : ((s[k].toNat : Int) == 9) = false := by simpa using h9
            clear h9
            cases cr
            · have hr : sk false (s[k].toNat : Int) = ((s[k].toNat : Int) == 44) := by simp only [sk, bl, h32', h9', Bool.false_and, Bool.false_or]
              go_wp2_with fail
              all_goals
                go_meet
                case rel => exact ⟨by rw [hr], rfl⟩
            · by_cases h13 : ((s[k].toNat : Int) == 13) = true
              · have hr : sk true (s[k].toNat : Int) = true := by simp only [sk, bl, h13, Bool.true_or, Bool.or_true, Bool.and_true]
                go_wp2_with fail
                go_meet
                case rel => exact ⟨by rw [hr], rfl⟩
              · have h13' : ((s[k].toNat : Int) == 13) = false := by simpa using h13
                clear h13
                have hr : sk true (s[k].toNat : Int) = ((s[k].toNat : Int) == 44) := by simp only [sk, bl, h32', h9', h13', Bool.and_false, Bool.false_or]
                go_wp2_with fail
                all_goals
                  go_meet
                  case rel => exact ⟨by rw [hr], rfl⟩
      case rest =>
        obtain ⟨rfl, rfl⟩ := hcut
        by_cases hsk : sk cr (s[k].toNat : Int) = true
        · rw [hsk]
          go_wp2_with fail
          go_round
          case rel => exact ⟨c, k + 1, rfl, by go_num, by omega, by omega, by show _ = _; rw [HC.out, HD.out, cnt_skip hsk]⟩
          case measure => simp [intOf]; omega
        · have hsk' : sk cr (s[k].toNat : Int) = false := by simpa using hsk
          clear hsk
          rw [hsk']
          by_cases h35 : ((s[k].toNat : Int) == 35) = true
          · go_wp2_with fail
            go_ret
            exact ⟨by rw [HC.out, HD.out, cnt_hash h35]; simp, rfl⟩
          · have h35' : ((s[k].toNat : Int) == 35) = false := by simpa using h35
            clear h35
            have HEN : Hid (en cr (s[k].toNat : Int) = false) := by
              show en cr (s[k].toNat : Int) = false
              unfold sk at hsk'
              simp only [en, hsk', h35', Bool.or_false]
            have HC2 : Hid (cnt cr none (byt s) = c + 1 + cnt cr (some false) ((byt s).drop k)) := by
              show cnt cr none (byt s) = c + 1 + cnt cr (some false) ((byt s).drop k)
              rw [HC.out, HD.out, cnt_start hsk' h35']
              omega
            clear HC HD
            go_wp2_with fail
            go_loop [6, 7, 8] (fun i _ qv => ∃ (j : Nat) (q : Bool), i = .int .i64 (j : Int) ∧ qv = .bool q ∧ k ≤ j ∧ j ≤ s.size ∧ Hid ((j = k ∧ q = false) ∨ k < j) ∧ Hid (cnt cr none (byt s) = c + 1 + cnt cr (some q) ((byt s).drop j))) (fun i _ _ => s.size - (intOf i).toNat)
            case atStart => exact ⟨k, false, rfl, rfl, Nat.le_refl _, hk, .inl ⟨rfl, rfl⟩, HC2⟩
            case round =>
              obtain ⟨j, q, rfl, rfl, hkj, hj, HJ, HC⟩ := hrel
              by_cases hlj : j < s.size
              · have HD := hidMk (byt_drop s j hlj)
                by_cases h34 : ((s[j].toNat : Int) == 34) = true
                · go_wp2_with fail
                  go_round
                  case rel => exact ⟨j + 1, !q, by go_num, rfl, by omega, by omega, .inr (by omega), by show _ = _; rw [HC.out, HD.out]; exact congrArg (c + 1 + ·) (cnt_quote h34)⟩
                  case measure => simp [intOf]; omega
                · have h34' : ((s[j].toNat : Int) == 34) = false := by simpa using h34
                  clear h34
                  go_upto_region 14 with fail
                  go_cut [74] from 39 to 76 (fun bv w2 => bv = .bool (!q && en cr (s[j].toNat : Int)) ∧ w2 = wc)
                  case first =>
                    cases q
                    · by_cases h32 : ((s[j].toNat : Int) == 32) = true
                      · have hr : (!false && en cr (s[j].toNat : Int)) = true := by simp only [en, bl, h32, Bool.true_or, Bool.not_false, Bool.and_true]
                        go_wp2_with fail
                        go_meet
                        case rel => exact ⟨by rw [hr], rfl⟩
                      · have h32' : ((s[j].toNat : Int) == 32) = false := by simpa using h32
                        clear h32
                        by_cases h9 : ((s[j].toNat : Int) == 9) = true
                        · have hr : (!false && en cr (s[j].toNat : Int)) = true := by simp only [en, bl, h9, Bool.true_or, Bool.or_true, Bool.not_false, Bool.and_true]
                          go_wp2_with fail
                          go_meet
                          case rel => exact ⟨by rw [hr], rfl⟩
                        · have h9' : ((s[j].toNat : Int) == 9) = false := by simpa using h9
                          clear h9
                          cases cr
                          · by_cases h44 : ((s[j].toNat : Int) == 44) = true
                            · have hr : (!false && en false (s[j].toNat : Int)) = true := by simp only [en, h44, Bool.or_true, Bool.true_or, Bool.not_false, Bool.and_true]
                              go_wp2_with fail
                              go_meet
                              case rel => exact ⟨by rw [hr], rfl⟩
                            · have h44' : ((s[j].toNat : Int) == 44) = false := by simpa using h44
                              clear h44
                              have hr : (!false && en false (s[j].toNat : Int)) = ((s[j].toNat : Int) == 35) := by simp only [en, bl, h32', h9', h44', Bool.false_and, Bool.false_or, Bool.not_false, Bool.true_and]
                              go_wp2_with fail
                              all_goals
                                go_meet
                                case rel => exact ⟨by rw [hr], rfl⟩
                          · by_cases h13 : ((s[j].toNat : Int) == 13) = true
                            · have hr : (!false && en true (s[j].toNat : Int)) = true := by simp only [en, bl, h13, Bool.true_or, Bool.or_true, Bool.not_false, Bool.and_true]
                              go_wp2_with fail
                              go_meet
                              case rel => exact ⟨by rw [hr], rfl⟩
                            · have h13' : ((s[j].toNat : Int) == 13) = false := by simpa using h13
                              clear h13
                              by_cases h44 : ((s[j].toNat : Int) == 44) = true
                              · have hr : (!false && en true (s[j].toNat : Int)) = true := by simp only [en, h44, Bool.or_true, Bool.true_or, Bool.not_false, Bool.and_true]
                                go_wp2_with fail
                                go_meet
                                case rel => exact ⟨by rw [hr], rfl⟩
                              · have h44' : ((s[j].toNat : Int) == 44) = false := by simpa using h44
                                clear h44
                                have hr : (!false && en true (s[j].toNat : Int)) = ((s[j].toNat : Int) == 35) := by simp only [en, bl, h32', h9', h13', h44', Bool.and_false, Bool.false_or, Bool.not_false, Bool.true_and]
                                go_wp2_with fail
                                all_goals
                                  go_meet
                                  case rel => exact ⟨by rw [hr], rfl⟩
                    · have hr : (!true && en cr (s[j].toNat : Int)) = false := rfl
                      go_wp2_with fail
                      go_meet
                      case rel => exact ⟨by rw [hr], rfl⟩
                  case rest =>
                    obtain ⟨rfl, rfl⟩ := hcut
                    by_cases hen : (!q && en cr (s[j].toNat : Int)) = true
                    · rw [hen]
                      have hq : q = false := by cases q <;> simp_all
                      have hee : en cr (s[j].toNat : Int) = true := by simpa [hq] using hen
                      have HE := hidMk hee
                      have HQ := hidMk hq
                      clear hen hee hq
                      go_wp2_with fail
                      have hkj' : k < j := by
                        rcases HJ.out with ⟨rfl, _⟩ | h
                        · exact absurd (HEN.out.symm.trans HE.out) (by simp)
                        · exact h
                      go_round
                      case rel => exact ⟨c + 1, j, by go_num, rfl, by omega, hj, by show _ = _; rw [HC.out, HD.out]; exact congrArg (c + 1 + ·) (cnt_end h34' HQ.out HE.out)⟩
                      case measure => simp [intOf]; omega
                    · have hen' : (!q && en cr (s[j].toNat : Int)) = false := by simpa using hen
                      clear hen
                      rw [hen']
                      go_wp2_with fail
                      go_round
                      case rel => exact ⟨j + 1, q, by go_num, rfl, by omega, by omega, .inr (by omega), by show _ = _; rw [HC.out, HD.out]; exact congrArg (c + 1 + ·) (cnt_in h34' hen')⟩
                      case measure => simp [intOf]; omega
              · go_wp2_with fail
                go_round
                case rel => exact ⟨c + 1, j, by go_num, rfl, by omega, hj, by show _ = _; rw [HC.out, byt_end s j hlj, cnt_nil, cnt_nil]⟩
                case measure => simp [intOf]; omega
    · go_wp2_with fail
      go_ret
      exact ⟨by rw [HC.out, byt_end s k hlt, cnt_nil]; simp, rfl⟩
end Go.Proofs.Ybulkbeuk.Tok
