/- The validator: if it says yes, the text is the forms of valid runes. -/
import Derived.Test.YtlebpbohddineaaModel
namespace Go.Proofs.Ytlebpbohddineaa
open Go.RowKit
def SaysValid (s : ByteArray) (w : World) (e : Ending) (w' : World) : Prop := ∃ b : Bool, e = .returned (.bool b) ∧ (b = true → ValidTo s s.size) ∧ w = w'
set_option maxRecDepth 100000 in
set_option maxHeartbeats 12000000 in
theorem valid_any (s : ByteArray) (w : World) (hs : s.size ≤ 1048576) : Calls Try.prog 13 #[.string s] w (SaysValid s w) := by
  go_enter Try.func13, Try.ntmps13
  go_wp2
  go_loop [4] (fun i => ∃ k : Nat, k ≤ s.size ∧ i = .int .i64 k ∧ Hid (ValidTo s k)) (fun i => s.size - (intOf i).toNat)
  case atStart => exact ⟨0, Nat.zero_le _, rfl, ValidTo.zero s⟩
  case round =>
    obtain ⟨k, hk, rfl, hv⟩ := hrel
    by_cases hlt : k < s.size
    · skip
      by_cases c1 : (s[k].toNat : Int) < 128
      · skip
        have HV : Hid (ValidTo s (k + 1)) := hv.out.one hlt (by omega)
        clear hv
        go_wp2_with (go_at_call 19; refine (cont_any _ _).mono ?_; rintro e w' ⟨rfl, rfl⟩)
        go_round
        case rel => exact ⟨k + 1, by omega, by go_num, HV.out⟩
        case measure => simp [intOf]; omega
      · by_cases c2 : (s[k].toNat : Int) < 194
        · skip
          go_wp2_with (go_at_call 19; refine (cont_any _ _).mono ?_; rintro e w' ⟨rfl, rfl⟩)
          go_ret
          exact ⟨false, rfl, fun h => Bool.noConfusion h, rfl⟩
        · by_cases c3 : (s[k].toNat : Int) ≤ 223
          · by_cases hn : k + 1 < s.size
            · skip
              by_cases q1 : contB (s[k + 1].toNat : Int) = true
              · have q1b := of_decide_eq_true q1
                have HV : Hid (ValidTo s (k + 2)) := hv.out.two hn (by omega) (by omega) (by omega) (by omega)
                clear hv
                go_wp2_with (go_at_call 19; refine (cont_any _ _).mono ?_; rintro e w' ⟨rfl, rfl⟩)
                go_round
                case rel => exact ⟨k + 2, by omega, by go_num, HV.out⟩
                case measure => simp [intOf]; omega
              · have q1 : contB (s[k + 1].toNat : Int) = false := by simpa using q1
                go_wp2_with (go_at_call 19; refine (cont_any _ _).mono ?_; rintro e w' ⟨rfl, rfl⟩)
                go_ret
                exact ⟨false, rfl, fun h => Bool.noConfusion h, rfl⟩
            · skip
              go_wp2_with (go_at_call 19; refine (cont_any _ _).mono ?_; rintro e w' ⟨rfl, rfl⟩)
              go_ret
              exact ⟨false, rfl, fun h => Bool.noConfusion h, rfl⟩
          · by_cases c4 : (s[k].toNat : Int) ≤ 239
            · by_cases hn : k + 2 < s.size
              · by_cases e1 : (s[k].toNat : Int) = 224
                · have e1b : ((s[k].toNat : Int) == 224) = true := by simpa using e1
                  have e2b : ((s[k].toNat : Int) == 237) = false := by simp; omega
                  have E1 := Lib.hid e1
                  have f1 : 224 ≤ (s[k].toNat : Int) := by omega
                  have f2 : (s[k].toNat : Int) ≤ 224 := by omega
                  clear e1
                  by_cases r1 : (s[k + 1].toNat : Int) < 160
                  · skip
                    go_wp2_with (go_at_call 19; refine (cont_any _ _).mono ?_; rintro e w' ⟨rfl, rfl⟩)
                    go_ret
                    exact ⟨false, rfl, fun h => Bool.noConfusion h, rfl⟩
                  · by_cases r2 : 191 < (s[k + 1].toNat : Int)
                    · skip
                      go_wp2_with (go_at_call 19; refine (cont_any _ _).mono ?_; rintro e w' ⟨rfl, rfl⟩)
                      go_ret
                      exact ⟨false, rfl, fun h => Bool.noConfusion h, rfl⟩
                    · skip
                      by_cases q2 : contB (s[k + 2].toNat : Int) = true
                      · have q2b := of_decide_eq_true q2
                        have HV : Hid (ValidTo s (k + 3)) := hv.out.three hn (by omega) (by omega) (by omega) (by omega) (by omega) (by omega) (by omega) (by omega)
                        clear hv
                        go_wp2_with (go_at_call 19; refine (cont_any _ _).mono ?_; rintro e w' ⟨rfl, rfl⟩)
                        go_round
                        case rel => exact ⟨k + 3, by omega, by go_num, HV.out⟩
                        case measure => simp [intOf]; omega
                      · have q2 : contB (s[k + 2].toNat : Int) = false := by simpa using q2
                        go_wp2_with (go_at_call 19; refine (cont_any _ _).mono ?_; rintro e w' ⟨rfl, rfl⟩)
                        go_ret
                        exact ⟨false, rfl, fun h => Bool.noConfusion h, rfl⟩
                · have e1b : ((s[k].toNat : Int) == 224) = false := by simpa using e1
                  by_cases e2 : (s[k].toNat : Int) = 237
                  · have e2b : ((s[k].toNat : Int) == 237) = true := by simpa using e2
                    have f1 : 237 ≤ (s[k].toNat : Int) := by omega
                    have f2 : (s[k].toNat : Int) ≤ 237 := by omega
                    clear e2
                    by_cases r1 : (s[k + 1].toNat : Int) < 128
                    · skip
                      go_wp2_with (go_at_call 19; refine (cont_any _ _).mono ?_; rintro e w' ⟨rfl, rfl⟩)
                      go_ret
                      exact ⟨false, rfl, fun h => Bool.noConfusion h, rfl⟩
                    · by_cases r2 : 159 < (s[k + 1].toNat : Int)
                      · skip
                        go_wp2_with (go_at_call 19; refine (cont_any _ _).mono ?_; rintro e w' ⟨rfl, rfl⟩)
                        go_ret
                        exact ⟨false, rfl, fun h => Bool.noConfusion h, rfl⟩
                      · skip
                        by_cases q2 : contB (s[k + 2].toNat : Int) = true
                        · have q2b := of_decide_eq_true q2
                          have HV : Hid (ValidTo s (k + 3)) := hv.out.three hn (by omega) (by omega) (by omega) (by omega) (by omega) (by omega) (by omega) (by omega)
                          clear hv
                          go_wp2_with (go_at_call 19; refine (cont_any _ _).mono ?_; rintro e w' ⟨rfl, rfl⟩)
                          go_round
                          case rel => exact ⟨k + 3, by omega, by go_num, HV.out⟩
                          case measure => simp [intOf]; omega
                        · have q2 : contB (s[k + 2].toNat : Int) = false := by simpa using q2
                          go_wp2_with (go_at_call 19; refine (cont_any _ _).mono ?_; rintro e w' ⟨rfl, rfl⟩)
                          go_ret
                          exact ⟨false, rfl, fun h => Bool.noConfusion h, rfl⟩
                  · have e2b : ((s[k].toNat : Int) == 237) = false := by simpa using e2
                    skip
                    by_cases r1 : (s[k + 1].toNat : Int) < 128
                    · skip
                      go_wp2_with (go_at_call 19; refine (cont_any _ _).mono ?_; rintro e w' ⟨rfl, rfl⟩)
                      go_ret
                      exact ⟨false, rfl, fun h => Bool.noConfusion h, rfl⟩
                    · by_cases r2 : 191 < (s[k + 1].toNat : Int)
                      · skip
                        go_wp2_with (go_at_call 19; refine (cont_any _ _).mono ?_; rintro e w' ⟨rfl, rfl⟩)
                        go_ret
                        exact ⟨false, rfl, fun h => Bool.noConfusion h, rfl⟩
                      · skip
                        by_cases q2 : contB (s[k + 2].toNat : Int) = true
                        · have q2b := of_decide_eq_true q2
                          have HV : Hid (ValidTo s (k + 3)) := hv.out.three hn (by omega) (by omega) (by omega) (by omega) (by omega) (by omega) (by omega) (by omega)
                          clear hv
                          go_wp2_with (go_at_call 19; refine (cont_any _ _).mono ?_; rintro e w' ⟨rfl, rfl⟩)
                          go_round
                          case rel => exact ⟨k + 3, by omega, by go_num, HV.out⟩
                          case measure => simp [intOf]; omega
                        · have q2 : contB (s[k + 2].toNat : Int) = false := by simpa using q2
                          go_wp2_with (go_at_call 19; refine (cont_any _ _).mono ?_; rintro e w' ⟨rfl, rfl⟩)
                          go_ret
                          exact ⟨false, rfl, fun h => Bool.noConfusion h, rfl⟩
              · skip
                go_wp2_with (go_at_call 19; refine (cont_any _ _).mono ?_; rintro e w' ⟨rfl, rfl⟩)
                go_ret
                exact ⟨false, rfl, fun h => Bool.noConfusion h, rfl⟩
            · by_cases c5 : (s[k].toNat : Int) ≤ 244
              · by_cases hn : k + 3 < s.size
                · by_cases e1 : (s[k].toNat : Int) = 240
                  · have e1b : ((s[k].toNat : Int) == 240) = true := by simpa using e1
                    have e2b : ((s[k].toNat : Int) == 244) = false := by simp; omega
                    have f1 : 240 ≤ (s[k].toNat : Int) := by omega
                    have f2 : (s[k].toNat : Int) ≤ 240 := by omega
                    clear e1
                    by_cases r1 : (s[k + 1].toNat : Int) < 144
                    · skip
                      go_wp2_with (go_at_call 19; refine (cont_any _ _).mono ?_; rintro e w' ⟨rfl, rfl⟩)
                      go_ret
                      exact ⟨false, rfl, fun h => Bool.noConfusion h, rfl⟩
                    · by_cases r2 : 191 < (s[k + 1].toNat : Int)
                      · skip
                        go_wp2_with (go_at_call 19; refine (cont_any _ _).mono ?_; rintro e w' ⟨rfl, rfl⟩)
                        go_ret
                        exact ⟨false, rfl, fun h => Bool.noConfusion h, rfl⟩
                      · skip
                        by_cases q2 : contB (s[k + 2].toNat : Int) = true
                        · have q2b := of_decide_eq_true q2
                          by_cases q3 : contB (s[k + 3].toNat : Int) = true
                          · have q3b := of_decide_eq_true q3
                            have HV : Hid (ValidTo s (k + 4)) := hv.out.four hn (by omega) (by omega) (by omega) (by omega) (by omega) (by omega) (by omega) (by omega) (by omega) (by omega)
                            clear hv
                            go_wp2_with (go_at_call 19; refine (cont_any _ _).mono ?_; rintro e w' ⟨rfl, rfl⟩)
                            go_round
                            case rel => exact ⟨k + 4, by omega, by go_num, HV.out⟩
                            case measure => simp [intOf]; omega
                          · have q3 : contB (s[k + 3].toNat : Int) = false := by simpa using q3
                            go_wp2_with (go_at_call 19; refine (cont_any _ _).mono ?_; rintro e w' ⟨rfl, rfl⟩)
                            go_ret
                            exact ⟨false, rfl, fun h => Bool.noConfusion h, rfl⟩
                        · have q2 : contB (s[k + 2].toNat : Int) = false := by simpa using q2
                          go_wp2_with (go_at_call 19; refine (cont_any _ _).mono ?_; rintro e w' ⟨rfl, rfl⟩)
                          go_ret
                          exact ⟨false, rfl, fun h => Bool.noConfusion h, rfl⟩
                  · have e1b : ((s[k].toNat : Int) == 240) = false := by simpa using e1
                    by_cases e2 : (s[k].toNat : Int) = 244
                    · have e2b : ((s[k].toNat : Int) == 244) = true := by simpa using e2
                      have f1 : 244 ≤ (s[k].toNat : Int) := by omega
                      have f2 : (s[k].toNat : Int) ≤ 244 := by omega
                      clear e2
                      by_cases r1 : (s[k + 1].toNat : Int) < 128
                      · skip
                        go_wp2_with (go_at_call 19; refine (cont_any _ _).mono ?_; rintro e w' ⟨rfl, rfl⟩)
                        go_ret
                        exact ⟨false, rfl, fun h => Bool.noConfusion h, rfl⟩
                      · by_cases r2 : 143 < (s[k + 1].toNat : Int)
                        · skip
                          go_wp2_with (go_at_call 19; refine (cont_any _ _).mono ?_; rintro e w' ⟨rfl, rfl⟩)
                          go_ret
                          exact ⟨false, rfl, fun h => Bool.noConfusion h, rfl⟩
                        · skip
                          by_cases q2 : contB (s[k + 2].toNat : Int) = true
                          · have q2b := of_decide_eq_true q2
                            by_cases q3 : contB (s[k + 3].toNat : Int) = true
                            · have q3b := of_decide_eq_true q3
                              have HV : Hid (ValidTo s (k + 4)) := hv.out.four hn (by omega) (by omega) (by omega) (by omega) (by omega) (by omega) (by omega) (by omega) (by omega) (by omega)
                              clear hv
                              go_wp2_with (go_at_call 19; refine (cont_any _ _).mono ?_; rintro e w' ⟨rfl, rfl⟩)
                              go_round
                              case rel => exact ⟨k + 4, by omega, by go_num, HV.out⟩
                              case measure => simp [intOf]; omega
                            · have q3 : contB (s[k + 3].toNat : Int) = false := by simpa using q3
                              go_wp2_with (go_at_call 19; refine (cont_any _ _).mono ?_; rintro e w' ⟨rfl, rfl⟩)
                              go_ret
                              exact ⟨false, rfl, fun h => Bool.noConfusion h, rfl⟩
                          · have q2 : contB (s[k + 2].toNat : Int) = false := by simpa using q2
                            go_wp2_with (go_at_call 19; refine (cont_any _ _).mono ?_; rintro e w' ⟨rfl, rfl⟩)
                            go_ret
                            exact ⟨false, rfl, fun h => Bool.noConfusion h, rfl⟩
                    · have e2b : ((s[k].toNat : Int) == 244) = false := by simpa using e2
                      skip
                      by_cases r1 : (s[k + 1].toNat : Int) < 128
                      · skip
                        go_wp2_with (go_at_call 19; refine (cont_any _ _).mono ?_; rintro e w' ⟨rfl, rfl⟩)
                        go_ret
                        exact ⟨false, rfl, fun h => Bool.noConfusion h, rfl⟩
                      · by_cases r2 : 191 < (s[k + 1].toNat : Int)
                        · skip
                          go_wp2_with (go_at_call 19; refine (cont_any _ _).mono ?_; rintro e w' ⟨rfl, rfl⟩)
                          go_ret
                          exact ⟨false, rfl, fun h => Bool.noConfusion h, rfl⟩
                        · skip
                          by_cases q2 : contB (s[k + 2].toNat : Int) = true
                          · have q2b := of_decide_eq_true q2
                            by_cases q3 : contB (s[k + 3].toNat : Int) = true
                            · have q3b := of_decide_eq_true q3
                              have HV : Hid (ValidTo s (k + 4)) := hv.out.four hn (by omega) (by omega) (by omega) (by omega) (by omega) (by omega) (by omega) (by omega) (by omega) (by omega)
                              clear hv
                              go_wp2_with (go_at_call 19; refine (cont_any _ _).mono ?_; rintro e w' ⟨rfl, rfl⟩)
                              go_round
                              case rel => exact ⟨k + 4, by omega, by go_num, HV.out⟩
                              case measure => simp [intOf]; omega
                            · have q3 : contB (s[k + 3].toNat : Int) = false := by simpa using q3
                              go_wp2_with (go_at_call 19; refine (cont_any _ _).mono ?_; rintro e w' ⟨rfl, rfl⟩)
                              go_ret
                              exact ⟨false, rfl, fun h => Bool.noConfusion h, rfl⟩
                          · have q2 : contB (s[k + 2].toNat : Int) = false := by simpa using q2
                            go_wp2_with (go_at_call 19; refine (cont_any _ _).mono ?_; rintro e w' ⟨rfl, rfl⟩)
                            go_ret
                            exact ⟨false, rfl, fun h => Bool.noConfusion h, rfl⟩
                · skip
                  go_wp2_with (go_at_call 19; refine (cont_any _ _).mono ?_; rintro e w' ⟨rfl, rfl⟩)
                  go_ret
                  exact ⟨false, rfl, fun h => Bool.noConfusion h, rfl⟩
              · skip
                go_wp2_with (go_at_call 19; refine (cont_any _ _).mono ?_; rintro e w' ⟨rfl, rfl⟩)
                go_ret
                exact ⟨false, rfl, fun h => Bool.noConfusion h, rfl⟩
    · obtain rfl : k = s.size := by omega
      go_wp2
      go_ret
      exact ⟨true, rfl, fun _ => hv.out, rfl⟩
end Go.Proofs.Ytlebpbohddineaa
