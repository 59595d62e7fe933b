import Derived.Test.YbulkecriDoorWalks
namespace Go.Proofs.YbulkecriDoor
open Go.ChangeShapes Go.WideShapes Go.ChangeAt Go.RowKit
set_option maxRecDepth 100000

set_option maxHeartbeats 4000000 in
theorem model_big_false (e f : Nat) (w : World) (h64 : 64 < e) :
    Calls Ybad.prog 8 #[.int .u64 e, .int .u64 f, .bool false] w fun r w' => r = .returned (.tuple #[.int .u64 (hiN (onB e f false) 128), .int .u64 (loN (onB e f false) 128)]) ∧ w' = w := by
  have e1 := sub1_eq f
  have e2 := addW_eq e f
  go_enter Ybad.func8, Ybad.ntmps8
  go_wp2
  go_loop [11, 12, 13] (fun h l i => ∃ k : Nat, k ≤ 128 ∧ i = .int .u64 k ∧ h = .int .u64 (hiN (onB e f false) k) ∧ l = .int .u64 (loN (onB e f false) k)) (fun _ _ i => 128 - (intOf i).toNat)
  case atStart => exact ⟨0, Nat.zero_le _, rfl, rfl, rfl⟩
  case round =>
    obtain ⟨k, hk, rfl, rfl, rfl⟩ := hrel
    by_cases hlt : k < 128
    · by_cases hlow : k < 64
      · skip
        by_cases h1 : f ≤ k ∧ k - f < min e 64
        · obtain ⟨h1a, h1b⟩ := h1
          have HON : Hid (onB e f false k = true) := onB_A h1a h1b
          have h1c : (k : Int) - (f : Int) < 64 := by omega
          clear h1b
          go_wp2
          all_goals
            go_round
            case rel => exact ⟨k + 1, by omega, by go_num, by rw [hi_near hlow], by rw [lo_on HON.out hlow]⟩
            case measure => simp [intOf]; omega
        have h1' : ¬ f ≤ k ∨ (f ≤ k ∧ ¬ (k : Int) - (f : Int) < 64) := by omega
        by_cases h2 : k = sub1 f
        · have HON : Hid (onB e f false k = true) := onB_B h2
          have h2' : ((k : Int) == ((sub1 f : Nat) : Int)) = true := by simp [← h2]
          clear h2 h1
          rcases h1' with h1' | ⟨h1a, h1b⟩
          all_goals go_wp2
          all_goals
            go_round
            case rel => exact ⟨k + 1, by omega, by go_num, by rw [hi_near hlow], by rw [lo_on HON.out hlow]⟩
            case measure => simp [intOf]; omega
        have h2' : ((k : Int) == ((sub1 f : Nat) : Int)) = false := by simpa using (by omega : ¬ (k : Int) = ((sub1 f : Nat) : Int))
        have HON : Hid (onB e f false k = false) := onB_D h1 h2 (fun h => by cases h)
        clear h1 h2
        rcases h1' with h1' | ⟨h1a, h1b⟩
        all_goals go_wp2
        all_goals
          go_round
          case rel => exact ⟨k + 1, by omega, by go_num, by rw [hi_off HON.out], by rw [lo_off HON.out]⟩
          case measure => simp [intOf]; omega
      · skip
        by_cases h1 : f ≤ k ∧ k - f < min e 64
        · obtain ⟨h1a, h1b⟩ := h1
          have HON : Hid (onB e f false k = true) := onB_A h1a h1b
          have h1c : (k : Int) - (f : Int) < 64 := by omega
          clear h1b
          go_wp2
          all_goals
            go_round
            case rel => exact ⟨k + 1, by omega, by go_num, by rw [hi_on HON.out (by omega) hlt], by rw [lo_far (by omega)]⟩
            case measure => simp [intOf]; omega
        have h1' : ¬ f ≤ k ∨ (f ≤ k ∧ ¬ (k : Int) - (f : Int) < 64) := by omega
        by_cases h2 : k = sub1 f
        · have HON : Hid (onB e f false k = true) := onB_B h2
          have h2' : ((k : Int) == ((sub1 f : Nat) : Int)) = true := by simp [← h2]
          clear h2 h1
          rcases h1' with h1' | ⟨h1a, h1b⟩
          all_goals go_wp2
          all_goals
            go_round
            case rel => exact ⟨k + 1, by omega, by go_num, by rw [hi_on HON.out (by omega) hlt], by rw [lo_far (by omega)]⟩
            case measure => simp [intOf]; omega
        have h2' : ((k : Int) == ((sub1 f : Nat) : Int)) = false := by simpa using (by omega : ¬ (k : Int) = ((sub1 f : Nat) : Int))
        have HON : Hid (onB e f false k = false) := onB_D h1 h2 (fun h => by cases h)
        clear h1 h2
        rcases h1' with h1' | ⟨h1a, h1b⟩
        all_goals go_wp2
        all_goals
          go_round
          case rel => exact ⟨k + 1, by omega, by go_num, by rw [hi_off HON.out], by rw [lo_off HON.out]⟩
          case measure => simp [intOf]; omega
    · go_wp2
      go_ret2
      obtain rfl : k = 128 := by omega
      exact ⟨rfl, rfl⟩
end Go.Proofs.YbulkecriDoor
