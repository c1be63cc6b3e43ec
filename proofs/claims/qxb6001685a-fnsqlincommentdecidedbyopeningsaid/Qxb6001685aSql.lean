import Derived.Test.Qxb6001685aRows
import Derived.WalkKit
import Derived.ProofKit
import Derived.WalkSpells
namespace Go.Proofs.Qxb6001685a
open Go.RowKit

/-- What the opening of a text names: 1 for slash star bang, 2 for slash star plus, else 0. -/
def k3 (s : ByteArray) : Nat := if 3 ≤ s.size ∧ (s.extract 0 3).toList = [47, 42, 33] then 1 else if 3 ≤ s.size ∧ (s.extract 0 3).toList = [47, 42, 43] then 2 else 0
def txt : Nat → ByteArray
  | 1 => ⟨#[97, 32, 99, 111, 109, 109, 101, 110, 116, 32, 116, 104, 97, 116, 32, 104, 111, 108, 100, 115, 32, 83, 81, 76, 32, 40, 47, 42, 33, 32, 46, 46, 46, 32, 42, 47, 41]⟩
  | 2 => ⟨#[97, 110, 32, 111, 112, 116, 105, 109, 105, 122, 101, 114, 32, 104, 105, 110, 116, 32, 40, 47, 42, 43, 32, 46, 46, 46, 32, 42, 47, 41]⟩
  | _ => ⟨#[]⟩

theorem cut_list (s : ByteArray) (n : Nat) : (s.extract 0 n).toList = s.data.toList.take n := by
  rw [ByteArray.toList_eq, ByteArray.data_extract]
  simp

theorem k3_list (s : ByteArray) : k3 s = if 3 ≤ s.data.toList.length ∧ s.data.toList.take 3 = [47, 42, 33] then 1 else if 3 ≤ s.data.toList.length ∧ s.data.toList.take 3 = [47, 42, 43] then 2 else 0 := by
  unfold k3
  rw [cut_list]
  rfl

theorem take3 : ∀ (l : List UInt8) (h : 3 ≤ l.length), l.take 3 = [l[0], l[1], l[2]]
  | _ :: _ :: _ :: _, _ => rfl
theorem toList3 (s : ByteArray) (h : 3 ≤ s.size) : (s.extract 0 3).toList = [s[0], s[1], s[2]] := by
  rw [cut_list, take3 _ h]
  rfl

theorem k3_cut (s : ByteArray) (h : 3 ≤ s.size) : k3 (s.extract 0 3) = k3 s := by
  have hl : 3 ≤ s.data.toList.length := h
  have e : (s.extract 0 3).data.toList = s.data.toList.take 3 := by rw [← ByteArray.toList_eq, cut_list]
  rw [k3_list, k3_list, e]
  generalize s.data.toList = l at hl
  have e1 : 3 ≤ (l.take 3).length := by rw [List.length_take]; omega
  have e2 : (l.take 3).take 3 = l.take 3 := by rw [List.take_take]; rfl
  rw [e2]
  simp only [e1, hl, true_and]

theorem k3_app (s t : ByteArray) (h : 3 ≤ s.size) : k3 (s ++ t) = k3 s := by
  have hl : 3 ≤ s.data.toList.length := h
  have e : (s ++ t).data.toList = s.data.toList ++ t.data.toList := by rw [ByteArray.data_append]; simp
  rw [k3_list, k3_list, e, List.take_append_of_le_length hl]
  have e1 : 3 ≤ (s.data.toList ++ t.data.toList).length := by rw [List.length_append]; omega
  simp only [e1, hl, true_and]

set_option maxHeartbeats 400000 in
theorem sql_any (s : ByteArray) (w : World) : Calls Try.prog 15 #[.string s] w fun e w' => e = .returned (.string (txt (k3 s))) ∧ w = w' := by
  by_cases h3 : (3 : Int) ≤ (s.size : Int)
  · by_cases e1 : (s.extract 0 3).toList = [47, 42, 33]
    · have hk : Hid (k3 s = 1) := by rw [Hid, k3, if_pos ⟨by omega, e1⟩]
      have e1' : ((s.extract 0 3).toList == [47, 42, 33]) = true := by rw [e1]; rfl
      clear e1
      go_enter Try.func15, Try.ntmps15
      go_wp2
      go_ret
      exact ⟨by rw [hk.out]; rfl, rfl⟩
    · have e1' : ((s.extract 0 3).toList == [47, 42, 33]) = false := by simp [e1]
      by_cases e2 : (s.extract 0 3).toList = [47, 42, 43]
      · have hk : Hid (k3 s = 2) := by rw [Hid, k3, if_neg (fun h => e1 h.2), if_pos ⟨by omega, e2⟩]
        have e2' : ((s.extract 0 3).toList == [47, 42, 43]) = true := by rw [e2]; rfl
        clear e1 e2
        go_enter Try.func15, Try.ntmps15
        go_wp2
        go_ret
        exact ⟨by rw [hk.out]; rfl, rfl⟩
      · have hk : Hid (k3 s = 0) := by rw [Hid, k3, if_neg (fun h => e1 h.2), if_neg (fun h => e2 h.2)]
        have e2' : ((s.extract 0 3).toList == [47, 42, 43]) = false := by simp [e2]
        clear e1 e2
        go_enter Try.func15, Try.ntmps15
        go_wp2
        go_ret
        exact ⟨by rw [hk.out]; rfl, rfl⟩
  · have hk : Hid (k3 s = 0) := by rw [Hid, k3, if_neg (fun h => by omega), if_neg (fun h => by omega)]
    go_enter Try.func15, Try.ntmps15
    go_wp2
    go_ret
    exact ⟨by rw [hk.out]; rfl, rfl⟩
end Go.Proofs.Qxb6001685a
