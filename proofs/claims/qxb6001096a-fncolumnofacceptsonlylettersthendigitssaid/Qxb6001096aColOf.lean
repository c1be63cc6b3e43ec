import Derived.Test.Qxb6001096aAid
import Derived.Laws.RangeString
import Derived.Laws.RangeAny
namespace Go.Proofs.Qxb6001096a
open Go.RowKit

theorem data_len (s : ByteArray) : s.data.toList.length = s.size := by simp
theorem data_at (s : ByteArray) (k : Nat) (h : k < s.size) : s.data.toList[k]'(by simpa using h) = s[k] := rfl
theorem drop_at (s : ByteArray) (k : Nat) (h : k < s.size) : s.data.toList.drop k = s[k] :: s.data.toList.drop (k + 1) := by
  rw [List.drop_eq_getElem_cons (by simpa using h)]
  rfl
theorem extract_list (s : ByteArray) (k : Nat) : (s.extract k s.size).data.toList = s.data.toList.drop k := by
  rw [ByteArray.data_extract]
  simp
  exact List.take_of_length_le (by simp)

theorem next_ascii (w : World) (t : ByteArray) (pos : Nat) (hp : pos < t.size) (h : t[pos].toNat < 128) (ty : TypeId) :
    (Instr.next (.pointer (some ⟨w.heap.size, 0, none⟩)) true ty).run Try.prog (w.iter t pos) = .ok (.tuple #[.bool true, .int .i64 pos, .int .i32 (t[pos].toNat : Int)]) (w.iter t (pos + 1)) := by
  rw [run_next_any w t pos ty hp, decode_ascii t pos hp h]

theorem next_high (w : World) (t : ByteArray) (pos : Nat) (hp : pos < t.size) (h : ¬ t[pos].toNat < 128) :
    ∃ r d : Nat, 128 ≤ r ∧ ∀ ty, (Instr.next (.pointer (some ⟨w.heap.size, 0, none⟩)) true ty).run Try.prog (w.iter t pos) = .ok (.tuple #[.bool true, .int .i64 pos, .int .i32 (r : Int)]) (w.iter t (pos + d)) :=
  ⟨(Utf8.decode t pos).1, (Utf8.decode t pos).2, (decode_high t pos hp (by omega)).1, fun ty => run_next_any w t pos ty hp⟩

theorem below_iter (w : World) (t : ByteArray) (pos : Nat) : Below w.heap.size w (w.iter t pos) := (Below.refl _ _).alloc (Nat.le_refl _) _

set_option maxHeartbeats 1000000 in
theorem colOf_any (s : ByteArray) (w : World) (hs : s.size ≤ 4611686018427387904) :
    Calls Try.prog 10 #[.string s] w fun e w' => e = .returned (.int .i64 (Col.colOf s.data.toList)) ∧ Below w.heap.size w w' := by
  go_enter Try.func10, Try.ntmps10
  go_wp2
  go_loopw [3, 4] (fun c i wr => ∃ (k v : Nat), k ≤ s.size ∧ v ≤ 16384 ∧ Hid (Col.val (s.data.toList.take k) = v) ∧ Hid (∀ b ∈ s.data.toList.take k, Col.isUp b = true) ∧ i = .int .i64 k ∧ c = .int .i64 v ∧ wr = w)
    (fun _ i _ => s.size - (intOf i).toNat)
  case atStart => exact ⟨0, 0, Nat.zero_le _, by omega, rfl, fun b hb => by simp at hb, rfl, rfl, rfl⟩
  case round =>
    obtain ⟨k, v, hk, hv, HV, HU, rfl, rfl, rfl⟩ := hrel
    by_cases hlt : k < s.size
    · by_cases hU : (65 : Int) ≤ (s[k].toNat : Int) ∧ (s[k].toNat : Int) ≤ 90
      · obtain ⟨hA, hZ⟩ := hU
        have hup : Col.isUp s[k] = true := by unfold Col.isUp; simp; omega
        have HU' : Hid (∀ b ∈ s.data.toList.take (k + 1), Col.isUp b = true) := Col.take_up _ _ k (by simpa using hlt) HU.out hup
        have HV' : Hid (Col.val (s.data.toList.take (k + 1)) = v * 26 + (s[k].toNat - 65) + 1) := by
          rw [Hid, Col.val_take _ _ (by simpa using hlt), HV.out]
          rfl
        have HS : Hid (16384 < v * 26 + (s[k].toNat - 65) + 1 → Col.colOf s.data.toList = -1) := fun h => Col.stop_high _ (k + 1) HU'.out (by rw [HV'.out]; exact h)
        clear HU HV hup
        go_wp2
        · have hbig : 16384 < (v : Int) * 26 + ((s[k].toNat : Int) - 65) + 1 := by assumption
          have hc := HS.out (by omega)
          go_ret
          exact ⟨by rw [hc]; rfl, Below.refl _ _⟩
        · have hsm : (v : Int) * 26 + ((s[k].toNat : Int) - 65) + 1 ≤ 16384 := by assumption
          go_roundw
          case rel => exact ⟨k + 1, v * 26 + (s[k].toNat - 65) + 1, by omega, by omega, HV', HU', by go_num, by congr 1; omega, trivial⟩
          case measure => simp [intOf]; omega
      · have hnot : Col.isUp s[k] = false := by
          unfold Col.isUp
          simp
          omega
        have hoth := Col.at_other s.data.toList k s[k] _ HU.out (drop_at s k hlt) hnot (by rw [HV.out]; exact hv)
        rw [HV.out] at hoth
        have HO : Hid _ := hoth
        clear hoth HU HV hnot
        by_cases hk0 : k = 0
        · subst hk0
          have hc : Hid (Col.colOf s.data.toList = -1) := by rw [Hid, HO.out]; rfl
          clear HO
          by_cases hA : (65 : Int) ≤ (s[0].toNat : Int)
          · have hZ : ¬ (s[0].toNat : Int) ≤ 90 := fun h => hU ⟨hA, h⟩
            clear hU
            go_wp2
            go_ret
            exact ⟨by rw [hc.out]; rfl, Below.refl _ _⟩
          · clear hU
            go_wp2
            go_ret
            exact ⟨by rw [hc.out]; rfl, Below.refl _ _⟩
        · have hk0b : ((k : Int) == 0) = false := beq_eq_false_iff_ne.2 (by omega)
          have hksb : ((k : Int) == (s.size : Int)) = false := beq_eq_false_iff_ne.2 (by omega)
          have ht := extract_list s k
          have hc : Hid (Col.colOf s.data.toList = if (s.extract k s.size).data.toList.all Col.isDig = true then (v : Int) - 1 else -1) := by rw [Hid, HO.out, if_neg hk0, ht]
          clear HO ht hk0
          have hcase : (¬ (65 : Int) ≤ (s[k].toNat : Int)) ∨ ((65 : Int) ≤ (s[k].toNat : Int) ∧ ¬ (s[k].toNat : Int) ≤ 90) := by omega
          clear hU
          rcases hcase with hA | ⟨hA, hZ⟩
          all_goals
            go_wp2
            generalize s.extract k s.size = t at hc ⊢
            go_loopw [6] (fun _ wx => ∃ pos : Nat, pos ≤ t.size ∧ Hid (∀ b ∈ t.data.toList.take pos, Col.isDig b = true) ∧ wx = wr.iter t pos) (fun _ wx => t.size - wx.iterPos wr.heap.size)
            case atStart => exact ⟨0, Nat.zero_le _, fun b hb => by simp at hb, rfl⟩
            case round =>
              obtain ⟨pos, hpos, HG, rfl⟩ := hrel
              by_cases hp : pos < t.size
              · by_cases h128 : t[pos].toNat < 128
                · have hnx := next_ascii wr t pos hp h128
                  by_cases hd : (48 : Int) ≤ (t[pos].toNat : Int) ∧ (t[pos].toNat : Int) ≤ 57
                  · obtain ⟨hd1, hd2⟩ := hd
                    have HG' : Hid (∀ b ∈ t.data.toList.take (pos + 1), Col.isDig b = true) := Col.take_up _ _ pos (by simpa using hp) HG.out (by show Col.isDig t[pos] = true; unfold Col.isDig; simp; omega)
                    clear HG
                    go_wp2
                    go_roundw
                    case rel => exact ⟨pos + 1, by omega, HG', rfl⟩
                    case measure => simp; omega
                  · have hr : Hid (Col.colOf s.data.toList = -1) := by
                      rw [Hid, hc.out, Col.not_all_of _ pos (by simpa using hp)]
                      · rfl
                      · show Col.isDig t[pos] = false
                        unfold Col.isDig
                        simp
                        omega
                    have hcase : ((t[pos].toNat : Int) < 48) ∨ ((48 : Int) ≤ (t[pos].toNat : Int) ∧ (57 : Int) < (t[pos].toNat : Int)) := by omega
                    clear hd hc HG
                    rcases hcase with hd | ⟨hd, hd2⟩
                    all_goals
                      go_wp2
                      go_ret
                      exact ⟨by rw [hr.out]; rfl, below_iter _ _ _⟩
                · obtain ⟨r, d, hr128, hnx⟩ := next_high wr t pos hp h128
                  have hr : Hid (Col.colOf s.data.toList = -1) := by
                    rw [Hid, hc.out, Col.not_all_of _ pos (by simpa using hp)]
                    · rfl
                    · show Col.isDig t[pos] = false
                      unfold Col.isDig
                      simp
                      omega
                  clear hc HG
                  go_wp2
                  go_ret
                  exact ⟨by rw [hr.out]; rfl, below_iter _ _ _⟩
              · have hnx : ∀ ty, (Instr.next (.pointer (some ⟨wr.heap.size, 0, none⟩)) true ty).run Try.prog (wr.iter t pos) = _ := fun ty => run_next_end wr t pos ty hp
                have hr : Hid (Col.colOf s.data.toList = (v : Int) - 1) := by
                  have he : t.data.toList.take pos = t.data.toList := List.take_of_length_le (by simp; omega)
                  have hg := HG.out
                  rw [he] at hg
                  rw [Hid, hc.out, if_pos (Col.all_of _ hg)]
                clear hc HG
                go_wp2
                go_ret
                exact ⟨by rw [hr.out]; rfl, below_iter _ _ _⟩
    · have hke : k = s.size := by omega
      have hr : Hid (Col.colOf s.data.toList = -1) := by
        apply Col.stop_end
        have := HU.out
        rwa [List.take_of_length_le (by simp; omega)] at this
      have hb : ((k : Int) == (s.size : Int)) = true := beq_iff_eq.2 (by omega)
      clear hke HU HV
      by_cases hk0 : k = 0
      · have hk0b : ((k : Int) == 0) = true := beq_iff_eq.2 (by omega)
        clear hk0
        go_wp2
        go_ret
        exact ⟨by rw [hr.out]; rfl, Below.refl _ _⟩
      · have hk0b : ((k : Int) == 0) = false := beq_eq_false_iff_ne.2 (by omega)
        clear hk0
        go_wp2
        go_ret
        exact ⟨by rw [hr.out]; rfl, Below.refl _ _⟩

theorem zz_any (s : ByteArray) (w : World) (hs : s.size ≤ 4611686018427387904) :
    Calls Try.prog 7 #[.string s] w fun e w' => e = .returned (.int .i64 (Col.colOf s.data.toList)) ∧ Below w.heap.size w w' := by
  go_enter Try.func7, Try.ntmps7
  go_wp2_with (go_at_call 10; refine (colOf_any _ _ hs).mono ?_; rintro e w' ⟨rfl, hb⟩)
  go_ret
  exact ⟨rfl, hb⟩
end Go.Proofs.Qxb6001096a
