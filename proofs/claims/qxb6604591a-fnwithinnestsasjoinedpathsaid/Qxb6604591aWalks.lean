import Derived.Test.Qxb6604591aRows
import Derived.WalkKit
import Derived.WalkSpells
import Derived.WalkLawsBesides
namespace Go.Proofs.Qxb6604591a
open Go.RowKit

theorem hide {p : Prop} (h : p) : Hid p := h

theorem assert_e (a : Addr) (w : World) : (Instr.typeAssert (.iface 24 (.pointer (some a))) 37 24 false).run Try.prog w = .ok (.pointer (some a)) w := by kernel_rfl
theorem assert_ok (a : Addr) (w : World) : (Instr.typeAssert (.iface 24 (.pointer (some a))) 37 24 true).run Try.prog w = .ok (.tuple #[.pointer (some a), .bool true]) w := by kernel_rfl

/-- the text of a path: f, a dot, inner -/
theorem ext_list (s : ByteArray) (a b : Nat) : (s.extract a b).toList = (s.toList.drop a).take (b - a) := by
  obtain ⟨⟨l⟩⟩ := s
  have e := ByteArray.extract_mk l a b
  rw [show (ByteArray.mk { toList := l }) = ByteArray.mk l.toArray from rfl, e, ByteArray.toList_mk, ByteArray.toList_mk]

theorem append_list (s t : ByteArray) : (s ++ t).toList = s.toList ++ t.toList := by
  simp [ByteArray.toList_eq, ByteArray.data_append]

theorem length_list (s : ByteArray) : s.toList.length = s.size := by rw [ByteArray.toList_eq]; rfl

theorem ext_one (s : ByteArray) (k : Nat) (h : k < s.size) : (s.extract k (k + 1)).toList = [s.toList.getD k 0] := by
  have hl : k < s.toList.length := by rw [length_list]; exact h
  rw [ext_list, Nat.add_sub_cancel_left, List.take_one, List.head?_drop, List.getD_eq_getElem?_getD]
  simp [hl]

set_option maxHeartbeats 800000 in
theorem within_any (f inner : ByteArray) (b : Nat) (w : World) (hf : f.size ≤ 2097152) (hi : inner.size ≤ 2097152) (hc : w.cell? ⟨b, 1, none⟩ = some (.string inner)) :
    Calls Try.prog 9 #[.string f, .pointer (some ⟨b, 0, none⟩)] w fun e w' => e = .returned (.pointer (some ⟨w.heap.size, 0, none⟩)) ∧ w.alloc (.cells #[.string { data := #[] }, .string (f ++ { data := #[46] } ++ inner)] 26) = w' := by
  have h1 := assert_e
  have h2 := assert_ok
  go_enter Try.func9, Try.ntmps9
  go_wp2
  go_ret
  exact ⟨rfl, rfl⟩

set_option maxHeartbeats 800000 in
/-- zzIndex(s, "."): k0 is the place of the first dot, or the length. -/
theorem index_any (s : ByteArray) (k0 : Nat) (w : World) (hs : s.size ≤ 8388608) (hk0 : k0 ≤ s.size) (hno : ∀ j, j < k0 → s.toList.getD j 0 ≠ 46) (hat : k0 < s.size → s.toList.getD k0 0 = 46) :
    Calls Try.prog 8 #[.string s, .string { data := #[46] }] w fun e w' => e = .returned (.int .i64 (if k0 < s.size then (k0 : Int) else -1)) ∧ w = w' := by
  go_enter Try.func8, Try.ntmps8
  go_wp2
  go_loop [6] (fun i => ∃ k : Nat, k ≤ k0 ∧ i = .int .i64 k) (fun i => s.size - (intOf i).toNat)
  case atStart => exact ⟨0, Nat.zero_le _, rfl⟩
  case round =>
    obtain ⟨k, hk, rfl⟩ := hrel
    by_cases hlt : k < k0
    · have hc : ((s.extract k (k + 1)).toList == [46]) = false := by
        rw [ext_one s k (by omega)]
        have := hno k hlt
        simpa using this
      have hlt2 : k < s.size := by omega
      clear hno hat
      go_wp2
      go_round
      case rel => exact ⟨k + 1, by omega, by go_num⟩
      case measure => simp [intOf]; omega
    · obtain rfl : k = k0 := by omega
      by_cases hlt2 : k < s.size
      · have hc : ((s.extract k (k + 1)).toList == [46]) = true := by
          rw [ext_one s k hlt2, hat hlt2]; rfl
        clear hno hat
        go_wp2
        go_ret
        exact ⟨rfl, rfl⟩
      · clear hno hat
        go_wp2
        go_ret
        exact ⟨rfl, rfl⟩

theorem first_dot (l : List UInt8) : ∃ k0, k0 ≤ l.length ∧ (∀ j, j < k0 → l.getD j 0 ≠ 46) ∧ (k0 < l.length → l.getD k0 0 = 46) := by
  induction l with
  | nil => exact ⟨0, Nat.le_refl _, fun j hj => by omega, fun h => by simp at h⟩
  | cons c l ih =>
    by_cases h : c = 46
    · exact ⟨0, Nat.zero_le _, fun j hj => by omega, fun _ => by simpa using h⟩
    · obtain ⟨k, h1, h2, h3⟩ := ih
      refine ⟨k + 1, by simpa using h1, fun j hj => ?_, fun hk => ?_⟩
      · cases j with
        | zero => simpa using h
        | succ j => simpa using h2 j (by omega)
      · simpa using h3 (by simpa using hk)

theorem bytes7_yes (a b c : ByteArray) (w : World) (h : a.size + b.size + c.size ≤ 1048576) :
    Calls Try.prog 7 #[.string a, .string b, .string c] w fun e w' => e = .returned (.bool true) ∧ w = w' := by
  have h1 : a.size ≤ 1048576 := by omega
  have h2 : b.size ≤ 1048576 := by omega
  have h3 : c.size ≤ 1048576 := by omega
  go_enter Try.func7, Try.ntmps7
  go_wp2
  go_ret
  exact ⟨rfl, rfl⟩

theorem bytes7_no (a b c : ByteArray) (w : World) (h : ¬ a.size + b.size + c.size ≤ 1048576) :
    Calls Try.prog 7 #[.string a, .string b, .string c] w fun e w' => e = .returned (.bool false) ∧ w = w' := by
  by_cases h1 : a.size ≤ 1048576 <;> by_cases h2 : b.size ≤ 1048576 <;> by_cases h3 : c.size ≤ 1048576 <;> by_cases h4 : a.size + b.size ≤ 1048576
  all_goals first
    | (exfalso; omega)
    | (go_enter Try.func7, Try.ntmps7
       go_wp2
       go_ret
       exact ⟨rfl, rfl⟩)

end Go.Proofs.Qxb6604591a
