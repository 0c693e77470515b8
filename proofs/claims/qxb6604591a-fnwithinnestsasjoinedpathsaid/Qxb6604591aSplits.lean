import Derived.Test.Qxb6604591aWalks
import Derived.LaidEqlPtr
namespace Go.Proofs.Qxb6604591a
open Go.RowKit

theorem path_list (f i : ByteArray) : (f ++ { data := #[46] } ++ i).toList = f.toList ++ (46 :: i.toList) := by
  rw [append_list, append_list, List.append_assoc, show (ByteArray.mk #[46]).toList = [46] from ByteArray.toList_mk [46]]; rfl

theorem Try.size26 : (Try.prog.info? 26).map (·.size) = some 2 := by kernel_rfl

/-- two boxes laid one behind the other are two -/
theorem eql_boxes (w : World) (a b : Array Value) :
    (binOp .eql 24 (.pointer (some ⟨w.heap.size + 1, 0, none⟩)) (.pointer (some ⟨w.heap.size, 0, none⟩))).run Try.prog ((w.alloc (.cells a 26)).alloc (.cells b 26)) = .ok (.bool false) ((w.alloc (.cells a 26)).alloc (.cells b 26)) := by
  obtain ⟨j, hj, hs⟩ := Option.map_eq_some_iff.1 Try.size26
  have h1 : ((w.alloc (.cells a 26)).alloc (.cells b 26)).heap[w.heap.size + 1]? = some (.cells b 26 (0, 0)) := by
    have := heap_alloc_new (w.alloc (.cells a 26)) (.cells b 26)
    simpa using this
  have h2 : ((w.alloc (.cells a 26)).alloc (.cells b 26)).heap[w.heap.size]? = some (.cells a 26 (0, 0)) := by
    rw [Below.heap_alloc _ _ _ (by simp)]
    exact heap_alloc_new w _
  exact run_eql_ptr_other (P := Try.prog) _ Try.underlying24 hj (by rw [hs]; decide) (by simp) h1 h2

theorem path_size (f i : ByteArray) : (f ++ { data := #[46] } ++ i).size = f.size + 1 + i.size := by
  rw [ByteArray.size_append, ByteArray.size_append]; rfl

set_option maxHeartbeats 2000000 in
theorem core1 (f m i : ByteArray) (w : World) (hf : f.size ≤ 262144) (hm : m.size ≤ 262144) (hi : i.size ≤ 262144) (hno : ∀ j, j < f.size → f.toList.getD j 0 ≠ 46) :
    Calls Try.prog 3 #[.string f, .string m, .string i] w fun e w' => e = .returned (.bool true) ∧ Grown w w' := by
  have Hno := hide hno
  clear hno
  go_enter Try.func3, Try.ntmps3
  go_wp2_with fail
  refine (bytes7_yes f m i w (by omega)).mono ?_
  rintro e w' ⟨rfl, rfl⟩
  go_wp2_with fail
  refine (index_any f f.size w (by omega) (Nat.le_refl _) Hno.out (fun h => by omega)).mono ?_
  rintro e w' ⟨rfl, rfl⟩
  rw [if_neg (Nat.lt_irrefl _)]
  go_wp2_with fail
  refine (within_any f i _ _ (by omega) (by omega) (by simp)).mono ?_
  rintro e w' ⟨rfl, rfl⟩
  have hpe := eql_boxes w #[.string m, .string i] #[.string { data := #[] }, .string (f ++ { data := #[46] } ++ i)]
  have hps := path_size f i
  have hpl := path_list f i
  generalize hF : f ++ { data := #[46] } ++ i = F at *
  have HF := hide hF
  have HL := hide hpl
  have HS := hide hps
  have hs1 : F.size ≤ 524289 := by omega
  clear hF hpl hps
  go_wp2_with fail
  refine (index_any F f.size _ (by omega) (by rw [HS.out]; omega) ?d1 ?d2).mono ?_
  case d1 =>
    intro j hj
    rw [HL.out, List.getD_eq_getElem?_getD, List.getElem?_append_left (by rw [length_list]; exact hj), ← List.getD_eq_getElem?_getD]
    exact Hno.out j hj
  case d2 =>
    intro _
    rw [HL.out, List.getD_eq_getElem?_getD, List.getElem?_append_right (by rw [length_list]; exact Nat.le_refl _), length_list]
    simp
  rintro e w' ⟨rfl, rfl⟩
  rw [if_pos (by rw [HS.out]; omega)]
  clear hpe
  have hle : f.size + 1 ≤ F.size := by rw [HS.out]; omega
  have hA : (F.extract 0 f.size).toList = f.toList := by
    rw [ext_list, HL.out, List.drop_zero, Nat.sub_zero, List.take_append_of_le_length (by rw [length_list]; exact Nat.le_refl _)]
    exact List.take_of_length_le (by rw [length_list]; exact Nat.le_refl _)
  have hB : (F.extract (f.size + 1) F.size).toList = i.toList := by
    rw [ext_list, HL.out, List.drop_append, length_list, List.drop_of_length_le (by rw [length_list]; omega), Nat.add_sub_cancel_left, List.nil_append]
    exact List.take_of_length_le (by simp only [List.drop_succ_cons, List.drop_zero, length_list]; rw [HS.out]; omega)
  go_wp2
  go_ret
  exact ⟨rfl, by repeat (first | exact Grown.refl _ | apply Grown.drew | apply Grown.alloc)⟩

theorem dotted (f m i : ByteArray) (k : Nat) (w : World) (hf : f.size ≤ 262144) (hm : m.size ≤ 262144) (hi : i.size ≤ 262144) (hk : k < f.size) (hno : ∀ j, j < k → f.toList.getD j 0 ≠ 46) (hat : f.toList.getD k 0 = 46) :
    Calls Try.prog 3 #[.string f, .string m, .string i] w fun e w' => e = .returned (.bool true) ∧ Grown w w' := by
  have Hno := hide hno
  have Hat := hide hat
  clear hno hat
  go_enter Try.func3, Try.ntmps3
  go_wp2_with fail
  refine (bytes7_yes f m i w (by omega)).mono ?_
  rintro e w' ⟨rfl, rfl⟩
  go_wp2_with fail
  refine (index_any f k w (by omega) (by omega) Hno.out (fun _ => Hat.out)).mono ?_
  rintro e w' ⟨rfl, rfl⟩
  rw [if_pos hk]
  go_wp2
  go_ret
  exact ⟨rfl, Grown.refl _⟩

theorem big1 (f m i : ByteArray) (w : World) (h : ¬ (f.size ≤ 262144 ∧ m.size ≤ 262144 ∧ i.size ≤ 262144)) :
    Calls Try.prog 3 #[.string f, .string m, .string i] w fun e w' => e = .returned (.bool true) ∧ Grown w w' := by
  by_cases hs : f.size + m.size + i.size ≤ 1048576
  · by_cases h1 : f.size ≤ 262144 <;> by_cases h2 : m.size ≤ 262144 <;> by_cases h3 : i.size ≤ 262144
    all_goals first
      | (exfalso; omega)
      | (go_enter Try.func3, Try.ntmps3
         go_wp2_with fail
         refine (bytes7_yes f m i w hs).mono ?_
         rintro e w' ⟨rfl, rfl⟩
         go_wp2
         go_ret
         exact ⟨rfl, Grown.refl _⟩)
  · go_enter Try.func3, Try.ntmps3
    go_wp2_with fail
    refine (bytes7_no f m i w hs).mono ?_
    rintro e w' ⟨rfl, rfl⟩
    go_wp2
    go_ret
    exact ⟨rfl, Grown.refl _⟩

theorem walk1 (f m i : ByteArray) (w : World) : Calls Try.prog 3 #[.string f, .string m, .string i] w fun e w' => e = .returned (.bool true) ∧ Grown w w' := by
  by_cases h : f.size ≤ 262144 ∧ m.size ≤ 262144 ∧ i.size ≤ 262144
  · obtain ⟨h1, h2, h3⟩ := h
    obtain ⟨k, hk, hno, hat⟩ := first_dot f.toList
    rw [length_list] at hk hat
    by_cases hlt : k < f.size
    · exact dotted f m i k w h1 h2 h3 hlt hno (hat hlt)
    · obtain rfl : k = f.size := by omega
      exact core1 f m i w h1 h2 h3 hno
  · exact big1 f m i w h
end Go.Proofs.Qxb6604591a
