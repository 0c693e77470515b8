import Derived.Test.Qxb6604739aFmtEnc
namespace Go.Proofs.Qxb6604739aFmt
open Go.RowKit

/-- an arc on the wire -/
def ea (p : ByteArray × ByteArray) : List Int := es p.1 ++ es p.2
def eas (A : List (ByteArray × ByteArray)) : List Int := (A.map ea).flatten
def nth (A : List (ByteArray × ByteArray)) (i : Nat) : ByteArray × ByteArray := A.getD i (ByteArray.empty, ByteArray.empty)

theorem eas_succ (A : List (ByteArray × ByteArray)) (k : Nat) (h : k < A.length) : eas (A.take (k + 1)) = eas (A.take k) ++ ea (nth A k) := by
  have e : nth A k = A[k] := by simp [nth, h]
  rw [List.take_succ_eq_append_getElem h, e]
  simp only [eas, List.map_append, List.flatten_append, List.map_cons, List.map_nil, List.flatten_cons, List.flatten_nil, List.append_nil]

theorem eas_take_le (A : List (ByteArray × ByteArray)) (k : Nat) : (eas (A.take k)).length ≤ (eas A).length := by
  have h : eas A = eas (A.take k) ++ eas (A.drop k) := by
    rw [eas, eas, eas, ← List.flatten_append, ← List.map_append, List.take_append_drop]
  rw [h, List.length_append]
  omega

set_option maxRecDepth 100000 in
set_option maxHeartbeats 1600000 in
theorem arcs_some (be : Nat) (v : Value) (L : List Int) (A : List (ByteArray × ByteArray)) (ga ca : Nat) (w : World) (h : Enc be w v L) (hn : A.length ≤ 65536) (hL : L.length + (eas A).length ≤ 33554432)
    (hsz : ∀ i, i < A.length → (nth A i).1.size ≤ 1048576 ∧ (nth A i).2.size ≤ 1048576)
    (hga : ga ≠ be) (hgv : v.ownBlock ≠ some ga) (hc0 : ∀ i, i < A.length → w.cell? ⟨ga, i * 2, none⟩ = some (.string (nth A i).1)) (hc1 : ∀ i, i < A.length → w.cell? ⟨ga, i * 2 + 1, none⟩ = some (.string (nth A i).2)) :
    Calls Tryf.prog 34 #[.pointer (some ⟨be, 0, none⟩), .slice (some ⟨ga, 0, none⟩) A.length ca] w fun e w' => e = .returned (.tuple #[]) ∧ ∃ v', Enc be w' v' (L ++ (uv A.length ++ eas A)) ∧ Step be w v w' v' := by
  have H := hide h
  have hlt := h.lt
  clear h
  have HC0 := hide hc0
  have HC1 := hide hc1
  have HSZ := hide hsz
  clear hc0 hc1 hsz
  go_enter Tryf.func34, Tryf.ntmps34
  go_wp2_with fail
  refine (uint_any be v L A.length _ H.out (by omega) (by omega)).mono ?_
  rintro e w1 ⟨rfl, v1, E1, S1⟩
  have HE := hide E1
  have HS := hide S1
  clear E1 S1
  go_wp2
  go_loopw [12] (fun i wr => ∃ (k : Nat) (vk : Value), k ≤ A.length ∧ i = .int .i64 k ∧ Hid (Enc be wr vk (L ++ (uv A.length ++ eas (A.take k)))) ∧ Hid (Step be w v wr vk)) (fun i _ => A.length - (intOf i).toNat)
  case atStart => exact ⟨0, v1, Nat.zero_le _, rfl, hide (by simpa [eas] using HE.out), HS⟩
  case round =>
    obtain ⟨k, vk, hk, rfl, HEk, HSk⟩ := hrel
    by_cases hlt2 : k < A.length
    · have c0 : wr.cell? ⟨ga, k * 2, none⟩ = some (.string (nth A k).1) := HSk.out.cell (HC0.out k hlt2) hga hgv
      have c1 : wr.cell? ⟨ga, k * 2 + 1, none⟩ = some (.string (nth A k).2) := HSk.out.cell (HC1.out k hlt2) hga hgv
      obtain ⟨p, Hp⟩ : ∃ p, Hid (nth A k = p) := ⟨_, rfl⟩
      have hps := HSZ.out k hlt2
      rw [Hp.out] at c0 c1 hps
      have hl := eas_take_le A k
      have hul := uv_length (x := A.length) (by omega)
      go_wp2_with fail
      refine (arc_any be vk _ p.1 p.2 _ (HEk.out.alloc _) (by rw [List.length_append, List.length_append]; omega) hps.1 hps.2).mono ?_
      rintro e w2 ⟨rfl, v2, E2, S2⟩
      have HE2 := hide E2
      have HS2 := hide S2
      clear E2 S2
      go_wp2
      go_roundw
      case rel =>
        refine ⟨k + 1, v2, by omega, by go_num, ?_, hide (HSk.out.trans (((Step.refl be wr vk).alloc _).trans HS2.out))⟩
        have h1 := HE2.out
        rw [List.append_assoc, List.append_assoc, show es p.1 ++ es p.2 = ea p from rfl, ← Hp.out, ← eas_succ A k hlt2] at h1
        exact h1
      case measure => simp [intOf]; omega
    · go_wp2
      go_end0
      obtain rfl : k = A.length := by omega
      have h1 := HEk.out
      rw [List.take_length] at h1
      exact ⟨rfl, vk, h1, HSk.out⟩

set_option maxRecDepth 100000 in
theorem arcs_none (be : Nat) (v : Value) (L : List Int) (ao : Option Addr) (ca : Nat) (w : World) (h : Enc be w v L) (hL : L.length ≤ 33554432) :
    Calls Tryf.prog 34 #[.pointer (some ⟨be, 0, none⟩), .slice ao 0 ca] w fun e w' => e = .returned (.tuple #[]) ∧ ∃ v', Enc be w' v' (L ++ (uv 0 ++ eas [])) ∧ Step be w v w' v' := by
  have H := hide h
  clear h
  go_enter Tryf.func34, Tryf.ntmps34
  go_wp2_with fail
  refine (uint_any be v L 0 _ H.out (by omega) (by omega)).mono ?_
  rintro e w1 ⟨rfl, v1, E1, S1⟩
  have HE := hide E1
  have HS := hide S1
  clear E1 S1
  go_wp2
  refine wp_loop_rounds 1 ?_
  rw [rounds_succ]
  go_wp2
  go_end0
  exact ⟨rfl, v1, by simpa [eas] using HE.out, HS.out⟩
end Go.Proofs.Qxb6604739aFmt
