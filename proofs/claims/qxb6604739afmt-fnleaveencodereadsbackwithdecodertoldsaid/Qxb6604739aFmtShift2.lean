import Derived.Test.Qxb6604739aFmtShift
namespace Go.Proofs.Qxb6604739aFmt
open Go.RowKit

/-- a slice of the call's own that is not empty, as the decoder will meet it -/
theorem Own.head {w : World} {v : Value} {M : List Int} (h : Own w v M) (h0 : 0 < M.length) :
    ∃ g cap, v = .slice (some ⟨g, 0, none⟩) M.length cap ∧ M.length ≤ cap ∧ cap ≤ maxLen ∧ g < w.heap.size ∧ v.ownBlock = some g ∧ At w g 0 M := by
  have hl := h.lt
  rcases h.form with ⟨_, e⟩ | ⟨g, cap, rfl, h1, h2, h3⟩
  · rw [e] at h0; simp at h0
  · exact ⟨g, cap, rfl, h1, h2, hl g rfl, rfl, fun j hj => by rw [Nat.zero_add]; exact h3 j hj⟩

theorem dec_new {w : World} {g cap : Nat} {M : List Int} (h1 : M.length ≤ cap) (h2 : cap ≤ maxLen) (hg : g < w.heap.size) (hat : At w g 0 M) :
    Dec w.heap.size g (w.alloc (.cells #[.slice (some ⟨g, 0, none⟩) M.length cap, .nilIface] 65)) ⟨g, 0, none⟩ cap M :=
  ⟨heap_alloc_new w _, h1, h2, by omega, fun _ => ⟨0, rfl, hat.later ((Below.refl _ _).alloc (Nat.le_refl _) _)⟩⟩

theorem Gr.shrink {S : List Nat} {w w1 : World} {o : Obj} (h : Gr (S ++ [w.heap.size]) (w.alloc o) w1) : Gr S w w1 :=
  ⟨h.os, h.tape, h.output, by have := h.size; simp at this; omega, fun k hk hn => (h.block k (by simp; omega) (by simp only [List.mem_append, List.mem_singleton]; exact fun h => h.elim hn (by omega))).trans (Below.heap_alloc _ _ _ hk)⟩

theorem Gr.drewN {S : List Nat} {w w1 : World} (h : Gr S w w1) (n : Nat) : Gr S w (w1.drewN n) := by
  induction n with
  | zero => exact h
  | succ n ih => exact ⟨ih.os, ih.tape, ih.output, ih.size, ih.block⟩

theorem Sh.drewN {w : World} {bm : Nat} {x y z : ByteArray} (h : Sh w bm x y z) (n : Nat) : Sh (w.drewN n) bm x y z := by
  induction n with
  | zero => exact h
  | succ n ih => exact ih

/-- what ZZdecodeShift hands back -/
def Left (g : Nat) (w : World) (T : List Int) (e : Ending) : Prop := ∃ a c, e = .returned (.tuple #[.bool false, .slice (some a) T.length c]) ∧ (0 < T.length → ∃ p, a = ⟨g, p, none⟩ ∧ At w g p T)

set_option maxRecDepth 100000 in
set_option maxHeartbeats 1600000 in
theorem decodeShift_any (g bm cap : Nat) (x y z p f t : ByteArray) (T : List Int) (w : World) (hl1 : (es p ++ (es f ++ (es t ++ T))).length ≤ cap) (hl2 : cap ≤ maxLen) (hg : g < w.heap.size) (hat : At w g 0 (es p ++ (es f ++ (es t ++ T)))) (hm : Sh w bm x y z) (h2 : bm ≠ g)
    (hp : p.size ≤ 1048576) (hf : f.size ≤ 1048576) (ht : t.size ≤ 1048576) (hM : (es p ++ (es f ++ (es t ++ T))).length ≤ 268435456) :
    Calls Tryf.prog 22 #[.slice (some ⟨g, 0, none⟩) (es p ++ (es f ++ (es t ++ T))).length cap, .pointer (some ⟨bm, 0, none⟩)] w fun e w' => Left g w' T e ∧ Sh w' bm p f t ∧ Gr [bm] w w' := by
  have hbl : bm < w.heap.size := lt_of_block hm
  have HD := hide (dec_new hl1 hl2 hg hat)
  have HSh : Hid (Sh (w.alloc (.cells #[.slice (some ⟨g, 0, none⟩) (es p ++ (es f ++ (es t ++ T))).length cap, .nilIface] 65)) bm x y z) := (Below.heap_alloc _ _ _ hbl).trans hm
  have HM := hide hM
  obtain ⟨n, Hn⟩ : ∃ n, Hid ((es p ++ (es f ++ (es t ++ T))).length = n) := ⟨_, rfl⟩
  rw [Hn.out] at HD HSh ⊢
  clear hat hm hl1 hM
  go_enter Tryf.func22, Tryf.ntmps22
  go_wp2_with fail
  refine (shiftDecode_any w.heap.size g bm cap _ x y z p f t T _ HD.out HSh.out (by omega) h2 hp hf ht HM.out).mono ?_
  rintro e w1 ⟨rfl, a1, c1, D1, S1, G1⟩
  have q0 := D1.c0
  have q1 := D1.c1
  have HD1 := hide D1
  have HS1 := hide S1
  have HG1 := hide G1
  clear D1 S1 G1
  go_wp2_with fail
  go_quiet (fail)
  go_wp2
  go_ret2
  refine ⟨⟨a1, c1, rfl, fun h0 => ?_⟩, HS1.out.drewN nq, (Gr.shrink (S := [bm]) HG1.out).drewN nq⟩
  obtain ⟨q, e, hq⟩ := HD1.out.cells h0
  exact ⟨q, e, hq.later (below_drewN ⟨_, rfl⟩)⟩

set_option maxRecDepth 100000 in
set_option maxHeartbeats 1600000 in
theorem encString_any (B : Nat) (sv : Value) (L : List Int) (s : ByteArray) (w : World) (ho : Own w sv L) (hB : B ≤ w.heap.size) (hv : ∀ k, sv.ownBlock = some k → B ≤ k) (hL : L.length ≤ 67108864) (hs : s.size ≤ 1048576) :
    Calls Tryf.prog 21 #[sv, .string s] w fun e w' => ∃ v', e = .returned v' ∧ Own w' v' (L ++ es s) ∧ Below B w w' ∧ ∀ k, v'.ownBlock = some k → B ≤ k := by
  have hE : Enc w.heap.size (w.alloc (.cells #[sv] 54)) sv L := by
    refine ⟨heap_alloc_new w _, ho.kept (World.grownBy_alloc w _ none) (none_or _), fun e => ?_⟩
    have := ho.lt _ e
    omega
  have HE := hide hE
  have HV := hide hv
  obtain ⟨s1, s2, s3, rfl⟩ := ho.isSlice
  clear hE ho hv
  go_enter Tryf.func21, Tryf.ntmps21
  go_wp2_with fail
  refine (string_any w.heap.size _ L s _ HE.out (by omega) hs).mono ?_
  rintro e w1 ⟨rfl, v1, E1, S1⟩
  have hc := E1.cell
  obtain ⟨a1, n1, c1, rfl⟩ := E1.own.isSlice
  have HE1 := hide E1
  have HS1 := hide S1
  clear E1 S1
  go_wp2
  go_ret
  have S := HS1.out
  refine ⟨_, rfl, HE1.out.own, ((Below.refl B w).alloc hB _).trans (S.below (by simp; omega) hB HV.out), fun k hk => ?_⟩
  rcases S.own k hk with h | h
  · exact HV.out k h
  · simp at h; omega

set_option maxRecDepth 100000 in
set_option maxHeartbeats 3200000 in
theorem bytes20_any (p f t : ByteArray) (a : Option Addr) (n c : Nat) (p0 f0 t0 : ByteArray) (w : World) :
    Calls Tryf.prog 20 #[.string p, .string f, .string t, .slice a n c, .string p0, .string f0, .string t0] w fun e w' => IsBool e ∧ w = w' := by
  go_enter Tryf.func20, Tryf.ntmps20
  go_wp2
  all_goals (go_ret; exact ⟨isBool _, rfl⟩)

end Go.Proofs.Qxb6604739aFmt
