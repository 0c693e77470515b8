import Derived.Test.Qxb6604739aFmtDecLaw
import Derived.Deep.RegionHeld3
namespace Go.Proofs.Qxb6604739aFmt
open Go.RowKit

theorem eas_drop (A : List (ByteArray × ByteArray)) (k : Nat) (h : k < A.length) : eas (A.drop k) = es (nth A k).1 ++ (es (nth A k).2 ++ eas (A.drop (k + 1))) := by
  have e : nth A k = A[k] := by simp [nth, h]
  rw [List.drop_eq_getElem_cons h, e]
  simp only [eas, List.map_cons, List.flatten_cons, ea, List.append_assoc]

theorem el_le (l : Lv) (h : l.Short) : (el l).length ≤ 16777216 := by
  have k1 := es_le l.peer h.peer
  have k2 := es_le l.frm h.frm
  have k3 := es_le l.to h.to
  have k4 := es_le l.pp h.pp
  have k5 := es_le l.pf h.pf
  have k6 := uv_length (x := l.arcs.length) (by have := h.n; omega)
  have k7 := h.all
  have k8 := es_le l.bf h.bf
  have k9 := es_le l.bt h.bt
  have k10 := es_le l.bp h.bp
  simp only [el, List.length_append]
  omega

theorem el_pos (l : Lv) : 0 < (el l).length := by
  have := uv_pos l.arcs.length
  simp only [el, List.length_append]
  omega

set_option maxRecDepth 100000 in
set_option maxHeartbeats 6400000 in
theorem leave_law (ap : Option Addr) (cp : Nat) (l : Lv) (w : World) (hp : ProvIn w ap cp l.arcs) :
    Calls Tryf.prog 4 #[.string l.peer, .string l.frm, .string l.to, .string l.pp, .string l.pf, .slice ap l.arcs.length cp, .string l.bf, .string l.bt, .string l.bp] w fun e w' => e = .returned (.bool true) ∧ Below w.heap.size w w' := by
  have HP := hide hp
  clear hp
  go_enter Tryf.func4, Tryf.ntmps4
  go_wp2_with fail
  refine (bytes11_any ap cp l w HP.out).mono ?_
  rintro e w' ⟨⟨r, rfl⟩, rfl⟩
  cases r with
  | false =>
    go_wp2
    go_ret
    exact ⟨rfl, Below.refl _ _⟩
  | true =>
    go_wp2_with fail
    refine (tooBig_any none ap 0 0 cp l w HP.out).mono ?_
    rintro e w' ⟨hb, m1, rfl⟩
    rcases hb with rfl | ⟨rfl, _, hsh⟩
    · go_wp2
      go_ret
      exact ⟨rfl, below_drewN ⟨_, rfl⟩⟩
    · have HSh := hide hsh
      have hB1 : Below w.heap.size w (w.drewN m1) := below_drewN ⟨_, rfl⟩
      have hna := hsh.n
      have hp2 : Hid (ProvIn (w.drewN m1) ap cp l.arcs) := ⟨HP.out.1, fun h => by obtain ⟨b, o, e, q0, q1⟩ := HP.out.2 h; exact ⟨b, o, e, fun i hi => cell_later hB1 (q0 i hi), fun i hi => cell_later hB1 (q1 i hi)⟩⟩
      clear hsh
      go_wp2_with fail
      refine (leave_any l ap cp _ hna hp2.out).mono ?_
      rintro e w3 ⟨bm, ga, av, rfl, hm, ha, hb3, hbm, hga⟩
      have HM := hide hm
      have HA := hide ha
      have HV : Hid ((Value.slice none 0 0).ownBlock ≠ some bm) := fun e => by cases e
      have HG : Hid (0 < l.arcs.length → (Value.slice none 0 0).ownBlock ≠ some ga ∧ ga < w3.heap.size) := fun h => ⟨(fun e => by cases e), (hga h).2⟩
      have HB3 : Hid (Below w.heap.size w w3) := hB1.trans (hb3.mono hB1.size)
      clear hm ha hga hb3 hbm hp2 hB1
      go_wp2_with fail
      refine (encodeLeave_any bm ga (.slice none 0 0) av [] l w3 (own_nil _) HSh.out (by simp) HM.out HA.out HV.out HG.out).mono ?_
      rintro e w4 ⟨vo, rfl, oo, go⟩
      rw [List.nil_append] at oo
      have hB4 : Below w.heap.size w w4 := HB3.out.trans (grownBy_below go HB3.out.size (fun k hk => by cases hk))
      have hel := el_le l HSh.out
      obtain ⟨g, cap, rfl, hl1, hl2, hg, hown, hat⟩ := oo.head (el_pos l)
      have hsz4 := hB4.size
      have hD : DI w w4.heap.size g (w4.alloc (.cells #[.slice (some ⟨g, 0, none⟩) (el l).length cap, .nilIface] 65)) (el l) :=
        ⟨⟨_, _, dec_new hl1 hl2 hg hat⟩, hB4.alloc hsz4 _, by omega⟩
      have HD := hide hD
      obtain ⟨n, Hn⟩ : ∃ n, Hid ((el l).length = n) := ⟨_, rfl⟩
      rw [Hn.out] at HD ⊢
      have HSz : w.heap.size ≤ w4.heap.size := hsz4
      clear oo go hB4 hel hl1 hl2 hg hown hat hD HM HA HV HG HB3 hsz4
      go_wp2_with fail
      refine (newDecoder_any _ _ _ _).mono ?_
      rintro e w5 ⟨rfl, rfl⟩
      go_wp2_with fail
      refine (zzString_any w w4.heap.size g l.peer _ _ HD.out HSz HSh.out.peer).mono ?_
      rintro e w6 ⟨rfl, D6⟩
      have H6 := hide D6
      clear D6
      go_wp2_with fail
      refine (zzString_any w w4.heap.size g l.frm _ _ H6.out HSz HSh.out.frm).mono ?_
      rintro e w7 ⟨rfl, D7⟩
      have H7 := hide D7
      clear D7
      go_wp2_with fail
      refine (zzString_any w w4.heap.size g l.to _ _ H7.out HSz HSh.out.to).mono ?_
      rintro e w8 ⟨rfl, D8⟩
      have H8 := hide D8
      clear D8
      go_wp2_with fail
      refine (zzString_any w w4.heap.size g l.pp _ _ H8.out HSz HSh.out.pp).mono ?_
      rintro e w9 ⟨rfl, D9⟩
      have H9 := hide D9
      clear D9
      go_wp2_with fail
      refine (zzString_any w w4.heap.size g l.pf _ _ H9.out HSz HSh.out.pf).mono ?_
      rintro e w10 ⟨rfl, D10⟩
      have H10 := hide D10
      clear D10
      go_wp2_with fail
      refine (zzUint_any w w4.heap.size g l.arcs.length _ _ H10.out HSz (by omega)).mono ?_
      rintro e w11 ⟨rfl, D11⟩
      have H11 := hide D11
      clear D11 H6 H7 H8 H9 H10 HD
      go_wp2
      go_loopw [22] (fun i wr => ∃ k : Nat, k ≤ l.arcs.length ∧ i = .int .i64 k ∧ Hid (DI w w4.heap.size g wr (eas (l.arcs.drop k) ++ (es l.bf ++ (es l.bt ++ es l.bp))))) (fun i _ => l.arcs.length - (intOf i).toNat)
      case atStart => exact ⟨0, Nat.zero_le _, rfl, H11⟩
      case round =>
        obtain ⟨k, hk, rfl, HDk⟩ := hrel
        by_cases hlt : k < l.arcs.length
        · obtain ⟨b, o, rfl, q0, q1⟩ := HP.out.2 (by omega)
          have d0 := q0 k hlt
          have d1 := q1 k hlt
          have hsz := HSh.out.arcs k hlt
          have hD := HDk.out
          rw [eas_drop _ _ hlt, List.append_assoc, List.append_assoc] at hD
          obtain ⟨p, Hp⟩ : ∃ p, Hid (nth l.arcs k = p) := ⟨_, rfl⟩
          rw [Hp.out] at d0 d1 hsz hD
          obtain ⟨R, HR⟩ : ∃ R, Hid (eas (l.arcs.drop (k + 1)) ++ (es l.bf ++ (es l.bt ++ es l.bp)) = R) := ⟨_, rfl⟩
          rw [HR.out] at hD
          have HDD := hide hD
          have HD0 := hide d0
          have HD1 := hide d1
          have e0 := hD.cell d0
          have e1 := hD.cell d1
          have hlt' : (k : Int) < (l.arcs.length : Int) := by omega
          clear q0 q1 hD d0 d1
          go_wp2_with fail
          clear HP HSh Hn H11 HDk
          go_region_held3 (fun w' => w'.cell? ⟨b, o + k * 2, none⟩ = some (.string p.1) ∧ w'.cell? ⟨b, o + k * 2 + 1, none⟩ = some (.string p.2)) (go_keep) (first | (go_at_call 16; have hB := HDA.out; refine Calls.mono (zzString_any w w4.heap.size g p.2 R _ ?_ HSz hsz.2) ?_; exact hB; rintro e wB ⟨rfl, DB⟩; have fb0 := DB.cell HD0.out; have fb1 := DB.cell HD1.out; have HDB := hide DB; clear DB hB) | (go_at_call 16; refine Calls.mono (zzString_any w w4.heap.size g p.1 (es p.2 ++ R) _ ?_ HSz hsz.1) ?_; exact HDD.out.drew; rintro e wA ⟨rfl, DA⟩; have fa0 := DA.cell HD0.out; have fa1 := DA.cell HD1.out; have HDA := hide DA; clear DA))
          go_wp2
          refine ⟨⟨k + 1, by omega, by go_num, ?_⟩, by simp [intOf]; omega⟩
          show DI _ _ _ _ _
          rw [HR.out]
          exact HDB.out
        · obtain rfl : k = l.arcs.length := by omega
          have hD := HDk.out
          rw [List.drop_length] at hD
          have HDe : Hid (DI w w4.heap.size g wr (es l.bf ++ (es l.bt ++ (es l.bp ++ [])))) := by
            rw [List.append_nil]
            exact hD
          clear hD
          go_wp2_with fail
          refine (zzString_any w w4.heap.size g l.bf _ _ HDe.out HSz HSh.out.bf).mono ?_
          rintro e w12 ⟨rfl, D12⟩
          have H12 := hide D12
          clear D12
          go_wp2_with fail
          refine (zzString_any w w4.heap.size g l.bt _ _ H12.out HSz HSh.out.bt).mono ?_
          rintro e w13 ⟨rfl, D13⟩
          have H13 := hide D13
          clear D13
          go_wp2_with fail
          refine (zzString_any w w4.heap.size g l.bp _ _ H13.out HSz HSh.out.bp).mono ?_
          rintro e w14 ⟨rfl, D14⟩
          have H14 := hide D14
          clear D14
          go_wp2_with fail
          refine (zzOK_any w w4.heap.size g _ _ H14.out).mono ?_
          rintro e w15 ⟨rfl, rfl⟩
          go_wp2_with fail
          refine (zzLeft_any w w4.heap.size g _ H14.out).mono ?_
          rintro e w16 ⟨rfl, rfl⟩
          go_wp2
          go_ret
          exact ⟨rfl, H14.out.2.1⟩
end Go.Proofs.Qxb6604739aFmt
