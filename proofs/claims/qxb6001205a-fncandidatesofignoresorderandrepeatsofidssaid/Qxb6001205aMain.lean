/-
  THE LAW's OWN WALK (3): out of the callees' contracts.
-/
import Derived.Test.Qxb6001205aBytes
import Derived.Test.Qxb6001205aMakes
import Derived.Test.Qxb6001205aSame
import Derived.Test.Qxb6001205aSelect
import Derived.Test.Qxb6001205aGroup
namespace Go.Proofs.Qxb6001205a
open Go.ChangeShapes Go.WideShapes Go.ChangeAt Go.RowKit
open Plain

/-- The group's own box: its five cells. -/
def Box (w : World) (B : Nat) (v : Value) : Prop :=
  w.cell? ⟨B, 0, none⟩ = some (.string ⟨#[103]⟩) ∧ w.cell? ⟨B, 1, none⟩ = some (.string ⟨#[103, 114, 111, 117, 112]⟩) ∧ w.cell? ⟨B, 2, none⟩ = some (.string ⟨#[98, 111, 97, 114, 100]⟩) ∧ w.cell? ⟨B, 3, none⟩ = some (.int .i64 1) ∧ w.cell? ⟨B, 4, none⟩ = some v

theorem Box.later {w wx : World} {B : Nat} {v : Value} (h : Box w B v) (hb : Below w.heap.size w wx) : Box wx B v :=
  ⟨cell_later hb h.1, cell_later hb h.2.1, cell_later hb h.2.2.1, cell_later hb h.2.2.2.1, cell_later hb h.2.2.2.2⟩

theorem box_new (w : World) (v : Value) : Box (w.alloc (.cells #[.string ⟨#[103]⟩, .string ⟨#[103, 114, 111, 117, 112]⟩, .string ⟨#[98, 111, 97, 114, 100]⟩, .int .i64 1, v] 28)) w.heap.size v := by
  unfold Box
  simp

/-- L's strings, then the first k of R. -/
def firsts (L R : List ByteArray) (k : Nat) : List Value := L.map Value.string ++ (R.take k).map Value.string

theorem firsts_succ (L R : List ByteArray) (k : Nat) (h : k < R.length) : firsts L R (k + 1) = firsts L R k ++ [.string R[k]] := by
  unfold firsts
  rw [List.take_succ_eq_append_getElem h, List.map_append, List.append_assoc]
  rfl

theorem firsts_zero (L R : List ByteArray) : firsts L R 0 = L.map Value.string := by simp [firsts]

theorem firsts_all (L R : List ByteArray) : firsts L R R.length = (L ++ R).map Value.string := by simp [firsts]

theorem firsts_nil (L R : List ByteArray) : firsts [] L L.length = firsts L R 0 := by simp [firsts]

set_option maxHeartbeats 2000000 in
theorem law_walk (a0 a1 a2 : Option Addr) (c0 c1 c2 : Nat) (L0 L1 L2 : List ByteArray) (w : World) (h0 : Strs w a0 L0) (h1 : Strs w a1 L1) (h2 : Strs w a2 L2)
    (n0 : a0 = none → L0 = [] ∧ c0 = 0) (n1 : a1 = none → L1 = [] ∧ c1 = 0) (n2 : a2 = none → L2 = [] ∧ c2 = 0) :
    Calls Try.prog 3 #[.slice a0 L0.length c0, .slice a1 L1.length c1, .slice a2 L2.length c2] w fun e w' => e = .returned (.bool true) ∧ Below w.heap.size w w' := by
  have HB : Hid _ := bytes_any a0 a1 a2 c0 c1 c2 L0 L1 L2 w h0 h1 h2
  have HT : Hid _ := toobig_any a0 a1 a2 c0 c1 c2 L0 L1 L2 w h0 h1 h2
  have N0 : Hid _ := n0
  have N1 : Hid _ := n1
  have N2 : Hid _ := n2
  clear n0 n1 n2
  go_enter Try.func3, Try.ntmps3
  go_wp2_with fail
  refine Calls.mono HB.out ?_
  clear HB
  rintro e w' ⟨⟨t, rfl⟩, rfl⟩
  cases t
  · go_wp2_with fail
    go_ret
    exact ⟨rfl, Below.refl _ _⟩
  go_wp2_with fail
  refine Calls.mono HT.out ?_
  clear HT
  rintro e w' ⟨⟨t, rfl, hbig⟩, rfl⟩
  cases t
  case true =>
    clear hbig
    go_wp2_with fail
    go_ret
    exact ⟨rfl, Below.refl _ _⟩
  case false =>
    obtain ⟨l0, l1, l2⟩ := hbig rfl
    clear hbig
    go_wp2_with fail
    refine (copy_any a0 c0 L0 _ N0.out h0 l0).mono ?_
    rintro e w1 ⟨b0, d0, rfl, m0, s0, hb1⟩
    replace h1 := h1.later hb1
    replace h2 := h2.later hb1
    have M0 : Hid _ := m0
    clear m0 h0 N0
    go_wp2_with fail
    refine (copy_any a1 c1 L1 _ N1.out h1 l1).mono ?_
    rintro e w2 ⟨b1, d1, rfl, m1, s1, hb2⟩
    replace h2 := h2.later hb2
    replace s0 := s0.later hb2
    replace hb2 := hb1.trans (hb2.mono hb1.size)
    clear m1 h1 N1 hb1
    go_wp2_with fail
    refine (copy_any a2 c2 L2 _ N2.out h2 l2).mono ?_
    rintro e w3 ⟨b2, d2, rfl, m2, s2, hb3⟩
    replace s0 := s0.later hb3
    replace s1 := s1.later hb3
    replace hb3 := hb2.trans (hb3.mono hb2.size)
    clear m2 h2 N2 hb2
    go_wp2_with fail
    refine (group_any b0 b1 d0 d1 L0 L1 _ s0 s1 l0 l1).mono ?_
    rintro e w4 ⟨ac, cc, rfl, hC, hb4⟩
    replace s2 := s2.later hb4
    replace hb4 := hb3.trans (hb4.mono hb3.size)
    clear s0 s1 hb3 M0
    obtain ⟨C, hCe⟩ : ∃ C, C = grouped L0 L1 L0.length := ⟨_, rfl⟩
    have lC : C.length ≤ 4096 := by rw [hCe, grouped_length]; exact l0
    rw [← hCe] at hC
    rw [← hCe]
    clear hCe
    go_wp2_with fail
    have hb5 : Below w4.heap.size w4 (w4.alloc (.cells #[.string ⟨#[103]⟩, .string ⟨#[103, 114, 111, 117, 112]⟩, .string ⟨#[98, 111, 97, 114, 100]⟩, .int .i64 1, .slice ac C.length cc] 28)) := (Below.refl _ _).alloc (Nat.le_refl _) _
    have hX := box_new w4 (.slice ac C.length cc)
    replace hC := hC.later hb5
    replace s2 := s2.later hb5
    replace hb5 := hb4.trans (hb5.mono hb4.size)
    clear hb4
    refine (door_any _ _ _ _ ac cc C b2 d2 L2 _ hC s2 lC (by omega)).mono ?_
    rintro e w6 ⟨ab, cb, rfl, hP, hb6⟩
    replace hC := hC.later hb6
    replace s2 := s2.later hb6
    replace hX := hX.later hb6
    replace hb6 := hb5.trans (hb6.mono hb5.size)
    clear hb5
    go_wp2_with fail
    refine (reversed_any b2 d2 L2 _ s2 l2).mono ?_
    rintro e w7 ⟨ar, cr, rfl, mr, sr, hb7⟩
    replace hC := hC.later hb7
    replace hP := hP.later hb7
    replace s2 := s2.later hb7
    replace hX := hX.later hb7
    replace hb7 := hb6.trans (hb7.mono hb6.size)
    obtain ⟨R, hRe⟩ : ∃ R, R = L2.reverse := ⟨_, rfl⟩
    have lR : R.length ≤ 4096 := by rw [hRe, List.length_reverse]; exact l2
    rw [← hRe] at sr
    rw [← hRe]
    have HRe : Hid _ := hRe
    clear hb6 mr hRe
    obtain ⟨i0, hi, hz0, hz1, hz2⟩ := info_parts info9
    go_wp2_with (at_make; refine wpList_make_own _ rfl _ _ 22 rfl w7.heap.size 9 i0 _ 1 Try.underlying22 hi hz0 hz1 _ _ _ (2 * L2.length) rfl rfl (by omega) (by rw [hz2]; omega) (by unfold maxLen; omega) (Nat.le_refl _) ?_)
    intro w8 hown hgrow
    have hb8 : Below w7.heap.size w7 w8 := (Below.refl _ _).grown hgrow (Nat.le_refl _) (fun k h => by cases h)
    clear hgrow
    go_wp2_with fail
    go_loopw [10, 11] (fun v i wr => ∃ k : Nat, k ≤ L2.length ∧ i = .int .i64 k ∧ wr.ownsRow w7.heap.size 9 1 v k (firsts [] L2 k) ∧ Below w7.heap.size w7 wr) (fun _ i _ => L2.length - (intOf i).toNat)
    case atStart => exact ⟨0, Nat.zero_le _, rfl, hown, hb8⟩
    case round =>
      obtain ⟨k, hk, rfl, ho, hb⟩ := hrel
      clear hown hb8
      have hsz := hb.size
      by_cases hlt : k < L2.length
      · obtain ⟨b, off, rfl, x0⟩ := s2 k hlt
        have X0 := cell_later hb x0
        have HP : Hid _ := firsts_succ [] L2 k hlt
        have HB : Hid _ := hb
        clear x0 hb
        go_wp2_with (at_builtin; (refine wpList_append_own _ rfl _ _ 22 rfl w7.heap.size 9 i0 _ 1 16 Try.underlying22 hi hz0 hz1 hz2 rfl (by decide) _ _ _ rfl (ho.alloc _) ⟨wr.heap.size, 0, none⟩ 1 1 [.string L2[k]] rfl rfl ?_ ?_ ?_ ?_ ?_ ?_))
        · exact cell_one_new _ _ _
        · intro u hu
          simp only [List.mem_cons, List.not_mem_nil, or_false] at hu
          subst hu
          rfl
        · unfold maxLen; omega
        · omega
        · simp; omega
        · intro v' wa hown2 hgrow2 _
          have HR : Hid (wa.ownsRow w7.heap.size 9 1 v' (k + 1) (firsts [] L2 (k + 1))) := by
            rw [HP.out]
            exact hown2
          have HB2 : Hid (Below w7.heap.size w7 wa) := (HB.out.alloc hsz _).grown hgrow2 (by simp; omega) (fun j hj => (ho.lt j hj).1)
          clear hown2 hgrow2 ho
          go_wp2_with fail
          go_roundw
          case rel => exact ⟨k + 1, by omega, by go_num, HR.out, HB2.out⟩
          case measure => simp [intOf]; omega
      · have e : k = L2.length := by omega
        subst e
        clear hlt hk
        go_wp2_with fail
        rw [firsts_nil L2 R] at ho
        go_loopw [10, 12] (fun v i wr => ∃ k : Nat, k ≤ R.length ∧ i = .int .i64 k ∧ wr.ownsRow w7.heap.size 9 1 v (L2.length + k) (firsts L2 R k) ∧ Below w7.heap.size w7 wr) (fun _ i _ => R.length - (intOf i).toNat)
        case atStart => exact ⟨0, Nat.zero_le _, rfl, ho, hb⟩
        case round =>
          clear ho hb hsz
          obtain ⟨k, hk, rfl, ho, hb⟩ := hrel
          have hsz := hb.size
          by_cases hlt : k < R.length
          · obtain ⟨b, off, rfl, x0⟩ := sr k hlt
            have X0 := cell_later hb x0
            have HP : Hid _ := firsts_succ L2 R k hlt
            have HB : Hid _ := hb
            clear x0 hb
            go_wp2_with (at_builtin; (refine wpList_append_own _ rfl _ _ 22 rfl w7.heap.size 9 i0 _ 1 16 Try.underlying22 hi hz0 hz1 hz2 rfl (by decide) _ _ _ rfl (ho.alloc _) ⟨wr.heap.size, 0, none⟩ 1 1 [.string R[k]] rfl rfl ?_ ?_ ?_ ?_ ?_ ?_))
            · exact cell_one_new _ _ _
            · intro u hu
              simp only [List.mem_cons, List.not_mem_nil, or_false] at hu
              subst hu
              rfl
            · unfold maxLen; omega
            · omega
            · simp; omega
            · intro v' wa hown2 hgrow2 _
              have HR : Hid (wa.ownsRow w7.heap.size 9 1 v' (L2.length + (k + 1)) (firsts L2 R (k + 1))) := by
                rw [HP.out]
                exact hown2
              have HB2 : Hid (Below w7.heap.size w7 wa) := (HB.out.alloc hsz _).grown hgrow2 (by simp; omega) (fun j hj => (ho.lt j hj).1)
              clear hown2 hgrow2 ho
              go_wp2_with fail
              go_roundw
              case rel => exact ⟨k + 1, by omega, by go_num, HR.out, HB2.out⟩
              case measure => simp [intOf]; omega
          · have e : k = R.length := by omega
            subst e
            clear hlt hk
            obtain ⟨T, hTe⟩ : ∃ T, T = L2 ++ R := ⟨_, rfl⟩
            have hT1 : T.length = L2.length + R.length := by rw [hTe, List.length_append]
            have ho2 : wr.ownsRow w7.heap.size 9 1 u10 T.length (T.map Value.string) := by
              rw [hT1, hTe, ← firsts_all]
              exact ho
            have lT : T.length ≤ 8192 := by omega
            have eR : pick C R = pick C L2 := by rw [HRe.out]; exact pick_reverse C L2
            have eT : pick C T = pick C L2 := by rw [hTe, HRe.out]; exact pick_twice C L2
            have lP := pick_length C L2
            obtain ⟨at', ct, rfl, sT⟩ := strs_of_owns ho2
            clear ho ho2 hTe hT1 hsz
            have hX9 := hX.later hb
            obtain ⟨G0, G1, G2, G3, G4⟩ := hX9
            have D1 := door_any ⟨#[103]⟩ ⟨#[103, 114, 111, 117, 112]⟩ ⟨#[98, 111, 97, 114, 100]⟩ 1 ac cc C ar cr R wr (hC.later hb) (sr.later hb) lC (by omega)
            rw [eR] at D1
            have HD1 : Hid _ := D1
            have HeT : Hid _ := eT
            replace hP := hP.later hb
            replace hC := hC.later hb
            replace hX := hX.later hb
            replace hb := hb7.trans (hb.mono hb7.size)
            clear D1 eR eT hb7 s2 sr HRe
            go_wp2_with fail
            refine Calls.mono HD1.out ?_
            clear HD1
            rintro e wp ⟨ap, cp, rfl, hQ, hbp⟩
            replace hP := hP.later hbp
            replace hC := hC.later hbp
            replace hX := hX.later hbp
            replace sT := sT.later hbp
            replace hbp := hb.trans (hbp.mono hb.size)
            clear hb G0 G1 G2 G3 G4
            go_wp2_with fail
            refine (same_any ab ap cb cp (pick C L2) _ hP hQ (by omega)).mono ?_
            rintro e wq ⟨rfl, hbq⟩
            replace hP := hP.later hbq
            replace hC := hC.later hbq
            replace hX := hX.later hbq
            replace sT := sT.later hbq
            replace hbq := hbp.trans (hbq.mono hbp.size)
            clear hbp hQ
            obtain ⟨G0, G1, G2, G3, G4⟩ := hX
            have D2 := door_any ⟨#[103]⟩ ⟨#[103, 114, 111, 117, 112]⟩ ⟨#[98, 111, 97, 114, 100]⟩ 1 ac cc C at' ct T wq hC sT lC lT
            rw [HeT.out] at D2
            have HD2 : Hid _ := D2
            clear D2 HeT
            go_wp2_with fail
            refine Calls.mono HD2.out ?_
            clear HD2
            rintro e wz ⟨az, cz, rfl, hZ, hbz⟩
            replace hP := hP.later hbz
            replace hbz := hbq.trans (hbz.mono hbq.size)
            clear hbq G0 G1 G2 G3 G4 hC sT
            go_wp2_with fail
            refine (same_any ab az cb cz (pick C L2) _ hP hZ (by omega)).mono ?_
            rintro e wy ⟨rfl, hby⟩
            replace hby := hbz.trans (hby.mono hbz.size)
            clear hbz hP hZ
            go_wp2_with fail
            go_ret
            exact ⟨rfl, hby⟩
end Go.Proofs.Qxb6001205a
