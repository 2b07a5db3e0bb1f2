/-
  FnAheadPlanEntityOneTypePutInAnywhere: the walk, for every input.
-/
import Derived.Test.Qxb6612910aOwn
namespace Go.Proofs.Qxb6612910a
open Go.RowKit
theorem at0_fit {Z E : Nat → Int} {n : Nat} (h : Fit Z E n) (r : Nat) : at0 E n r - at0 Z n r ≤ 65536 := by
  unfold at0
  by_cases hr : r < n
  · rw [if_pos hr, if_pos hr]; exact (h r hr).2.2
  · rw [if_neg hr, if_neg hr]; omega
set_option maxHeartbeats 8000000 in
set_option maxRecDepth 100000 in
theorem main_walk (a0 a1 a2 : Option Addr) (n c0 n1 c1 n2 c2 : Nat) (S : Nat → ByteArray) (Z E : Nat → Int) (s3 s4 s5 s6 s7 s9 : ByteArray) (x8 x10 x11 : Int) (w : World)
    (hS : RowAt w.heap.size w a0 n (strV S)) (hZ : RowAt w.heap.size w a1 n1 (intV Z)) (hE : RowAt w.heap.size w a2 n2 (intV E))
    (hn : n ≤ maxLen) (hn1 : n1 ≤ maxLen) (hn2 : n2 ≤ maxLen) (h3 : s3.size ≤ maxLen) (h4 : s4.size ≤ maxLen) (h5 : s5.size ≤ maxLen) (h6 : s6.size ≤ maxLen) (h7 : s7.size ≤ maxLen) (h9 : s9.size ≤ maxLen)
    (hSz : ∀ i, i < n → (S i).size ≤ maxLen) (hEb : ∀ i, i < n2 → E i ≤ 9223372036854775807) (h11 : x11 ≤ 9223372036854775807) :
    Calls Try.prog 3 #[.slice a0 n c0, .slice a1 n1 c1, .slice a2 n2 c2, .string s3, .string s4, .string s5, .string s6, .string s7, .int .i64 x8, .string s9, .int .i64 x10, .int .i64 x11] w
      fun e w' => e = .returned (.bool true) ∧ Below w.heap.size w w' := by
  have k5 := bytes_any w.heap.size a0 n c0 S a1 a2 n1 c1 n2 c2 s3 s4 s5 s6 s7 s9 x8 x10 x11 w hS hn hn1 hn2 h3 h4 h5 h6 h7 h9 hSz
  have HS : Hid (RowAt w.heap.size w a0 n (strV S) ∧ RowAt w.heap.size w a1 n1 (intV Z) ∧ RowAt w.heap.size w a2 n2 (intV E)) := ⟨hS, hZ, hE⟩
  have HB : Hid (∀ i, i < n2 → E i ≤ 9223372036854775807) := hEb
  clear hS hZ hE hSz h3 h4 h5 h6 h7 h9 hEb
  unfold maxLen at hn hn1 hn2
  have K5 := hide k5
  clear k5
  go_enter Try.func3, Try.ntmps3
  go_wp2_with fail
  refine K5.out.mono ?_
  clear K5
  rintro e w ⟨r, rfl, rfl⟩
  cases r
  · go_wp2
    go_ret
    exact ⟨rfl, Below.refl _ _⟩
  by_cases h65 : (65536 : Int) < (n : Int)
  · go_wp2
    go_ret
    exact ⟨rfl, Below.refl _ _⟩
  by_cases e1 : n1 = n
  case neg =>
    have e1' : ((n1 : Int) != (n : Int)) = true := by rw [bne_iff_ne]; omega
    go_wp2
    all_goals
      go_ret
      exact ⟨rfl, Below.refl _ _⟩
  subst e1
  by_cases e2 : n2 = n1
  case neg =>
    have e2' : ((n2 : Int) != (n1 : Int)) = true := by rw [bne_iff_ne]; omega
    go_wp2
    all_goals
      go_ret
      exact ⟨rfl, Below.refl _ _⟩
  subst e2
  go_wp2_with fail
  refine (strbytes_any (w.heap.size + 1) _ 6 6 _ 0 _ (six_row w s3 s4 s5 s6 s7 s9) (by omega) (by omega) (by omega)).mono ?_
  rintro e w1 ⟨r, hr0, hr1, rfl, rfl⟩
  by_cases ht1 : (1048576 : Int) < r
  · go_wp2
    go_ret
    exact ⟨rfl, (Below.refl _ _).alloc (Nat.le_refl _) _⟩
  by_cases ht2 : (1048576 : Int) < r + 8 * (n2 : Int)
  · go_wp2
    go_ret
    exact ⟨rfl, (Below.refl _ _).alloc (Nat.le_refl _) _⟩
  by_cases ht3 : (1048576 : Int) < r + 8 * (n2 : Int) + 8 * (n2 : Int)
  · go_wp2
    go_ret
    exact ⟨rfl, (Below.refl _ _).alloc (Nat.le_refl _) _⟩
  have HW : Hid (Below w.heap.size w (w.alloc (.cells #[.string s3, .string s4, .string s5, .string s6, .string s7, .string s9] 9))) := (Below.refl _ _).alloc (Nat.le_refl _) _
  go_wp2_with fail
  refine (strbytes_any w.heap.size _ n2 c0 S _ _ (HS.out.1.below HW.out) (by omega) (by omega) (by omega)).mono ?_
  generalize (w.alloc (.cells #[.string s3, .string s4, .string s5, .string s6, .string s7, .string s9] 9)) = W1 at *
  rintro e w1 ⟨r2, hr2, hr3, rfl, rfl⟩
  by_cases ht4 : (1048576 : Int) < r2
  · go_wp2
    go_ret
    exact ⟨rfl, HW.out⟩
  go_wp2_with fail
  refine (fit_any w.heap.size _ _ n2 c1 c2 Z E _ (HS.out.2.1.below HW.out) (HS.out.2.2.below HW.out) (by omega) HB.out).mono ?_
  rintro e W2 ⟨r3, rfl, hfit0, q, hq⟩
  have HW2 : Hid (Below w.heap.size w W2) := by rw [hq]; exact ⟨HW.out.os, HW.out.tape, HW.out.output, HW.out.size, HW.out.block⟩
  clear hq HW HB
  cases r3
  · go_wp2
    go_ret
    exact ⟨rfl, HW2.out⟩
  have hfit : Hid (Fit Z E n2) := hfit0 rfl
  clear hfit0
  by_cases q1 : x8 < 0
  · go_wp2
    go_ret
    exact ⟨rfl, HW2.out⟩
  have q1' : decide (x8 < 0) = false := by simpa using q1
  by_cases q2 : (n2 : Int) < x8
  · go_wp2
    go_ret
    exact ⟨rfl, HW2.out⟩
  by_cases q3 : x10 < 0
  · go_wp2
    go_ret
    exact ⟨rfl, HW2.out⟩
  have q3' : decide (x10 < 0) = false := by simpa using q3
  by_cases q4 : x11 < x10
  · go_wp2
    go_ret
    exact ⟨rfl, HW2.out⟩
  have q4' : decide (x11 < x10) = false := by simpa using q4
  by_cases q5 : 65536 < x11 - x10
  · go_wp2
    go_ret
    exact ⟨rfl, HW2.out⟩
  obtain ⟨m, rfl⟩ := Int.eq_ofNat_of_zero_le (show 0 ≤ x8 by omega)
  have hm : m ≤ n2 := by omega
  go_upto_region 25 with fail
  go_cut [26] (fun v wx => v = .int .i64 n2 ∧ wx = W2)
  case first =>
    go_wp2_with fail
    go_meet
    exact ⟨rfl, rfl⟩
  case rest =>
    obtain ⟨rfl, rfl⟩ := hcut
    obtain ⟨M1, hM1, mk1⟩ := make_strs (n2 + 1) (by omega)
    obtain ⟨M2, hM2, mk2⟩ := make_ints (n2 + 1) (by omega)
    have HM : Hid (M1.size = n2 + 1 ∧ M2.size = n2 + 1) := ⟨hM1, hM2⟩
    rw [show ((n2 + 1 : Nat) : Int) = (n2 : Int) + 1 from by omega] at mk1 mk2
    clear hM1 hM2 hr0 hr1 ht1 ht2 ht3 hr2 hr3 ht4 q1' q3' q4'
    go_wp2_with fail
    clear mk1 mk2
    obtain ⟨i9, hi9, hs9⟩ := info9
    obtain ⟨i3, hi3, hs3⟩ := info3
    have HI : Hid (Try.prog.info? 9 = some i9 ∧ i9.size = 1 ∧ Try.prog.info? 3 = some i3 ∧ i3.size = 1) := ⟨hi9, hs9, hi3, hs3⟩
    clear hi9 hs9 hi3 hs3
    go_loopw [27, 28, 29, 30] (fun v1 v2 v3 i wr => ∃ k : Nat, k ≤ m ∧ i = .int .i64 k ∧ v1 = .slice (some ⟨wc.heap.size, 0, none⟩) k (n2 + 1) ∧ v2 = .slice (some ⟨wc.heap.size + 1, 0, none⟩) k (n2 + 1) ∧ v3 = .slice (some ⟨wc.heap.size + 1 + 1, 0, none⟩) k (n2 + 1) ∧
        Below wc.heap.size wc wr ∧ OwnAt wr wc.heap.size (n2 + 1) k (strV (ins m s9 S)) ∧ OwnAt wr (wc.heap.size + 1) (n2 + 1) k (intV (ins m x10 Z)) ∧ OwnAt wr (wc.heap.size + 1 + 1) (n2 + 1) k (intV (ins m x11 E))) (fun _ _ _ i _ => m - (intOf i).toNat)
    case atStart =>
      refine ⟨0, Nat.zero_le _, rfl, rfl, rfl, rfl, (((Below.refl _ _).alloc (Nat.le_refl _) _).alloc (by simp) _).alloc (by simp; omega) _, ?_, ?_, ?_⟩
      · exact ((OwnAt.made wc M1 9 (n2 + 1) HM.out.1 _).alloc _).alloc _
      · have := (OwnAt.made (wc.alloc (.cells M1 9)) M2 3 (n2 + 1) HM.out.2 (intV (ins m x10 Z))).alloc (.cells M2 3)
        simpa using this
      · have := (OwnAt.made ((wc.alloc (.cells M1 9)).alloc (.cells M2 3)) M2 3 (n2 + 1) HM.out.2 (intV (ins m x11 E)))
        simpa using this
    case round =>
      obtain ⟨k, hk, rfl, rfl, rfl, rfl, hb, o1, o2, o3⟩ := hrel
      by_cases hlt : k < m
      · have hkn : k < n2 := by omega
        have hbw := HW2.out.trans (hb.mono HW2.out.size)
        rcases (HS.out.1.below hbw) with h0 | ⟨b0, f0, ha0, hB0, hc0⟩
        · omega
        rcases (HS.out.2.1.below hbw) with h0 | ⟨b1, f1, ha1, hB1, hc1⟩
        · omega
        rcases (HS.out.2.2.below hbw) with h0 | ⟨b2, f2, ha2, hB2, hc2⟩
        · omega
        subst ha0 ha1 ha2
        have g0 := hc0 k hkn
        have g1 := hc1 k hkn
        have g2 := hc2 k hkn
        unfold strV at g0
        unfold intV at g1 g2
        have hwc : w.heap.size ≤ wc.heap.size := HW2.out.size
        have l1 := o1.lt
        have l2 := o2.lt
        have l3 := o3.lt
        have B0 : b0 < wr.heap.size := by omega
        have B1 : b1 < wr.heap.size := by omega
        have B2 : b2 < wr.heap.size := by omega
        obtain ⟨v1, t1⟩ := o1.there k (by omega)
        obtain ⟨v2, t2⟩ := o2.there k (by omega)
        obtain ⟨v3, t3⟩ := o3.there k (by omega)
        have z1 := o1.free k (by omega)
        have z2 := o2.free k (by omega)
        have z3 := o3.free k (by omega)
        have n0 : ¬ b0 = wc.heap.size := by omega
        have n1 : ¬ b1 = wc.heap.size := by omega
        have n2' : ¬ b2 = wc.heap.size := by omega
        generalize hu : S k = u at g0
        generalize hz : Z k = z at g1
        generalize hx : E k = x at g2
        have HU : Hid (S k = u ∧ Z k = z ∧ E k = x) := ⟨hu, hz, hx⟩
        have HO : Hid (Below wc.heap.size wc wr ∧ OwnAt wr wc.heap.size (n2 + 1) k (strV (ins m s9 S)) ∧ OwnAt wr (wc.heap.size + 1) (n2 + 1) k (intV (ins m x10 Z)) ∧ OwnAt wr (wc.heap.size + 1 + 1) (n2 + 1) k (intV (ins m x11 E))) := ⟨hb, o1, o2, o3⟩
        clear hu hz hx hb hbw o1 o2 o3 hc0 hc1 hc2
        go_wp2
        go_roundw
        case rel => exact ⟨k + 1, by omega, by go_num, rfl, rfl, rfl, push3 HO.out.1 HO.out.2.1 HO.out.2.2.1 HO.out.2.2.2 (by omega) (by unfold strV; rw [ins_lt hlt, HU.out.1]) (by unfold intV; rw [ins_lt hlt, HU.out.2.1]) (by unfold intV; rw [ins_lt hlt, HU.out.2.2]) _ _ _⟩
        case measure => simp [intOf]; omega
      · obtain rfl : k = m := by omega
        have hwc : w.heap.size ≤ wc.heap.size := HW2.out.size
        have l1 := o1.lt
        have l2 := o2.lt
        have l3 := o3.lt
        obtain ⟨v1, t1⟩ := o1.there k (by omega)
        obtain ⟨v2, t2⟩ := o2.there k (by omega)
        obtain ⟨v3, t3⟩ := o3.there k (by omega)
        have z1 := o1.free k (by omega)
        have z2 := o2.free k (by omega)
        have z3 := o3.free k (by omega)
        have P3 := hide (push3 hb o1 o2 o3 (by omega) (v1 := .string s9) (v2 := .int .i64 x10) (v3 := .int .i64 x11) (by unfold strV; rw [ins_at]) (by unfold intV; rw [ins_at]) (by unfold intV; rw [ins_at]) (.cells #[.string s9] 9) (.cells #[.int .i64 x10] 3) (.cells #[.int .i64 x11] 3))
        clear hb o1 o2 o3
        go_wp2
        show Code.wp _ _ _ _ (Push3 wr wc.heap.size k (.string s9) (.int .i64 x10) (.int .i64 x11) (.cells #[.string s9] 9) (.cells #[.int .i64 x10] 3) (.cells #[.int .i64 x11] 3))
        generalize Push3 wr wc.heap.size k (.string s9) (.int .i64 x10) (.int .i64 x11) (.cells #[.string s9] 9) (.cells #[.int .i64 x10] 3) (.cells #[.int .i64 x11] 3) = W4 at *
        clear t1 t2 t3 z1 z2 z3 l1 l2 l3
        go_loopw [27, 28, 29, 31] (fun v1 v2 v3 i wr => ∃ j : Nat, k ≤ j ∧ j ≤ n2 ∧ i = .int .i64 j ∧ v1 = .slice (some ⟨wc.heap.size, 0, none⟩) (j + 1) (n2 + 1) ∧ v2 = .slice (some ⟨wc.heap.size + 1, 0, none⟩) (j + 1) (n2 + 1) ∧ v3 = .slice (some ⟨wc.heap.size + 1 + 1, 0, none⟩) (j + 1) (n2 + 1) ∧
            Below wc.heap.size wc wr ∧ OwnAt wr wc.heap.size (n2 + 1) (j + 1) (strV (ins k s9 S)) ∧ OwnAt wr (wc.heap.size + 1) (n2 + 1) (j + 1) (intV (ins k x10 Z)) ∧ OwnAt wr (wc.heap.size + 1 + 1) (n2 + 1) (j + 1) (intV (ins k x11 E))) (fun _ _ _ i _ => n2 - (intOf i).toNat)
        case atStart => exact ⟨k, Nat.le_refl _, hm, rfl, rfl, rfl, rfl, P3.out⟩
        case round =>
          clear P3 W4
          obtain ⟨j, hkj, hj, rfl, rfl, rfl, rfl, hb, o1, o2, o3⟩ := hrel
          by_cases hlt : j < n2
          · have hbw := HW2.out.trans (hb.mono HW2.out.size)
            rcases (HS.out.1.below hbw) with h0 | ⟨b0, f0, ha0, hB0, hc0⟩
            · omega
            rcases (HS.out.2.1.below hbw) with h0 | ⟨b1, f1, ha1, hB1, hc1⟩
            · omega
            rcases (HS.out.2.2.below hbw) with h0 | ⟨b2, f2, ha2, hB2, hc2⟩
            · omega
            subst ha0 ha1 ha2
            have g0 := hc0 j hlt
            have g1 := hc1 j hlt
            have g2 := hc2 j hlt
            unfold strV at g0
            unfold intV at g1 g2
            have l1 := o1.lt
            have l2 := o2.lt
            have l3 := o3.lt
            have B0 : b0 < wr.heap.size := by omega
            have B1 : b1 < wr.heap.size := by omega
            have B2 : b2 < wr.heap.size := by omega
            obtain ⟨v1, t1⟩ := o1.there (j + 1) (by omega)
            obtain ⟨v2, t2⟩ := o2.there (j + 1) (by omega)
            obtain ⟨v3, t3⟩ := o3.there (j + 1) (by omega)
            have z1 := o1.free (j + 1) (by omega)
            have z2 := o2.free (j + 1) (by omega)
            have z3 := o3.free (j + 1) (by omega)
            have n0 : ¬ b0 = wc.heap.size := by omega
            have n1 : ¬ b1 = wc.heap.size := by omega
            have n2' : ¬ b2 = wc.heap.size := by omega
            generalize hu : S j = u at g0
            generalize hz : Z j = z at g1
            generalize hx : E j = x at g2
            have HU : Hid (S j = u ∧ Z j = z ∧ E j = x) := ⟨hu, hz, hx⟩
            have P4 := hide (push3 hb o1 o2 o3 (by omega) (v1 := .string u) (v2 := .int .i64 z) (v3 := .int .i64 x) (by unfold strV; rw [ins_gt (by omega)]; simp [hu]) (by unfold intV; rw [ins_gt (by omega)]; simp [hz]) (by unfold intV; rw [ins_gt (by omega)]; simp [hx]) (.cells #[.string u] 9) (.cells #[.int .i64 z] 3) (.cells #[.int .i64 x] 3))
            clear hu hz hx hb hbw o1 o2 o3 hc0 hc1 hc2
            go_wp2
            go_roundw
            case rel => exact ⟨j + 1, by omega, by omega, by go_num, rfl, rfl, rfl, P4.out⟩
            case measure => simp [intOf]; omega
          · have e : n2 = j := by omega
            subst e
            have HF : Hid (Kept w wr ∧ OwnAt wr wc.heap.size (n2 + 1) (n2 + 1) (strV (ins k s9 S)) ∧ OwnAt wr (wc.heap.size + 1) (n2 + 1) (n2 + 1) (intV (ins k x10 Z)) ∧ OwnAt wr (wc.heap.size + 1 + 1) (n2 + 1) (n2 + 1) (intV (ins k x11 E))) := ⟨HW2.out.trans (hb.mono HW2.out.size), o1, o2, o3⟩
            clear hb o1 o2 o3
            go_wp2_with fail
            refine (types_any a0 a1 a2 n2 c0 c1 c2 S Z E wr (HS.out.1.kept HF.out.1) (HS.out.2.1.kept HF.out.1) (HS.out.2.2.kept HF.out.1) (by omega)).mono ?_
            rintro e w3 ⟨rfl, hb3, ht3⟩
            have H3 : Hid (Kept wr w3 ∧ TypesAt w3 wr.heap.size n2 n2 S Z E) := ⟨hb3, ht3⟩
            clear hb3 ht3
            go_wp2_with fail
            refine (new_plan' w3 _ _ _).mono ?_
            rintro e w4 ⟨rfl, hb4, hp4⟩
            have H4 : Hid (Kept w3 w4 ∧ Blk w4 w3.heap.size (plan5 (some ⟨wr.heap.size, 0, none⟩) n2 n2) 61) := ⟨hb4, hp4⟩
            clear hb4 hp4
            go_wp2_with fail
            refine (types_any _ _ _ (n2 + 1) _ _ _ (ins k s9 S) (ins k x10 Z) (ins k x11 E) w4 (HF.out.2.1.kept (H3.out.1.trans H4.out.1)).row (HF.out.2.2.1.kept (H3.out.1.trans H4.out.1)).row (HF.out.2.2.2.kept (H3.out.1.trans H4.out.1)).row (by omega)).mono ?_
            rintro e w5 ⟨rfl, hb5, ht5⟩
            have H5 : Hid (Kept w4 w5 ∧ TypesAt w5 w4.heap.size (n2 + 1) (n2 + 1) (ins k s9 S) (ins k x10 Z) (ins k x11 E)) := ⟨hb5, ht5⟩
            clear hb5 ht5
            go_wp2_with fail
            refine (new_plan' w5 _ _ _).mono ?_
            rintro e w6 ⟨rfl, hb6, hp6⟩
            have H6 : Hid (Kept w5 w6 ∧ Blk w6 w5.heap.size (plan5 (some ⟨w4.heap.size, 0, none⟩) (n2 + 1) (n2 + 1)) 61) := ⟨hb6, hp6⟩
            clear hb6 hp6
            go_wp2_with fail
            have H7 : Hid (Kept w6 ((w6.alloc (.cells #[.string s3, .string s4] 32)).alloc (.cells #[.string s5, .string s6, .string s7] 34)) ∧ Blk ((w6.alloc (.cells #[.string s3, .string s4] 32)).alloc (.cells #[.string s5, .string s6, .string s7] 34)) w6.heap.size #[.string s3, .string s4] 32 ∧ Blk ((w6.alloc (.cells #[.string s3, .string s4] 32)).alloc (.cells #[.string s5, .string s6, .string s7] 34)) (w6.heap.size + 1) #[.string s5, .string s6, .string s7] 34) :=
              ⟨(Kept.alloc _ _).trans (Kept.alloc _ _), (Blk.new _ _ _).kept (Kept.alloc _ _), by have := Blk.new (w6.alloc (.cells #[.string s3, .string s4] 32)) #[.string s5, .string s6, .string s7] 34; simpa using this⟩
            generalize ((w6.alloc (.cells #[.string s3, .string s4] 32)).alloc (.cells #[.string s5, .string s6, .string s7] 34)) = w7 at *
            refine (plan_entity w3.heap.size wr.heap.size n2 S Z E s3 s4 s5 s6 s7 w7 ?_ ?_ ?_ (by omega) hfit.out).mono ?_
            · exact (H4.out.2.kept (H5.out.1.trans (H6.out.1.trans H7.out.1))).cell 3
            · exact (H4.out.2.kept (H5.out.1.trans (H6.out.1.trans H7.out.1))).lt
            · exact H3.out.2.kept (H4.out.1.trans (H5.out.1.trans (H6.out.1.trans H7.out.1)))
            rintro e w8 ⟨r1, h1, m1, hr1, rfl, hm1, hb8, _, hh1, hrd1⟩
            generalize hz1 : at0 Z n2 r1 = z1 at hm1 ⊢
            generalize hx1 : at0 E n2 r1 = x1 at hm1 ⊢
            have H8 : Hid (First S s3 n2 r1 ∧ at0 Z n2 r1 = z1 ∧ at0 E n2 r1 = x1 ∧ (m1 : Int) = x1 - z1 ∧ Kept w7 w8 ∧ h1 < w8.heap.size ∧ ReadsAt w8 h1 m1) := ⟨hr1, hz1, hx1, hm1, hb8, hh1, hrd1⟩
            clear hr1 hz1 hx1 hm1 hb8 hh1 hrd1
            have A8 := hide (H7.out.2.1.kept H8.out.2.2.2.2.1)
            have B8 := hide (H7.out.2.2.kept H8.out.2.2.2.2.1)
            have lA8 := A8.out.lt
            have lB8 := B8.out.lt
            have pa0 : w8.cell? ⟨w6.heap.size, 0, none⟩ = some (.string s3) := A8.out.cell 0
            have pa1 : w8.cell? ⟨w6.heap.size, 1, none⟩ = some (.string s4) := A8.out.cell 1
            have pb0 : w8.cell? ⟨w6.heap.size + 1, 0, none⟩ = some (.string s5) := B8.out.cell 0
            have pb1 : w8.cell? ⟨w6.heap.size + 1, 1, none⟩ = some (.string s6) := B8.out.cell 1
            have pb2 : w8.cell? ⟨w6.heap.size + 1, 2, none⟩ = some (.string s7) := B8.out.cell 2
            go_wp2_with fail
            clear pa0 pa1 pb0 pb1 pb2
            have H9 : Hid (Kept w8 (w8.alloc (.cells #[.string s3, .string s4, .pointer (some ⟨w3.heap.size, 0, none⟩), .string s5, .string s6, .string s7, .int .i64 z1, .int .i64 x1, .slice (some ⟨h1, 0, none⟩) m1 m1] 39)) ∧ Blk (w8.alloc (.cells #[.string s3, .string s4, .pointer (some ⟨w3.heap.size, 0, none⟩), .string s5, .string s6, .string s7, .int .i64 z1, .int .i64 x1, .slice (some ⟨h1, 0, none⟩) m1 m1] 39)) w8.heap.size #[.string s3, .string s4, .pointer (some ⟨w3.heap.size, 0, none⟩), .string s5, .string s6, .string s7, .int .i64 z1, .int .i64 x1, .slice (some ⟨h1, 0, none⟩) m1 m1] 39) := ⟨Kept.alloc _ _, Blk.new _ _ _⟩
            generalize (w8.alloc (.cells #[.string s3, .string s4, .pointer (some ⟨w3.heap.size, 0, none⟩), .string s5, .string s6, .string s7, .int .i64 z1, .int .i64 x1, .slice (some ⟨h1, 0, none⟩) m1 m1] 39)) = w9 at *
            refine (plan_entity w5.heap.size w4.heap.size (n2 + 1) (ins k s9 S) (ins k x10 Z) (ins k x11 E) s3 s4 s5 s6 s7 w9 ?_ ?_ ?_ (by omega) (fit_ins hm hfit.out (by omega) (by omega) (by omega))).mono ?_
            · exact (H6.out.2.kept (H7.out.1.trans (H8.out.2.2.2.2.1.trans H9.out.1))).cell 3
            · exact (H6.out.2.kept (H7.out.1.trans (H8.out.2.2.2.2.1.trans H9.out.1))).lt
            · exact H5.out.2.kept (H6.out.1.trans (H7.out.1.trans (H8.out.2.2.2.2.1.trans H9.out.1)))
            rintro e w10 ⟨r2', h2, m2, hr2', rfl, hm2, hb10, _, hh2, hrd2⟩
            generalize hz2 : at0 (ins k x10 Z) (n2 + 1) r2' = z2 at hm2 ⊢
            generalize hx2 : at0 (ins k x11 E) (n2 + 1) r2' = x2 at hm2 ⊢
            have H10 : Hid (First (ins k s9 S) s3 (n2 + 1) r2' ∧ at0 (ins k x10 Z) (n2 + 1) r2' = z2 ∧ at0 (ins k x11 E) (n2 + 1) r2' = x2 ∧ (m2 : Int) = x2 - z2 ∧ Kept w9 w10 ∧ h2 < w10.heap.size ∧ ReadsAt w10 h2 m2) := ⟨hr2', hz2, hx2, hm2, hb10, hh2, hrd2⟩
            clear hr2' hz2 hx2 hm2 hb10 hh2 hrd2
            go_wp2_with fail
            have H11 : Hid (Kept w10 (w10.alloc (.cells #[.string s3, .string s4, .pointer (some ⟨w5.heap.size, 0, none⟩), .string s5, .string s6, .string s7, .int .i64 z2, .int .i64 x2, .slice (some ⟨h2, 0, none⟩) m2 m2] 39)) ∧ Blk (w10.alloc (.cells #[.string s3, .string s4, .pointer (some ⟨w5.heap.size, 0, none⟩), .string s5, .string s6, .string s7, .int .i64 z2, .int .i64 x2, .slice (some ⟨h2, 0, none⟩) m2 m2] 39)) w10.heap.size #[.string s3, .string s4, .pointer (some ⟨w5.heap.size, 0, none⟩), .string s5, .string s6, .string s7, .int .i64 z2, .int .i64 x2, .slice (some ⟨h2, 0, none⟩) m2 m2] 39) := ⟨Kept.alloc _ _, Blk.new _ _ _⟩
            generalize (w10.alloc (.cells #[.string s3, .string s4, .pointer (some ⟨w5.heap.size, 0, none⟩), .string s5, .string s6, .string s7, .int .i64 z2, .int .i64 x2, .slice (some ⟨h2, 0, none⟩) m2 m2] 39)) = w11 at *
            have K11 : Hid (Kept w8 w11) := H9.out.1.trans (H10.out.2.2.2.2.1.trans H11.out.1)
            have KW : Hid (Kept w w11) := HF.out.1.trans (H3.out.1.trans (H4.out.1.trans (H5.out.1.trans (H6.out.1.trans (H7.out.1.trans (H8.out.2.2.2.2.1.trans K11.out))))))
            refine (range_any w11.heap.size a0 a1 a2 n2 c0 c1 c2 S s3 Z E w11 (HS.out.1.kept KW.out) (HS.out.2.1.kept KW.out) (HS.out.2.2.kept KW.out) (by omega)).mono ?_
            rintro e w12 ⟨r0, hr0, rfl, q0, hq0⟩
            obtain rfl := hr0.unique H8.out.1
            rw [H8.out.2.1, H8.out.2.2.1]
            have K12 : Hid (Kept w11 w12) := by rw [hq0]; exact Kept.drewN _ _
            clear hq0 hr0
            have hl1 : m1 ≤ 65536 := by have := at0_fit hfit.out r0; rw [H8.out.2.1, H8.out.2.2.1] at this; have := H8.out.2.2.2.1; omega
            have hl2 : m2 ≤ 65536 := by have := at0_fit (fit_ins hm hfit.out (by omega) (by omega) (by omega : x11 - x10 ≤ 65536)) r2'; rw [H10.out.2.1, H10.out.2.2.1] at this; have := H10.out.2.2.2.1; omega
            have lA12 : w6.heap.size < w12.heap.size := (A8.out.kept (K11.out.trans K12.out)).lt
            have lB12 : w6.heap.size + 1 < w12.heap.size := (B8.out.kept (K11.out.trans K12.out)).lt
            cases heq : (s9.toList == s3.toList)
            · have ez : z1 = z2 := by rw [← H10.out.2.1, ← H8.out.2.1]; exact (put_old hm H8.out.1 H10.out.1 (Or.inl heq) x10 Z).symm
              have ex : x1 = x2 := by rw [← H10.out.2.2.1, ← H8.out.2.2.1]; exact (put_old hm H8.out.1 H10.out.1 (Or.inl heq) x11 E).symm
              subst ez
              subst ex
              have E1 := hide (H9.out.2.kept (H10.out.2.2.2.2.1.trans (H11.out.1.trans K12.out)))
              have A12 := hide (A8.out.kept (K11.out.trans K12.out))
              have B12 := hide (B8.out.kept (K11.out.trans K12.out))
              have c0 : w12.cell? ⟨w8.heap.size, 0, none⟩ = some (.string s3) := E1.out.cell 0
              have c1 : w12.cell? ⟨w8.heap.size, 1, none⟩ = some (.string s4) := E1.out.cell 1
              have c2 : w12.cell? ⟨w8.heap.size, 2, none⟩ = some (.pointer (some ⟨w3.heap.size, 0, none⟩)) := E1.out.cell 2
              have c3 : w12.cell? ⟨w8.heap.size, 3, none⟩ = some (.string s5) := E1.out.cell 3
              have c4 : w12.cell? ⟨w8.heap.size, 4, none⟩ = some (.string s6) := E1.out.cell 4
              have c5 : w12.cell? ⟨w8.heap.size, 5, none⟩ = some (.string s7) := E1.out.cell 5
              have c6 : w12.cell? ⟨w8.heap.size, 6, none⟩ = some (.int .i64 z1) := E1.out.cell 6
              have c7 : w12.cell? ⟨w8.heap.size, 7, none⟩ = some (.int .i64 x1) := E1.out.cell 7
              have c8 : w12.cell? ⟨w8.heap.size, 8, none⟩ = some (.slice (some ⟨h1, 0, none⟩) m1 m1) := E1.out.cell 8
              have pa0 : w12.cell? ⟨w6.heap.size, 0, none⟩ = some (.string s3) := A12.out.cell 0
              have pa1 : w12.cell? ⟨w6.heap.size, 1, none⟩ = some (.string s4) := A12.out.cell 1
              have pb0 : w12.cell? ⟨w6.heap.size + 1, 0, none⟩ = some (.string s5) := B12.out.cell 0
              have pb1 : w12.cell? ⟨w6.heap.size + 1, 1, none⟩ = some (.string s6) := B12.out.cell 1
              have pb2 : w12.cell? ⟨w6.heap.size + 1, 2, none⟩ = some (.string s7) := B12.out.cell 2
              go_wp2_with fail
              clear c0 c1 c2 c3 c4 c5 c6 c7 c8 pa0 pa1 pb0 pb1 pb2
              refine (fresh_any w3.heap.size h1 m1 s3 s4 s5 s6 s7 z1 x1 w12 H8.out.2.2.2.1 hl1 (H8.out.2.2.2.2.2.2.kept (K11.out.trans K12.out) H8.out.2.2.2.2.2.1) (Nat.lt_of_lt_of_le H8.out.2.2.2.2.2.1 (Below.size (K11.out.trans K12.out)))).mono ?_
              rintro e w14 ⟨rfl, hb14⟩
              have K14 : Hid (Kept w12 w14) := hb14
              clear hb14
              have E2 := hide (H11.out.2.kept (K12.out.trans K14.out))
              have A14 := hide (A12.out.kept K14.out)
              have B14 := hide (B12.out.kept K14.out)
              have c0 : w14.cell? ⟨w10.heap.size, 0, none⟩ = some (.string s3) := E2.out.cell 0
              have c1 : w14.cell? ⟨w10.heap.size, 1, none⟩ = some (.string s4) := E2.out.cell 1
              have c2 : w14.cell? ⟨w10.heap.size, 2, none⟩ = some (.pointer (some ⟨w5.heap.size, 0, none⟩)) := E2.out.cell 2
              have c3 : w14.cell? ⟨w10.heap.size, 3, none⟩ = some (.string s5) := E2.out.cell 3
              have c4 : w14.cell? ⟨w10.heap.size, 4, none⟩ = some (.string s6) := E2.out.cell 4
              have c5 : w14.cell? ⟨w10.heap.size, 5, none⟩ = some (.string s7) := E2.out.cell 5
              have c6 : w14.cell? ⟨w10.heap.size, 6, none⟩ = some (.int .i64 z1) := E2.out.cell 6
              have c7 : w14.cell? ⟨w10.heap.size, 7, none⟩ = some (.int .i64 x1) := E2.out.cell 7
              have c8 : w14.cell? ⟨w10.heap.size, 8, none⟩ = some (.slice (some ⟨h2, 0, none⟩) m2 m2) := E2.out.cell 8
              have pa0 : w14.cell? ⟨w6.heap.size, 0, none⟩ = some (.string s3) := A14.out.cell 0
              have pa1 : w14.cell? ⟨w6.heap.size, 1, none⟩ = some (.string s4) := A14.out.cell 1
              have pb0 : w14.cell? ⟨w6.heap.size + 1, 0, none⟩ = some (.string s5) := B14.out.cell 0
              have pb1 : w14.cell? ⟨w6.heap.size + 1, 1, none⟩ = some (.string s6) := B14.out.cell 1
              have pb2 : w14.cell? ⟨w6.heap.size + 1, 2, none⟩ = some (.string s7) := B14.out.cell 2
              go_wp2_with fail
              clear c0 c1 c2 c3 c4 c5 c6 c7 c8 pa0 pa1 pb0 pb1 pb2
              refine (fresh_any w5.heap.size h2 m2 s3 s4 s5 s6 s7 z1 x1 w14 H10.out.2.2.2.1 hl2 (H10.out.2.2.2.2.2.2.kept (H11.out.1.trans (K12.out.trans K14.out)) H10.out.2.2.2.2.2.1) (Nat.lt_of_lt_of_le H10.out.2.2.2.2.2.1 (Below.size (H11.out.1.trans (K12.out.trans K14.out))))).mono ?_
              rintro e w15 ⟨rfl, hb15⟩
              go_wp2
              go_ret
              exact ⟨rfl, KW.out.trans (K12.out.trans (K14.out.trans hb15))⟩
            · go_wp2_with fail
              refine (named_any w12.heap.size a0 n2 c0 k S s3 w12 (HS.out.1.kept (KW.out.trans K12.out)) (by omega) hm).mono ?_
              rintro e w12 ⟨b, rfl, hno, hyes, rfl⟩
              have HN : Hid ((b = false → ∀ i, i < k → ((S i).toList == s3.toList) = false) ∧ (b = true → ∃ i, i < k ∧ ((S i).toList == s3.toList) = true)) := ⟨hno, hyes⟩
              clear hno hyes
              cases b
              · have ez : x10 = z2 := by rw [← H10.out.2.1]; exact (put_new hm H10.out.1 heq (HN.out.1 rfl) x10 Z).symm
                have ex : x11 = x2 := by rw [← H10.out.2.2.1]; exact (put_new hm H10.out.1 heq (HN.out.1 rfl) x11 E).symm
                subst ez
                subst ex
                have E1 := hide (H9.out.2.kept (H10.out.2.2.2.2.1.trans (H11.out.1.trans K12.out)))
                have A12 := hide (A8.out.kept (K11.out.trans K12.out))
                have B12 := hide (B8.out.kept (K11.out.trans K12.out))
                have c0 : w12.cell? ⟨w8.heap.size, 0, none⟩ = some (.string s3) := E1.out.cell 0
                have c1 : w12.cell? ⟨w8.heap.size, 1, none⟩ = some (.string s4) := E1.out.cell 1
                have c2 : w12.cell? ⟨w8.heap.size, 2, none⟩ = some (.pointer (some ⟨w3.heap.size, 0, none⟩)) := E1.out.cell 2
                have c3 : w12.cell? ⟨w8.heap.size, 3, none⟩ = some (.string s5) := E1.out.cell 3
                have c4 : w12.cell? ⟨w8.heap.size, 4, none⟩ = some (.string s6) := E1.out.cell 4
                have c5 : w12.cell? ⟨w8.heap.size, 5, none⟩ = some (.string s7) := E1.out.cell 5
                have c6 : w12.cell? ⟨w8.heap.size, 6, none⟩ = some (.int .i64 z1) := E1.out.cell 6
                have c7 : w12.cell? ⟨w8.heap.size, 7, none⟩ = some (.int .i64 x1) := E1.out.cell 7
                have c8 : w12.cell? ⟨w8.heap.size, 8, none⟩ = some (.slice (some ⟨h1, 0, none⟩) m1 m1) := E1.out.cell 8
                have pa0 : w12.cell? ⟨w6.heap.size, 0, none⟩ = some (.string s3) := A12.out.cell 0
                have pa1 : w12.cell? ⟨w6.heap.size, 1, none⟩ = some (.string s4) := A12.out.cell 1
                have pb0 : w12.cell? ⟨w6.heap.size + 1, 0, none⟩ = some (.string s5) := B12.out.cell 0
                have pb1 : w12.cell? ⟨w6.heap.size + 1, 1, none⟩ = some (.string s6) := B12.out.cell 1
                have pb2 : w12.cell? ⟨w6.heap.size + 1, 2, none⟩ = some (.string s7) := B12.out.cell 2
                go_wp2_with fail
                clear c0 c1 c2 c3 c4 c5 c6 c7 c8 pa0 pa1 pb0 pb1 pb2
                refine (fresh_any w3.heap.size h1 m1 s3 s4 s5 s6 s7 z1 x1 w12 H8.out.2.2.2.1 hl1 (H8.out.2.2.2.2.2.2.kept (K11.out.trans K12.out) H8.out.2.2.2.2.2.1) (Nat.lt_of_lt_of_le H8.out.2.2.2.2.2.1 (Below.size (K11.out.trans K12.out)))).mono ?_
                rintro e w14 ⟨rfl, hb14⟩
                have K14 : Hid (Kept w12 w14) := hb14
                clear hb14
                have E2 := hide (H11.out.2.kept (K12.out.trans K14.out))
                have A14 := hide (A12.out.kept K14.out)
                have B14 := hide (B12.out.kept K14.out)
                have c0 : w14.cell? ⟨w10.heap.size, 0, none⟩ = some (.string s3) := E2.out.cell 0
                have c1 : w14.cell? ⟨w10.heap.size, 1, none⟩ = some (.string s4) := E2.out.cell 1
                have c2 : w14.cell? ⟨w10.heap.size, 2, none⟩ = some (.pointer (some ⟨w5.heap.size, 0, none⟩)) := E2.out.cell 2
                have c3 : w14.cell? ⟨w10.heap.size, 3, none⟩ = some (.string s5) := E2.out.cell 3
                have c4 : w14.cell? ⟨w10.heap.size, 4, none⟩ = some (.string s6) := E2.out.cell 4
                have c5 : w14.cell? ⟨w10.heap.size, 5, none⟩ = some (.string s7) := E2.out.cell 5
                have c6 : w14.cell? ⟨w10.heap.size, 6, none⟩ = some (.int .i64 x10) := E2.out.cell 6
                have c7 : w14.cell? ⟨w10.heap.size, 7, none⟩ = some (.int .i64 x11) := E2.out.cell 7
                have c8 : w14.cell? ⟨w10.heap.size, 8, none⟩ = some (.slice (some ⟨h2, 0, none⟩) m2 m2) := E2.out.cell 8
                have pa0 : w14.cell? ⟨w6.heap.size, 0, none⟩ = some (.string s3) := A14.out.cell 0
                have pa1 : w14.cell? ⟨w6.heap.size, 1, none⟩ = some (.string s4) := A14.out.cell 1
                have pb0 : w14.cell? ⟨w6.heap.size + 1, 0, none⟩ = some (.string s5) := B14.out.cell 0
                have pb1 : w14.cell? ⟨w6.heap.size + 1, 1, none⟩ = some (.string s6) := B14.out.cell 1
                have pb2 : w14.cell? ⟨w6.heap.size + 1, 2, none⟩ = some (.string s7) := B14.out.cell 2
                go_wp2_with fail
                clear c0 c1 c2 c3 c4 c5 c6 c7 c8 pa0 pa1 pb0 pb1 pb2
                refine (fresh_any w5.heap.size h2 m2 s3 s4 s5 s6 s7 x10 x11 w14 H10.out.2.2.2.1 hl2 (H10.out.2.2.2.2.2.2.kept (H11.out.1.trans (K12.out.trans K14.out)) H10.out.2.2.2.2.2.1) (Nat.lt_of_lt_of_le H10.out.2.2.2.2.2.1 (Below.size (H11.out.1.trans (K12.out.trans K14.out))))).mono ?_
                rintro e w15 ⟨rfl, hb15⟩
                go_wp2
                go_ret
                exact ⟨rfl, KW.out.trans (K12.out.trans (K14.out.trans hb15))⟩
              · have ez : z1 = z2 := by rw [← H10.out.2.1, ← H8.out.2.1]; exact (put_old hm H8.out.1 H10.out.1 (Or.inr (HN.out.2 rfl)) x10 Z).symm
                have ex : x1 = x2 := by rw [← H10.out.2.2.1, ← H8.out.2.2.1]; exact (put_old hm H8.out.1 H10.out.1 (Or.inr (HN.out.2 rfl)) x11 E).symm
                subst ez
                subst ex
                have E1 := hide (H9.out.2.kept (H10.out.2.2.2.2.1.trans (H11.out.1.trans K12.out)))
                have A12 := hide (A8.out.kept (K11.out.trans K12.out))
                have B12 := hide (B8.out.kept (K11.out.trans K12.out))
                have c0 : w12.cell? ⟨w8.heap.size, 0, none⟩ = some (.string s3) := E1.out.cell 0
                have c1 : w12.cell? ⟨w8.heap.size, 1, none⟩ = some (.string s4) := E1.out.cell 1
                have c2 : w12.cell? ⟨w8.heap.size, 2, none⟩ = some (.pointer (some ⟨w3.heap.size, 0, none⟩)) := E1.out.cell 2
                have c3 : w12.cell? ⟨w8.heap.size, 3, none⟩ = some (.string s5) := E1.out.cell 3
                have c4 : w12.cell? ⟨w8.heap.size, 4, none⟩ = some (.string s6) := E1.out.cell 4
                have c5 : w12.cell? ⟨w8.heap.size, 5, none⟩ = some (.string s7) := E1.out.cell 5
                have c6 : w12.cell? ⟨w8.heap.size, 6, none⟩ = some (.int .i64 z1) := E1.out.cell 6
                have c7 : w12.cell? ⟨w8.heap.size, 7, none⟩ = some (.int .i64 x1) := E1.out.cell 7
                have c8 : w12.cell? ⟨w8.heap.size, 8, none⟩ = some (.slice (some ⟨h1, 0, none⟩) m1 m1) := E1.out.cell 8
                have pa0 : w12.cell? ⟨w6.heap.size, 0, none⟩ = some (.string s3) := A12.out.cell 0
                have pa1 : w12.cell? ⟨w6.heap.size, 1, none⟩ = some (.string s4) := A12.out.cell 1
                have pb0 : w12.cell? ⟨w6.heap.size + 1, 0, none⟩ = some (.string s5) := B12.out.cell 0
                have pb1 : w12.cell? ⟨w6.heap.size + 1, 1, none⟩ = some (.string s6) := B12.out.cell 1
                have pb2 : w12.cell? ⟨w6.heap.size + 1, 2, none⟩ = some (.string s7) := B12.out.cell 2
                go_wp2_with fail
                clear c0 c1 c2 c3 c4 c5 c6 c7 c8 pa0 pa1 pb0 pb1 pb2
                refine (fresh_any w3.heap.size h1 m1 s3 s4 s5 s6 s7 z1 x1 w12 H8.out.2.2.2.1 hl1 (H8.out.2.2.2.2.2.2.kept (K11.out.trans K12.out) H8.out.2.2.2.2.2.1) (Nat.lt_of_lt_of_le H8.out.2.2.2.2.2.1 (Below.size (K11.out.trans K12.out)))).mono ?_
                rintro e w14 ⟨rfl, hb14⟩
                have K14 : Hid (Kept w12 w14) := hb14
                clear hb14
                have E2 := hide (H11.out.2.kept (K12.out.trans K14.out))
                have A14 := hide (A12.out.kept K14.out)
                have B14 := hide (B12.out.kept K14.out)
                have c0 : w14.cell? ⟨w10.heap.size, 0, none⟩ = some (.string s3) := E2.out.cell 0
                have c1 : w14.cell? ⟨w10.heap.size, 1, none⟩ = some (.string s4) := E2.out.cell 1
                have c2 : w14.cell? ⟨w10.heap.size, 2, none⟩ = some (.pointer (some ⟨w5.heap.size, 0, none⟩)) := E2.out.cell 2
                have c3 : w14.cell? ⟨w10.heap.size, 3, none⟩ = some (.string s5) := E2.out.cell 3
                have c4 : w14.cell? ⟨w10.heap.size, 4, none⟩ = some (.string s6) := E2.out.cell 4
                have c5 : w14.cell? ⟨w10.heap.size, 5, none⟩ = some (.string s7) := E2.out.cell 5
                have c6 : w14.cell? ⟨w10.heap.size, 6, none⟩ = some (.int .i64 z1) := E2.out.cell 6
                have c7 : w14.cell? ⟨w10.heap.size, 7, none⟩ = some (.int .i64 x1) := E2.out.cell 7
                have c8 : w14.cell? ⟨w10.heap.size, 8, none⟩ = some (.slice (some ⟨h2, 0, none⟩) m2 m2) := E2.out.cell 8
                have pa0 : w14.cell? ⟨w6.heap.size, 0, none⟩ = some (.string s3) := A14.out.cell 0
                have pa1 : w14.cell? ⟨w6.heap.size, 1, none⟩ = some (.string s4) := A14.out.cell 1
                have pb0 : w14.cell? ⟨w6.heap.size + 1, 0, none⟩ = some (.string s5) := B14.out.cell 0
                have pb1 : w14.cell? ⟨w6.heap.size + 1, 1, none⟩ = some (.string s6) := B14.out.cell 1
                have pb2 : w14.cell? ⟨w6.heap.size + 1, 2, none⟩ = some (.string s7) := B14.out.cell 2
                go_wp2_with fail
                clear c0 c1 c2 c3 c4 c5 c6 c7 c8 pa0 pa1 pb0 pb1 pb2
                refine (fresh_any w5.heap.size h2 m2 s3 s4 s5 s6 s7 z1 x1 w14 H10.out.2.2.2.1 hl2 (H10.out.2.2.2.2.2.2.kept (H11.out.1.trans (K12.out.trans K14.out)) H10.out.2.2.2.2.2.1) (Nat.lt_of_lt_of_le H10.out.2.2.2.2.2.1 (Below.size (H11.out.1.trans (K12.out.trans K14.out))))).mono ?_
                rintro e w15 ⟨rfl, hb15⟩
                go_wp2
                go_ret
                exact ⟨rfl, KW.out.trans (K12.out.trans (K14.out.trans hb15))⟩
end Go.Proofs.Qxb6612910a
