/-
  zzAheadFresh, and the small functions that it calls.
-/
import Derived.Test.Qxb6612910aEntity
import Derived.LaidEqlPtr
import Derived.Deep.DeepCutAuto
namespace Go.Proofs.Qxb6612910a
open Go.RowKit
section
variable (s0 s1 : ByteArray) (p : Option Addr) (s2 s3 s4 : ByteArray) (a b : Int) (r : Option Addr) (n c : Nat) (w : World)
theorem ent_plan : Calls Try.prog 27 #[.agg #[.string s0, .string s1, .pointer p, .string s2, .string s3, .string s4, .int .i64 a, .int .i64 b, .slice r n c]] w fun e w' => e = .returned (.pointer p) ∧ w' = w.alloc (.cells #[.string s0, .string s1, .pointer p, .string s2, .string s3, .string s4, .int .i64 a, .int .i64 b, .slice r n c] 39) := by
  go_enter Try.func27, Try.ntmps27
  go_wp2
  go_ret
  exact ⟨rfl, rfl⟩
theorem ent_entity : Calls Try.prog 28 #[.agg #[.string s0, .string s1, .pointer p, .string s2, .string s3, .string s4, .int .i64 a, .int .i64 b, .slice r n c]] w fun e w' => e = .returned (.agg #[.string s0, .string s1]) ∧ w' = (w.alloc (.cells #[.string s0, .string s1, .pointer p, .string s2, .string s3, .string s4, .int .i64 a, .int .i64 b, .slice r n c] 39)).alloc (.cells #[.string s0, .string s1] 32) := by
  go_enter Try.func28, Try.ntmps28
  go_wp2
  exact bodyPost_ret (v := .agg #[.string s0, .string s1]) (by simp [results, Try.results28, go_sem]) rfl ⟨rfl, rfl⟩
theorem ent_subject : Calls Try.prog 29 #[.agg #[.string s0, .string s1, .pointer p, .string s2, .string s3, .string s4, .int .i64 a, .int .i64 b, .slice r n c]] w fun e w' => e = .returned (.agg #[.string s2, .string s3, .string s4]) ∧ w' = (w.alloc (.cells #[.string s0, .string s1, .pointer p, .string s2, .string s3, .string s4, .int .i64 a, .int .i64 b, .slice r n c] 39)).alloc (.cells #[.string s2, .string s3, .string s4] 34) := by
  go_enter Try.func29, Try.ntmps29
  go_wp2
  exact bodyPost_ret (v := .agg #[.string s2, .string s3, .string s4]) (by simp [results, Try.results29, go_sem]) rfl ⟨rfl, rfl⟩
theorem ent_start : Calls Try.prog 30 #[.agg #[.string s0, .string s1, .pointer p, .string s2, .string s3, .string s4, .int .i64 a, .int .i64 b, .slice r n c]] w fun e w' => e = .returned (.int .i64 a) ∧ w' = w.alloc (.cells #[.string s0, .string s1, .pointer p, .string s2, .string s3, .string s4, .int .i64 a, .int .i64 b, .slice r n c] 39) := by
  go_enter Try.func30, Try.ntmps30
  go_wp2
  go_ret
  exact ⟨rfl, rfl⟩
theorem ent_end : Calls Try.prog 31 #[.agg #[.string s0, .string s1, .pointer p, .string s2, .string s3, .string s4, .int .i64 a, .int .i64 b, .slice r n c]] w fun e w' => e = .returned (.int .i64 b) ∧ w' = w.alloc (.cells #[.string s0, .string s1, .pointer p, .string s2, .string s3, .string s4, .int .i64 a, .int .i64 b, .slice r n c] 39) := by
  go_enter Try.func31, Try.ntmps31
  go_wp2
  go_ret
  exact ⟨rfl, rfl⟩
theorem ent_reads : Calls Try.prog 32 #[.agg #[.string s0, .string s1, .pointer p, .string s2, .string s3, .string s4, .int .i64 a, .int .i64 b, .slice r n c]] w fun e w' => e = .returned (.slice r n c) ∧ w' = w.alloc (.cells #[.string s0, .string s1, .pointer p, .string s2, .string s3, .string s4, .int .i64 a, .int .i64 b, .slice r n c] 39) := by
  go_enter Try.func32, Try.ntmps32
  go_wp2
  go_ret
  exact ⟨rfl, rfl⟩
end
theorem read_subjects (r : Option Addr) (n c : Nat) (h : Bool) (w : World) : Calls Try.prog 33 #[.agg #[.slice r n c, .bool h]] w fun e w' => e = .returned (.slice r n c) ∧ w' = w.alloc (.cells #[.slice r n c, .bool h] 74) := by
  go_enter Try.func33, Try.ntmps33
  go_wp2
  go_ret
  exact ⟨rfl, rfl⟩
theorem read_handed (r : Option Addr) (n c : Nat) (h : Bool) (w : World) : Calls Try.prog 34 #[.agg #[.slice r n c, .bool h]] w fun e w' => e = .returned (.bool h) ∧ w' = w.alloc (.cells #[.slice r n c, .bool h] 74) := by
  go_enter Try.func34, Try.ntmps34
  go_wp2
  go_ret
  exact ⟨rfl, rfl⟩

theorem info61 : (Try.prog.info? 61).isSome = true := by kernel_rfl
theorem neq_plan (a : Addr) (w : World) : (binOp .neq 27 (.pointer (some a)) (.pointer (some a))).run Try.prog w = .ok (.bool false) w := by
  obtain ⟨j, hj⟩ := Option.isSome_iff_exists.1 info61
  have h : ∀ d : Nat, (Op.equalIn (d + 1) 27 (.pointer (some a)) (.pointer (some a))).run Try.prog w = .ok true w := fun d => by
    simp [Op.equalIn, run_underlying Try.underlying27, sizeOf, typeInfo, hj, run_sameAddr_same]
  simp only [binOp]
  simp [Op.equal, Op.maxDepth, h 9999]

theorem five_allocs (W : World) (B : Nat) (hB : B ≤ W.heap.size) (a b c d e : Obj) : Below B W (((((W.alloc a).alloc b).alloc c).alloc d).alloc e).drew :=
  ((((((Below.refl _ _).alloc hB _).alloc (by simp; omega) _).alloc (by simp; omega) _).alloc (by simp; omega) _).alloc (by simp; omega) _).drew

/-- The world with the three arguments boxed. -/
def B3 (w : World) (p h m : Nat) (t i0 s0 s1 s2 : ByteArray) (z x : Int) : World :=
  ((w.alloc (.cells #[.string t, .string i0, .pointer (some ⟨p, 0, none⟩), .string s0, .string s1, .string s2, .int .i64 z, .int .i64 x, .slice (some ⟨h, 0, none⟩) m m] 39)).alloc (.cells #[.string t, .string i0] 32)).alloc (.cells #[.string s0, .string s1, .string s2] 34)

set_option maxHeartbeats 1000000 in
set_option maxRecDepth 100000 in
theorem fresh_any (p h m : Nat) (t i0 s0 s1 s2 : ByteArray) (z x : Int) (w : World) (hm : Hid ((m : Int) = x - z)) (hml : m ≤ 65536) (hr : ReadsAt w h m) (hh : h < w.heap.size) :
    Calls Try.prog 13 #[.agg #[.string t, .string i0, .pointer (some ⟨p, 0, none⟩), .string s0, .string s1, .string s2, .int .i64 z, .int .i64 x, .slice (some ⟨h, 0, none⟩) m m], .pointer (some ⟨p, 0, none⟩), .agg #[.string t, .string i0], .agg #[.string s0, .string s1, .string s2], .int .i64 z, .int .i64 x] w
      fun e w' => e = .returned (.bool true) ∧ Below w.heap.size w w' := by
  have HR : Hid (ReadsAt w h m) := hr
  clear hr
  have hpp := neq_plan ⟨p, 0, none⟩
  go_enter Try.func13, Try.ntmps13
  have hb3 : Below w.heap.size w (B3 w p h m t i0 s0 s1 s2 z x) := (((Below.refl _ _).alloc (Nat.le_refl _) _).alloc (by simp) _).alloc (by simp; omega) _
  have hs3 : (B3 w p h m t i0 s0 s1 s2 z x).heap.size = w.heap.size + 3 := by unfold B3; simp
  have H3 : Hid (Below w.heap.size w (B3 w p h m t i0 s0 s1 s2 z x) ∧ (B3 w p h m t i0 s0 s1 s2 z x).heap.size = w.heap.size + 3) := ⟨hb3, hs3⟩
  clear hb3 hs3
  go_upto_region 3 with (go_at_call 27; refine (ent_plan _ _ _ _ _ _ _ _ _ _ _ _).mono ?_; rintro e w' ⟨rfl, rfl⟩)
  clear hpp
  go_cut [28] (fun v wx => v = .bool false ∧ Below (w.heap.size + 3) (B3 w p h m t i0 s0 s1 s2 z x) wx)
  case first =>
    go_region_with (first | (go_at_call 28; refine (ent_entity _ _ _ _ _ _ _ _ _ _ _ _).mono ?_; rintro e w' ⟨rfl, rfl⟩) | (go_at_call 29; refine (ent_subject _ _ _ _ _ _ _ _ _ _ _ _).mono ?_; rintro e w' ⟨rfl, rfl⟩))
    all_goals go_wp2_with fail
    all_goals go_meet
    all_goals exact ⟨rfl, five_allocs (B3 w p h m t i0 s0 s1 s2 z x) _ (Nat.le_of_eq H3.out.2.symm) _ _ _ _ _⟩
  case rest =>
    obtain ⟨rfl, hbc⟩ := hcut
    have c0 : wc.cell? ⟨w.heap.size, 0, none⟩ = some (.string t) := by rw [hbc.cell (p := ⟨w.heap.size, 0, none⟩) (by simp)]; unfold B3; go_simp
    have c1 : wc.cell? ⟨w.heap.size, 1, none⟩ = some (.string i0) := by rw [hbc.cell (p := ⟨w.heap.size, 1, none⟩) (by simp)]; unfold B3; go_simp
    have c2 : wc.cell? ⟨w.heap.size, 2, none⟩ = some (.pointer (some ⟨p, 0, none⟩)) := by rw [hbc.cell (p := ⟨w.heap.size, 2, none⟩) (by simp)]; unfold B3; go_simp
    have c3 : wc.cell? ⟨w.heap.size, 3, none⟩ = some (.string s0) := by rw [hbc.cell (p := ⟨w.heap.size, 3, none⟩) (by simp)]; unfold B3; go_simp
    have c4 : wc.cell? ⟨w.heap.size, 4, none⟩ = some (.string s1) := by rw [hbc.cell (p := ⟨w.heap.size, 4, none⟩) (by simp)]; unfold B3; go_simp
    have c5 : wc.cell? ⟨w.heap.size, 5, none⟩ = some (.string s2) := by rw [hbc.cell (p := ⟨w.heap.size, 5, none⟩) (by simp)]; unfold B3; go_simp
    have c6 : wc.cell? ⟨w.heap.size, 6, none⟩ = some (.int .i64 z) := by rw [hbc.cell (p := ⟨w.heap.size, 6, none⟩) (by simp)]; unfold B3; go_simp
    have c7 : wc.cell? ⟨w.heap.size, 7, none⟩ = some (.int .i64 x) := by rw [hbc.cell (p := ⟨w.heap.size, 7, none⟩) (by simp)]; unfold B3; go_simp
    have c8 : wc.cell? ⟨w.heap.size, 8, none⟩ = some (.slice (some ⟨h, 0, none⟩) m m) := by rw [hbc.cell (p := ⟨w.heap.size, 8, none⟩) (by simp)]; unfold B3; go_simp
    have hbw : Below w.heap.size w wc := H3.out.1.trans (hbc.mono (by omega))
    have hsz : w.heap.size + 3 ≤ wc.heap.size := by have := hbc.size; have := H3.out.2; omega
    have hlt : w.heap.size < wc.heap.size := by omega
    have HB : Hid (Below w.heap.size w wc ∧ ReadsAt wc h m) := ⟨hbw, HR.out.below hbw hh⟩
    clear hbc hbw
    have hsz1 : ((x - z) : Int) = (m : Int) := hm.out.symm
    have hz1 : (z != z) = false := by simp
    have hx1 : (x != x) = false := by simp
    go_wp2_with (first | (go_at_call 30; refine (ent_start _ _ _ _ _ _ _ _ _ _ _ _).mono ?_; rintro e w' ⟨rfl, rfl⟩) | (go_at_call 31; refine (ent_end _ _ _ _ _ _ _ _ _ _ _ _).mono ?_; rintro e w' ⟨rfl, rfl⟩) | (go_at_call 32; refine (ent_reads _ _ _ _ _ _ _ _ _ _ _ _).mono ?_; rintro e w' ⟨rfl, rfl⟩))
    clear c0 c1 c2 c3 c4 c5 c6 c7 c8 hsz1 hz1 hx1
    go_loopw [14] (fun i wr => ∃ k : Nat, k ≤ m ∧ i = .int .i64 k ∧ Below w.heap.size w wr) (fun i _ => m - (intOf i).toNat)
    case atStart => exact ⟨0, Nat.zero_le _, rfl, ((HB.out.1.alloc (by omega) _).alloc (by simp; omega) _).alloc (by simp; omega) _⟩
    case round =>
      obtain ⟨k, hk, rfl, hb⟩ := hrel
      by_cases hlt : k < m
      · obtain ⟨r0, r1⟩ := (HR.out.below hb hh) k hlt
        have hhr : h < wr.heap.size := by have := hb.size; omega
        have HBr : Hid (Below w.heap.size w wr) := hb
        have hwr : w.heap.size ≤ wr.heap.size := hb.size
        clear hb
        go_wp2_with (first | (go_at_call 33; refine (read_subjects _ _ _ _ _).mono ?_; rintro e w' ⟨rfl, rfl⟩) | (go_at_call 34; refine (read_handed _ _ _ _ _).mono ?_; rintro e w' ⟨rfl, rfl⟩))
        go_roundw
        case rel => exact ⟨k + 1, by omega, by go_num, (HBr.out.alloc hwr _).alloc (by simp; omega) _⟩
        case measure => simp [intOf]; omega
      · go_wp2
        go_ret
        exact ⟨rfl, hb⟩
end Go.Proofs.Qxb6612910a
