/-
  zzb1UpperFirst: its contract at a string that begins with a lower-case ASCII letter.
-/
import Derived.Test.Qxb6612848aDoorLook
import Derived.Laws.IdiomStrings
import Derived.Lib.ConvBytes
namespace Go.Proofs.Qxb6612848aDoor
open Go.ChangeShapes Go.WideShapes Go.ChangeAt Go.WideMaps Go.WideElems Go.RowKit

theorem upper_walk (s r : ByteArray) (c : Int) (cap n : Nat) (w W1 : World) (hs0 : (0 : Int) < (s.size : Int))
    (hconv : (convert 9 30 (.string s)).run Tryd.prog w = .ok (.slice (some ⟨n, 0, none⟩) s.size cap) W1)
    (hc0 : W1.cell? ⟨n, 0, none⟩ = some (.int .u8 c)) (h1 : 97 ≤ c) (h2 : c ≤ 122) (hz0 : W1.frozen? ⟨n, 0, none⟩ = false)
    (hback : (convert 30 9 (.slice (some ⟨n, 0, none⟩) s.size cap)).run Tryd.prog (W1.setCell ⟨n, 0, none⟩ (.int .u8 (c - 97 + 65))) = .ok (.string r) (W1.setCell ⟨n, 0, none⟩ (.int .u8 (c - 97 + 65)))) :
    Calls Tryd.prog 9 #[.string s] w fun e w' => e = .returned (.string r) ∧ w' = W1.setCell ⟨n, 0, none⟩ (.int .u8 (c - 97 + 65)) := by
  have hs1 : ((s.size : Int) == 0) = false := by rw [beq_eq_false_iff_ne]; omega
  go_enter Tryd.func9, Tryd.ntmps9
  go_wp2
  go_ret
  exact ⟨rfl, rfl⟩

theorem world_below (w : World) (e : TypeId) (s : ByteArray) : Below w.heap.size w (Lib.bytesWorld w e s) :=
  ⟨rfl, rfl, rfl, by rw [Lib.bytesWorld_size]; omega, fun k hk => Lib.bytesWorld_at_old w e s k hk⟩

theorem upper_any (c : UInt8) (tl : List UInt8) (h1 : 97 ≤ c.toNat) (h2 : c.toNat ≤ 122) (w : World) :
    Calls Tryd.prog 9 #[.string ⟨(c :: tl).toArray⟩] w fun e w' => e = .returned (.string ⟨(UInt8.ofNat (c.toNat - 32) :: tl).toArray⟩) ∧ Below w.heap.size w w' := by
  have hsz : (ByteArray.mk (c :: tl).toArray).size = (c :: tl).length := rfl
  have hcell := Lib.bytesWorld_cell w 5 ⟨(c :: tl).toArray⟩
  have hnew := Lib.bytesWorld_at_new w 5 ⟨(c :: tl).toArray⟩
  have hc0 : (Lib.bytesWorld w 5 ⟨(c :: tl).toArray⟩).cell? ⟨w.heap.size, 0, none⟩ = some (.int .u8 (c.toNat : Int)) := by
    have := hcell 0 (by rw [hsz]; simp)
    simpa using this
  refine (upper_walk _ ⟨(UInt8.ofNat (c.toNat - 32) :: tl).toArray⟩ (c.toNat : Int) _ w.heap.size w _ (by rw [hsz]; simp)
    (Lib.run_convert_string_bytes w 9 30 5 _ Tryd.underlying9 Tryd.underlying30 Tryd.underlying5) hc0 (by omega) (by omega) ?_ ?_).mono ?_
  · unfold World.frozen?
    rw [hnew]
    simp [Lib.bytesCells]
  · rw [hsz]
    refine run_convert_bytes_back _ 30 9 5 ⟨w.heap.size, 0, none⟩ _ (UInt8.ofNat (c.toNat - 32) :: tl) Tryd.underlying30 Tryd.underlying5 Tryd.underlying9 ?_
    intro j hj
    cases j with
    | zero =>
      rw [show (Addr.add ⟨w.heap.size, 0, none⟩ 0) = ⟨w.heap.size, 0, none⟩ from rfl, World.cell?_setCell_same _ _ _ hc0]
      have : (UInt8.ofNat (c.toNat - 32)).toNat = c.toNat - 32 := by
        rw [UInt8.toNat_ofNat']; omega
      simp only [List.getElem_cons_zero, this]
      congr 2
      omega
    | succ j =>
      have hj' : j < tl.length := by simpa using hj
      rw [World.cell?_setCell_other _ _ _ _ (by intro h; have := congrArg Addr.off h; simp [Addr.add] at this)]
      have := hcell (j + 1) (by rw [hsz]; simp; omega)
      simpa [Addr.add, List.getElem?_eq_getElem hj'] using this
  · rintro e w' ⟨rfl, rfl⟩
    exact ⟨rfl, (world_below w 5 _).setCell (Nat.le_refl _) _⟩
end Go.Proofs.Qxb6612848aDoor
