/-
  math/bits.OnesCount64.
-/
import Derived.Test.YbulkaryaPop
import Derived.Test.YbulkaryaState
import Derived.Laws.Bits64b
import Derived.Laws.BitsLemmas
namespace Go.Proofs.Ybulkarya.script
set_option linter.unusedVariables false
set_option linter.unusedSimpArgs false
open Go.RowKit

theorem wr64 (n : Nat) (h : n < 2 ^ 64) : IntKind.u64.wrap (n : Int) = (n : Int) := by
  rw [IntKind.wrap_u64]; omega

theorem ones_any (x : Nat) (hx : x < 18446744073709551616) (w : World) : Calls Yba.prog 13 #[.int .u64 x] w fun e w' => e = .returned (.int .i64 (pc x 64)) ∧ w' = w := by
  obtain ⟨y, hy⟩ : ∃ y, y = (x / 2 &&& 6148914691236517205) + (x &&& 6148914691236517205) := ⟨_, rfl⟩
  obtain ⟨z, hz⟩ : ∃ z, z = (y / 4 &&& 3689348814741910323) + (y &&& 3689348814741910323) := ⟨_, rfl⟩
  obtain ⟨u, hu⟩ : ∃ u, u = (z / 16 + z) &&& 1085102592571150095 := ⟨_, rfl⟩
  obtain ⟨v, hv⟩ : ∃ v, v = u + u / 256 := ⟨_, rfl⟩
  obtain ⟨s, hs⟩ : ∃ s, s = v + v / 65536 := ⟨_, rfl⟩
  obtain ⟨t, ht⟩ : ∃ t, t = s + s / 4294967296 := ⟨_, rfl⟩
  obtain ⟨h0, by', bz, bzz, bv, bs, bt⟩ := swar x hx y z u v s t hy hz hu hv hs ht
  have a1 : bits .and .u64 ((x : Int) / 2) 6148914691236517205 = ((x / 2 &&& 6148914691236517205 : Nat) : Int) := bits_and_u64_nat (x / 2) 6148914691236517205 (by omega) (by omega)
  have a2 : bits .and .u64 (x : Int) 6148914691236517205 = ((x &&& 6148914691236517205 : Nat) : Int) := bits_and_u64_nat x 6148914691236517205 hx (by omega)
  have w1 : IntKind.u64.wrap (((x / 2 &&& 6148914691236517205 : Nat) : Int) + ((x &&& 6148914691236517205 : Nat) : Int)) = (y : Int) := by
    rw [← Int.natCast_add, ← hy]; exact wr64 y by'
  have a3 : bits .and .u64 ((y : Int) / 4) 3689348814741910323 = ((y / 4 &&& 3689348814741910323 : Nat) : Int) := bits_and_u64_nat (y / 4) 3689348814741910323 (by omega) (by omega)
  have a4 : bits .and .u64 (y : Int) 3689348814741910323 = ((y &&& 3689348814741910323 : Nat) : Int) := bits_and_u64_nat y 3689348814741910323 by' (by omega)
  have w2 : IntKind.u64.wrap (((y / 4 &&& 3689348814741910323 : Nat) : Int) + ((y &&& 3689348814741910323 : Nat) : Int)) = (z : Int) := by
    rw [← Int.natCast_add, ← hz]; exact wr64 z bz
  have w3 : IntKind.u64.wrap ((z : Int) / 16 + (z : Int)) = ((z / 16 + z : Nat) : Int) := by
    have := wr64 (z / 16 + z) bzz
    rw [Int.natCast_add, Int.natCast_ediv] at this
    rw [Int.natCast_add, Int.natCast_ediv]
    exact this
  have a5 : bits .and .u64 ((z : Int) / 16 + (z : Int)) 1085102592571150095 = (u : Int) := by
    rw [show (z : Int) / 16 + (z : Int) = ((z / 16 + z : Nat) : Int) from by rw [Int.natCast_add, Int.natCast_ediv]; rfl, hu]; exact bits_and_u64_nat (z / 16 + z) 1085102592571150095 bzz (by omega)
  have w4 : IntKind.u64.wrap ((u : Int) + (u : Int) / 256) = (v : Int) := by
    have := wr64 v bv
    rw [hv, Int.natCast_add, Int.natCast_ediv] at this
    rw [hv, Int.natCast_add, Int.natCast_ediv]
    exact this
  have w5 : IntKind.u64.wrap ((v : Int) + (v : Int) / 65536) = (s : Int) := by
    have := wr64 s bs
    rw [hs, Int.natCast_add, Int.natCast_ediv] at this
    rw [hs, Int.natCast_add, Int.natCast_ediv]
    exact this
  have w6 : IntKind.u64.wrap ((s : Int) + (s : Int) / 4294967296) = (t : Int) := by
    have := wr64 t (by omega)
    rw [ht, Int.natCast_add, Int.natCast_ediv] at this
    rw [ht, Int.natCast_add, Int.natCast_ediv]
    exact this
  have w7 : IntKind.i64.wrap (t : Int) = (t : Int) := by rw [IntKind.wrap_i64]; omega
  have a6 : bits .and .i64 (t : Int) 127 = ((pc x 64 : Nat) : Int) := by
    have := bits_mask .i64 63 (by decide) (fun n h0 h1 => by rw [IntKind.wrap_i64]; omega) 7 (by omega) (t : Int) (by omega) (by omega)
    rw [← h0]
    exact this
  clear hy hz hu hv hs ht h0
  go_enter Yba.func13, Yba.ntmps13
  go_wp2
  go_ret
  exact ⟨rfl, rfl⟩
end Go.Proofs.Ybulkarya.script
