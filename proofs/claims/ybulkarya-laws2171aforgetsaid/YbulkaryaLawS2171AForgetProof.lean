/-
  The proof of 'Rows.LawS2171AForgetSaid': the frame after the kit's own for a law over slices of integers, turned to bools; the walk lies in its own texts.
-/
import Derived.Test.YbulkaryaRows
import Derived.Test.YbulkaryaLawWalk
import Derived.Test.YbulkaryaLawEdges
import Derived.Deep.Grids
import Derived.WalkKit
import Derived.ProofKit
import Derived.OpenShut
import Derived.ShutString
import Derived.ChangeOld
import Derived.Below
namespace Go.Proofs.Ybulkarya.lawS2171AForget
open Go.ChangeShapes Go.WideShapes Go.ChangeAt Go.RowKit
set_option linter.unusedVariables false

theorem own : ownKnob Yba.prog.godebug = none := by kernel_rfl
theorem laidOut : laidOutB Yba.prog = true := by kernel_rfl

/-- The walk is told of the slice of bools that came in: nil; or a row of 'cap' cells, the first 'len' its elements. -/
def IsRow (w : World) (a : Option Addr) (len cap : Nat) (B : Nat → Bool) : Prop :=
  (a = none ∧ len = 0 ∧ cap = 0) ∨ ∃ x, a = some x ∧ len ≤ cap ∧ ∀ i, i < cap → w.cell? (x.add i) = some (.bool (B i))

theorem walk (a0 : Option Addr) (len cap : Nat) (B : Nat → Bool) (x : Int) (b : Bool) (w : World) (h0 : IsRow w a0 len cap B) (h1 : (Lit.int .u64 x).wf = true) :
    Calls Yba.prog 3 #[.slice a0 len cap, .int .u64 x, .bool b] w fun e w' => e = .returned (.bool true) ∧ Below w.heap.size w w' := by
  rcases Nat.eq_zero_or_pos len with rfl | hpos
  · exact forget.law_zero a0 cap x b w
  · rcases Nat.lt_or_ge 1024 len with hl | hl
    · exact forget.law_long a0 len cap x b w hl
    · rcases h0 with ⟨_, rfl, _⟩ | ⟨y, rfl, hc, hcell⟩
      · omega
      · obtain ⟨bk, o, sp⟩ := y
        have hsp : sp = none := by simpa [Addr.add] using World.cell?_spot (hcell 0 (by omega))
        subst hsp
        have hc' : ∀ i, i < len → w.cell? ⟨bk, o + i, none⟩ = some (.bool (B i)) := fun i hi => by
          have := hcell i (by omega)
          rwa [Addr.add_lit] at this
        have hk := bounds_u64 h1
        obtain ⟨n, rfl⟩ : ∃ n : Nat, x = (n : Int) := ⟨x.toNat, by omega⟩
        exact forget.law_walk len cap bk o B n b w hl hpos (World.block_lt_of_cell? w ⟨bk, o + 0, none⟩ (hc' 0 hpos)) hc' (by omega)

set_option maxRecDepth 100000 in
theorem lifted (os : Os) (started : os.Started) (H : Type) (enc : TypeId × Value → H) :
    ReturnsInHanded {} Yba.checked os 3 .any (Rows.lawS2171AForgetSpec.pre6 enc Yba.prog Yba.f3 Rows.lawS2171AForgetRow.domain false) (Rows.lawS2171AForgetSpec.post enc Yba.prog Yba.f3 false true false false) := by
  refine returnsInHanded_of_change (C := Yba.checked) own started (by kernel_rfl) Yba.func3
    (ChangeSpec.witness6 (enc := enc) (C := Yba.checked) false ⟨#[], #[.slice none 0 0, .int .u64 0, .bool false], []⟩ 8 (by kernel_rfl) (by kernel_rfl) (by kernel_rfl) (by kernel_rfl)) ?_
  intro W base args ds gs before hval0 hW hcnd _
  have hval : ∀ (j : Nat) t v, Yba.f3.params[j]? = some t → args[j]? = some v → Value.okWide Yba.prog W .any base t v := hval0
  have hW' := hW
  obtain ⟨p, q, hA0, hV, rfl, hfz, hnd⟩ := hW
  have hA : DataW.TrodAll enc Yba.prog W 0 (fun _ => true) true Yba.f3.params.toList args.toList ds p := hA0
  rw [Yba.params3] at hA hval
  obtain ⟨v0, vs0, d0, ds0, p0, q0, hargs, rfl, rfl, h0, r0⟩ := trodAll_cons hA
  obtain ⟨v1, vs1, d1, ds1, p1, q1, rfl, rfl, rfl, h1, r1⟩ := trodAll_cons r0
  obtain ⟨v2, vs2, d2, ds2, p2, q2, rfl, rfl, rfl, h2, r2⟩ := trodAll_cons r1
  obtain ⟨rfl, rfl, rfl⟩ := trodAll_nil r2
  obtain rfl : args = #[v0, v1, v2] := by cases args; simp_all
  obtain ⟨rfl, rfl⟩ := trodVars_none hV
  obtain ⟨a0, len0, cap0, rfl⟩ := okWide_slice Yba.underlying22 (hval 0 22 v0 rfl rfl)
  have k0 := h0
  have lt0 : ∀ x ∈ p0, x.block < W.heap.size := by obtain ⟨m, hm⟩ := k0; exact DataW.trod_lt m _ _ _ hm
  obtain ⟨B, w0⟩ : ∃ B, IsRow W a0 len0 cap0 B := by
    obtain ⟨fuel, hf⟩ := h0
    rcases Go.Deep.open_bools Yba.underlying22 Yba.underlying4 (by kernel_rfl) hf with ⟨hcs, _⟩ | ⟨x, l, c, B, hcs, _, hl, hm, _, hcell⟩
    · simp [Value.cells] at hcs
      obtain ⟨rfl, rfl, rfl⟩ := hcs
      exact ⟨fun _ => false, .inl ⟨rfl, rfl, rfl⟩⟩
    · simp [Value.cells] at hcs
      obtain ⟨rfl, rfl, rfl⟩ := hcs
      exact ⟨B, .inr ⟨_, rfl, hl, hcell⟩⟩
  obtain ⟨a1, rfl, rfl, rfl, w1⟩ := open_int Yba.underlying23 (hval 1 23 v1 rfl rfl) h1
  obtain ⟨a2, rfl, rfl, rfl⟩ := open_bool Yba.underlying4 (hval 2 4 v2 rfl rfl) h2
  clear hA0 hval0
  refine (walk a0 len0 cap0 B a1 a2 W w0 w1).mono fun e W' ⟨he, bel⟩ => ?_
  subst he
  exact ⟨_, rfl, _, _, _, [], _, [], hW', trodAll_mk1 (shut_bool Yba.underlying4 _), (trodAll_cons_mk (Below.trod laidOut (by kernel_rfl) (of_decide_eq_true (by kernel_rfl)) k0 bel lt0) (trodAll_cons_mk (shut_int Yba.underlying23 w1) (trodAll_cons_mk (shut_bool Yba.underlying4 _) trodAll_mk0))), rfl, bel.frame _, fun h => by cases h⟩

theorem over : Rows.lawS2171AForgetRow.holds Yba.pinned (OpenSpec.ofChange Rows.lawS2171AForgetSpec) :=
  OpenClaim.holds_of_wide 3 Yba.f3 rfl rfl rfl rfl rfl rfl rfl ⟨rfl, rfl, rfl, rfl, rfl⟩ rfl rfl rfl rfl rfl (by kernel_rfl) Yba.func3 (by kernel_rfl)
    (of_decide_eq_true (by kernel_rfl)) (by unfold Func.isWrapper; first | (rw [if_pos (by decide +kernel)]; kernel_rfl) | (rw [if_neg (by decide +kernel)]; exact ⟨rfl, rfl⟩))
    (fun os started H enc _ => lifted os started H enc)

/-- ████ THE STATEMENT ████ -/
theorem proved : Rows.LawS2171AForgetSaid := over
#print axioms proved
end Go.Proofs.Ybulkarya.lawS2171AForget
