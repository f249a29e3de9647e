/-
  The proof of 'Rows.LawS2171CScriptSaid': the frame after the kit's own for a law over slices of integers, turned to a slice of three-cell structs; the walk lies in its own texts.
-/
import Derived.Test.YbulkaryaRows
import Derived.Test.YbulkaryaScriptWalk
import Derived.Test.YbulkaryaScriptLong
import Derived.Deep.Strs
import Derived.WalkKit
import Derived.ProofKit
import Derived.OpenShut
import Derived.ShutString
import Derived.ChangeOld
import Derived.Below
namespace Go.Proofs.Ybulkarya.lawS2171CScript
open Go.ChangeShapes Go.WideShapes Go.ChangeAt Go.RowKit
set_option linter.unusedVariables false

theorem own : ownKnob Yba.prog.godebug = none := by kernel_rfl
theorem laidOut : laidOutB Yba.prog = true := by kernel_rfl

theorem cells60 : Yba.prog.cellsOf 60 = 3 := by kernel_rfl
theorem cells5 : Yba.prog.cellsOf 5 = 1 := by kernel_rfl
theorem cells3 : Yba.prog.cellsOf 3 = 1 := by kernel_rfl

/-- The walk is told of the slice of steps that came in: nil; or a row, the first 'len' elements each of three cells. -/
def IsRow (w : World) (a : Option Addr) (len : Nat) (op qq : Nat → Nat) (vv : Nat → Int) : Prop :=
  (a = none ∧ len = 0) ∨ ∃ x : Addr, a = some x ∧ ∀ i, i < len → w.cell? (x.add (i * 3)) = some (.int .u8 (op i)) ∧ w.cell? (x.add (i * 3 + 1)) = some (.int .u8 (qq i)) ∧ w.cell? (x.add (i * 3 + 2)) = some (.int .i64 (vv i)) ∧ op i ≤ 255 ∧ qq i ≤ 255

theorem three {α : Type} {l : List α} (h : l.length = 3) : ∃ a b c, l = [a, b, c] := by
  match l, h with
  | [a, b, c], _ => exact ⟨a, b, c, rfl⟩

theorem open_steps {H : Type} {enc : TypeId × Value → H} {w : World} {base fuel : Nat} {held : Bool} {a : Option Addr} {len cap : Nat} {x : DataW H × List MemPlace}
    (h : DataW.trod enc Yba.prog w base (fun _ => true) held fuel 54 [.slice a len cap] = some x) : ∃ op qq vv, IsRow w a len op qq vv := by
  rcases Go.Deep.open_slice Yba.underlying54 h with ⟨hcs, _⟩ | ⟨x, l, c, m, n, D, Pl, hcs, _, hl, hm, hmm, _, hx⟩
  · simp at hcs
    obtain ⟨rfl, rfl, rfl⟩ := hcs
    exact ⟨fun _ => 0, fun _ => 0, fun _ => 0, .inl ⟨rfl, rfl⟩⟩
  · simp at hcs
    obtain ⟨rfl, rfl, rfl⟩ := hcs
    simp only [if_true] at hmm
    subst hmm
    have each : ∀ i, i < len → ∃ q : Nat × Nat × Int, w.cell? (x.add (i * 3)) = some (.int .u8 q.1) ∧ w.cell? (x.add (i * 3 + 1)) = some (.int .u8 q.2.1) ∧ w.cell? (x.add (i * 3 + 2)) = some (.int .i64 q.2.2) ∧ q.1 ≤ 255 ∧ q.2.1 ≤ 255 := by
      intro i hi
      obtain ⟨cs', h1, h2⟩ := hx i (by omega)
      rw [cells60] at h1
      obtain ⟨_, hlen, hcell⟩ := World.cells?_some h1
      obtain ⟨y0, y1, y2, k, _, _, g0, g1, g2⟩ := Go.Deep.trod_struct3 Yba.underlying60 h2
      obtain ⟨v0, v1, v2, rfl⟩ := three hlen
      simp [cells5, cells3] at g0 g1 g2
      obtain ⟨n0, e0, _, b0⟩ := DataW.trod_int Yba.underlying5 g0
      obtain ⟨n1, e1, _, b1⟩ := DataW.trod_int Yba.underlying5 g1
      obtain ⟨n2, e2, _, _⟩ := DataW.trod_int Yba.underlying3 g2
      obtain rfl : v0 = .int .u8 n0 := by simpa using e0
      obtain rfl : v1 = .int .u8 n1 := by simpa using e1
      obtain rfl : v2 = .int .i64 n2 := by simpa using e2
      have c0 := hcell 0 (by omega)
      have c1 := hcell 1 (by omega)
      have c2 := hcell 2 (by omega)
      rw [Go.Deep.add_add] at c0 c1 c2
      have z0 := bounds_u8 b0
      have z1 := bounds_u8 b1
      obtain ⟨m0, rfl⟩ : ∃ m : Nat, n0 = (m : Int) := ⟨n0.toNat, by omega⟩
      obtain ⟨m1, rfl⟩ : ∃ m : Nat, n1 = (m : Int) := ⟨n1.toNat, by omega⟩
      exact ⟨(m0, m1, n2), by simpa using c0, by simpa using c1, by simpa using c2, by show m0 ≤ 255; omega, by show m1 ≤ 255; omega⟩
    obtain ⟨q, hq⟩ := Go.Deep.choose_lt each
    exact ⟨fun i => (q i).1, fun i => (q i).2.1, fun i => (q i).2.2, .inr ⟨_, rfl, hq⟩⟩

theorem walk (a0 : Option Addr) (len cap : Nat) (op qq : Nat → Nat) (vv : Nat → Int) (w : World) (h0 : IsRow w a0 len op qq vv) :
    Calls Yba.prog 4 #[.slice a0 len cap] w fun e w' => e = .returned (.bool true) ∧ Below w.heap.size w w' := by
  rcases Nat.lt_or_ge 1024 len with hl | hl
  · exact script.law_long a0 len cap w hl
  · rcases h0 with ⟨rfl, rfl⟩ | ⟨y, rfl, hcell⟩
    · exact script.law_walk none 0 cap 0 0 op qq vv w hl (fun h => by omega) (fun i h => by omega) (fun i h => by omega) (fun i h => by omega)
    · obtain ⟨bk, o, sp⟩ := y
      rcases Nat.eq_zero_or_pos len with rfl | hpos
      · exact script.law_walk _ 0 cap 0 0 op qq vv w hl (fun h => by omega) (fun i h => by omega) (fun i h => by omega) (fun i h => by omega)
      · have hsp : sp = none := by simpa [Addr.add] using World.cell?_spot (hcell 0 hpos).1
        subst hsp
        have hc : ∀ i, i < len → w.cell? ⟨bk, o + i * 3, none⟩ = some (.int .u8 (op i)) ∧ w.cell? ⟨bk, o + i * 3 + 1, none⟩ = some (.int .u8 (qq i)) ∧ w.cell? ⟨bk, o + i * 3 + 2, none⟩ = some (.int .i64 (vv i)) := fun i hi => by
          obtain ⟨c0, c1, c2, _, _⟩ := hcell i hi
          rw [Addr.add_lit] at c0 c1 c2
          exact ⟨c0, c1, c2⟩
        exact script.law_walk _ len cap bk o op qq vv w hl (fun _ => ⟨rfl, World.block_lt_of_cell? w ⟨bk, o + 0 * 3, none⟩ (hc 0 hpos).1⟩) hc (fun i hi => (hcell i hi).2.2.2.1) (fun i hi => (hcell i hi).2.2.2.2)

set_option maxRecDepth 100000 in
theorem lifted (os : Os) (started : os.Started) (H : Type) (enc : TypeId × Value → H) :
    ReturnsInHanded {} Yba.checked os 4 .any (Rows.lawS2171CScriptSpec.pre6 enc Yba.prog Yba.f4 Rows.lawS2171CScriptRow.domain false) (Rows.lawS2171CScriptSpec.post enc Yba.prog Yba.f4 false true false false) := by
  refine returnsInHanded_of_change (C := Yba.checked) own started (by kernel_rfl) Yba.func4
    (ChangeSpec.witness6 (enc := enc) (C := Yba.checked) false ⟨#[], #[.slice none 0 0], []⟩ 8 (by kernel_rfl) (by kernel_rfl) (by kernel_rfl) (by kernel_rfl)) ?_
  intro W base args ds gs before hval0 hW hcnd _
  have hval : ∀ (j : Nat) t v, Yba.f4.params[j]? = some t → args[j]? = some v → Value.okWide Yba.prog W .any base t v := hval0
  have hW' := hW
  obtain ⟨p, q, hA0, hV, rfl, hfz, hnd⟩ := hW
  have hA : DataW.TrodAll enc Yba.prog W 0 (fun _ => true) true Yba.f4.params.toList args.toList ds p := hA0
  rw [Yba.params4] at hA hval
  obtain ⟨v0, vs0, d0, ds0, p0, q0, hargs, rfl, rfl, h0, r0⟩ := trodAll_cons hA
  obtain ⟨rfl, rfl, rfl⟩ := trodAll_nil r0
  obtain rfl : args = #[v0] := by cases args; simp_all
  obtain ⟨rfl, rfl⟩ := trodVars_none hV
  obtain ⟨a0, len0, cap0, rfl⟩ := okWide_slice Yba.underlying54 (hval 0 54 v0 rfl rfl)
  have k0 := h0
  have lt0 : ∀ x ∈ p0, x.block < W.heap.size := by obtain ⟨m, hm⟩ := k0; exact DataW.trod_lt m _ _ _ hm
  obtain ⟨op, qq, vv, w0⟩ : ∃ op qq vv, IsRow W a0 len0 op qq vv := by
    obtain ⟨fuel, hf⟩ := h0
    exact open_steps hf
  clear hA0 hval0
  refine (walk a0 len0 cap0 op qq vv W w0).mono fun e W' ⟨he, bel⟩ => ?_
  subst he
  exact ⟨_, rfl, _, _, _, [], _, [], hW', trodAll_mk1 (shut_bool Yba.underlying4 _), (trodAll_cons_mk (Below.trod laidOut (by kernel_rfl) (of_decide_eq_true (by kernel_rfl)) k0 bel lt0) trodAll_mk0), rfl, bel.frame _, fun h => by cases h⟩

theorem over : Rows.lawS2171CScriptRow.holds Yba.pinned (OpenSpec.ofChange Rows.lawS2171CScriptSpec) :=
  OpenClaim.holds_of_wide 4 Yba.f4 rfl rfl rfl rfl rfl rfl rfl ⟨rfl, rfl, rfl, rfl, rfl⟩ rfl rfl rfl rfl rfl (by kernel_rfl) Yba.func4 (by kernel_rfl)
    (of_decide_eq_true (by kernel_rfl)) (by unfold Func.isWrapper; first | (rw [if_pos (by decide +kernel)]; kernel_rfl) | (rw [if_neg (by decide +kernel)]; exact ⟨rfl, rfl⟩))
    (fun os started H enc _ => lifted os started H enc)

/-- ████ THE STATEMENT ████ -/
theorem proved : Rows.LawS2171CScriptSaid := over
#print axioms proved
end Go.Proofs.Ybulkarya.lawS2171CScript
