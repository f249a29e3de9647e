/-
  The walk of 'LawS2171CScript'.
-/
import Derived.Test.YbulkaryaStep
namespace Go.Proofs.Ybulkarya.script
set_option linter.unusedVariables false
set_option linter.unusedSimpArgs false
open Go.RowKit Go.Proofs.Ybulkarya.forget

theorem BMg.same {w w' : World} {BB LB g : Nat} {H : Nat → Bool} {V : Nat → Int} (h : BMg w BB LB H V g) (e1 : w'.heap[BB]? = w.heap[BB]?) (e2 : w'.heap[g]? = w.heap[g]?) : BMg w' BB LB H V g := by
  obtain ⟨cap, f, h1, h2, h3, h4, h5, h6, h7⟩ := h
  exact ⟨cap, f, e1.trans h1, h2, h3, h4, h5.same e2, h6, h7⟩

/-- The model's two arrays are told. -/
theorem St.arrays {w wr w' : World} {BB HV VV q : Nat} {H : Nat → Bool} {V : Nat → Int} (st : St w wr BB HV VV H V) (o1 : w.heap.size ≤ BB) (o2 : BB < HV) (o3 : HV < VV) (hf : Fr wr w' BB VV) (b : Bool) (x : Int) :
    Rw ((w'.setCell ⟨HV, q, none⟩ (.bool b)).setCell ⟨VV, q, none⟩ (.int .i64 x)) HV 57 64 (fun i => .bool (up H q b i)) ∧ Rw ((w'.setCell ⟨HV, q, none⟩ (.bool b)).setCell ⟨VV, q, none⟩ (.int .i64 x)) VV 58 64 (fun i => .int .i64 (up V q x i)) ∧ Below w.heap.size w ((w'.setCell ⟨HV, q, none⟩ (.bool b)).setCell ⟨VV, q, none⟩ (.int .i64 x)) ∧
    (∃ y, w'.cell? ⟨HV, q, none⟩ = y) := by
  have h1 : Rw w' HV 57 64 _ := st.hh.same (hf.block HV (by omega) (by omega))
  have h2 : Rw w' VV 58 64 _ := st.vv.same (hf.block VV (by omega) (by omega))
  have bs := st.bel.size
  have bel' : Below w.heap.size w w' := st.bel.trans ⟨hf.os, hf.tape, hf.output, hf.size, fun k hk => hf.block k (by omega) (by omega)⟩
  refine ⟨((h1.set q (.bool b)).other (by omega) _).congr (fun i _ => ?_), ((h2.other (by omega) _).set q (.int .i64 x)).congr (fun i _ => ?_), (bel'.setCell (by show _ ≤ HV; omega) _).setCell (by show _ ≤ VV; omega) _, _, rfl⟩
  · by_cases e : i = q
    · subst e; rw [upd_same, up_same]
    · rw [upd_other _ _ _ _ e, up_other _ _ _ _ e]
  · by_cases e : i = q
    · subst e; rw [upd_same, up_same]
    · rw [upd_other _ _ _ _ e, up_other _ _ _ _ e]

theorem St.alloc {w wr : World} {BB HV VV : Nat} {H : Nat → Bool} {V : Nat → Int} (st : St w wr BB HV VV H V) (o1 : w.heap.size ≤ BB) (o2 : BB < HV) (o3 : HV < VV) (hs : VV < wr.heap.size) (o : Obj) : St w (wr.alloc o) BB HV VV H V :=
  ⟨st.bm.same (by omega) (Below.heap_alloc _ _ _ (by omega)) (fun b _ hb => Below.heap_alloc _ _ _ hb), st.hh.alloc o, st.vv.alloc o, st.bel.alloc (by omega) o⟩
theorem St.drewN {w wr : World} {BB HV VV : Nat} {H : Nat → Bool} {V : Nat → Int} (st : St w wr BB HV VV H V) (m : Nat) : St w (wr.drewN m) BB HV VV H V :=
  ⟨st.bm.drewN m, st.hh.same rfl, st.vv.same rfl, ⟨st.bel.os, st.bel.tape, st.bel.output, st.bel.size, st.bel.block⟩⟩
/-- Behind Delete or Ref, and the model told. -/
theorem St.told {w wr w' : World} {BB HV VV q : Nat} {H : Nat → Bool} {V : Nat → Int} (st : St w wr BB HV VV H V) (o1 : w.heap.size ≤ BB) (o2 : BB < HV) (o3 : HV < VV) (hf : Fr wr w' BB VV) (b : Bool) (x : Int) (bm : BM w' BB VV (up H q b) (up V q x)) :
    St w ((w'.setCell ⟨HV, q, none⟩ (.bool b)).setCell ⟨VV, q, none⟩ (.int .i64 x)) BB HV VV (up H q b) (up V q x) := by
  obtain ⟨h1, h2, h3, _⟩ := st.arrays (q := q) o1 o2 o3 hf b x
  refine ⟨bm.same (by omega) ?_ (fun k hk _ => ?_), h1, h2, h3⟩
  · rw [Below.heap_setCell _ _ _ _ (by show BB ≠ VV; omega), Below.heap_setCell _ _ _ _ (by show BB ≠ HV; omega)]
  · rw [Below.heap_setCell _ _ _ _ (by show k ≠ VV; omega), Below.heap_setCell _ _ _ _ (by show k ≠ HV; omega)]
theorem St.mem {w wr w' : World} {BB HV VV q : Nat} {H : Nat → Bool} {V : Nat → Int} (st : St w wr BB HV VV H V) (o2 : BB < HV) (o3 : HV < VV) (hq : q < 64) (hf : Fr wr w' BB VV) :
    w'.cell? ⟨HV, q, none⟩ = some (.bool (H q)) ∧ w'.frozen? ⟨HV, q, none⟩ = false ∧ w'.cell? ⟨VV, q, none⟩ = some (.int .i64 (V q)) ∧ w'.frozen? ⟨VV, q, none⟩ = false := by
  have h1 : Rw w' HV 57 64 _ := st.hh.same (hf.block HV (by omega) (by omega))
  have h2 : Rw w' VV 58 64 _ := st.vv.same (hf.block VV (by omega) (by omega))
  exact ⟨h1.cell hq, h1.free _, h2.cell hq, h2.free _⟩

theorem cell_kept {w w' : World} {b i : Nat} (h : w'.heap[b]? = w.heap[b]?) : w'.cell? ⟨b, i, none⟩ = w.cell? ⟨b, i, none⟩ := by simp [World.cell?, h]
/-- '*p = v; val[q] = v'. -/
theorem St.write {w wr : World} {BB HV VV q g : Nat} {H : Nat → Bool} {V : Nat → Int} (st : St w wr BB HV VV H V) (o1 : w.heap.size ≤ BB) (o2 : BB < HV) (o3 : HV < VV) (bg : BMg wr BB VV H V g) (hq : q < 64) (hH : H q = true) (v : Int) :
    St w ((wr.setCell ⟨g, cn H q, none⟩ (.int .i64 v)).setCell ⟨VV, q, none⟩ (.int .i64 v)) BB HV VV H (up V q v) := by
  have hg := (bg.at hq hH).2.2
  have bs := st.bel.size
  refine ⟨(bg.write (by omega) hq hH v).bm.same (by omega) (Below.heap_setCell _ _ _ _ (by show BB ≠ VV; omega)) (fun k hk _ => Below.heap_setCell _ _ _ _ (by show k ≠ VV; omega)), (st.hh.other (by omega) _).other (by omega) _, ((st.vv.other (by omega) _).set q _).congr (fun i _ => ?_), (st.bel.setCell (by show _ ≤ g; omega) _).setCell (by show _ ≤ VV; omega) _⟩
  by_cases e : i = q
  · subst e; rw [upd_same, up_same]
  · rw [upd_other _ _ _ _ e, up_other _ _ _ _ e]
/-- No row of the values lies at a new block. -/
theorem BM.fresh {w : World} {BB LB : Nat} {H : Nat → Bool} {V : Nat → Int} (h : BM w BB LB H V) (hl : BB < w.heap.size) (o : Obj) : ∀ v, (w.alloc o).cell? ⟨BB, 1, none⟩ = some v → v.ownBlock ≠ some w.heap.size := by
  obtain ⟨v0, F, h1, h2, h3⟩ := h
  intro v hv
  rw [cell_of_row _ _ _ _ _ _ ((Below.heap_alloc w o BB hl).trans h1)] at hv
  have e : v0 = v := by simpa using hv
  subst e
  rcases h2 with ⟨rfl, _⟩ | ⟨g, cap, f, rfl, _, _, _, a4, _⟩
  · simp [Value.ownBlock]
  · have := a4.lt
    simp [Value.ownBlock]
    omega

/-- 'var x [n]T': the block under a letter. -/
theorem wpList_alloc_letter (w : World) {ops : Array Oper} {rest : List Oper} {o : Oper} {a : Act} {Q : Exit → Act → World → Prop} (hg : o.guard = none) (t : TypeId) (hop : o.op = Op.alloc t)
    (cs : Array Value) (hrun : (Instr.alloc t true (.tuple #[])).run Yba.prog w = .ok (.pointer (some ⟨w.heap.size, 0, none⟩)) (w.alloc (.cells cs t)))
    (hK : ∀ w', Hid (w' = w.alloc (.cells cs t)) → wpList Yba.prog ops Q rest (a.put o.dst (.pointer (some ⟨w.heap.size, 0, none⟩))) w') :
    wpList Yba.prog ops Q (o :: rest) a w := by
  refine wpList_plain hg fun K' hK' => ?_
  unfold Oper.wp
  simp [execOp, hop, hrun, Result.andThen]
  exact hK' _ _ (hK _ rfl)
def zeros : Array Value := Array.replicate 64 (.int .i64 0)
def falses : Array Value := Array.replicate 64 (.bool false)
theorem alloc57 (w : World) : (Instr.alloc 57 true (.tuple #[])).run Yba.prog w = .ok (.pointer (some ⟨w.heap.size, 0, none⟩)) (w.alloc (.cells falses 57)) := by kernel_rfl
theorem alloc58 (w : World) : (Instr.alloc 58 true (.tuple #[])).run Yba.prog w = .ok (.pointer (some ⟨w.heap.size, 0, none⟩)) (w.alloc (.cells zeros 58)) := by kernel_rfl
theorem alloc56 (w : World) : (Instr.alloc 56 true (.tuple #[])).run Yba.prog w = .ok (.pointer (some ⟨w.heap.size, 0, none⟩)) (w.alloc (.cells #[.int .u64 0, .slice none 0 0] 56)) := by kernel_rfl
theorem mask_zero : ∀ n, mask (fun _ => false) n = 0
  | 0 => rfl
  | n + 1 => by show mask (fun _ => false) n ||| 0 = 0; rw [mask_zero n]; rfl
theorem cn_zero : ∀ n, cn (fun _ => false) n = 0
  | 0 => rfl
  | n + 1 => by rw [cn_succ, cn_zero n]; rfl

/-- The three variables, new. -/
theorem St.start (w : World) : ∀ w1 w2 w3, w1 = w.alloc (.cells #[.int .u64 0, .slice none 0 0] 56) → w2 = w1.alloc (.cells falses 57) → w3 = w2.alloc (.cells zeros 58) →
    St w w3 w.heap.size (w.heap.size + 1) (w.heap.size + 1 + 1) (fun _ => false) (fun _ => 0) ∧ w3.heap.size = w.heap.size + 1 + 1 + 1 ∧ w2.heap.size = w.heap.size + 1 + 1 ∧ w1.heap.size = w.heap.size + 1 := by
  intro w1 w2 w3 e1 e2 e3
  have s1 : w1.heap.size = w.heap.size + 1 := by rw [e1]; show (w.heap.push _).size = _; exact Array.size_push _
  have s2 : w2.heap.size = w.heap.size + 1 + 1 := by rw [e2]; show (w1.heap.push _).size = _; rw [Array.size_push, s1]
  have s3 : w3.heap.size = w.heap.size + 1 + 1 + 1 := by rw [e3]; show (w2.heap.push _).size = _; rw [Array.size_push, s2]
  have b1 : w1.heap[w.heap.size]? = some (.cells #[.int .u64 0, .slice none 0 0] 56 (0, 0)) := by rw [e1]; show (w.heap.push _)[w.heap.size]? = _; rw [Array.getElem?_push_size]
  have b2 : w2.heap[w1.heap.size]? = some (.cells falses 57 (0, 0)) := by rw [e2]; show (w1.heap.push _)[w1.heap.size]? = _; rw [Array.getElem?_push_size]
  have b3 : w3.heap[w2.heap.size]? = some (.cells zeros 58 (0, 0)) := by rw [e3]; show (w2.heap.push _)[w2.heap.size]? = _; rw [Array.getElem?_push_size]
  have k2 : ∀ b, b < w1.heap.size → w2.heap[b]? = w1.heap[b]? := fun b hb => by rw [e2]; exact Below.heap_alloc _ _ _ hb
  have k3 : ∀ b, b < w2.heap.size → w3.heap[b]? = w2.heap[b]? := fun b hb => by rw [e3]; exact Below.heap_alloc _ _ _ hb
  refine ⟨⟨⟨.slice none 0 0, fun _ => 0, ?_, .inl ⟨rfl, cn_zero 64⟩, fun q _ h => by cases h⟩, ⟨falses, ?_, by simp [falses], fun i hi => by simp [falses, hi]⟩, ⟨zeros, ?_, by simp [zeros], fun i hi => by simp [zeros, hi]⟩, ?_⟩, s3, s2, s1⟩
  · rw [k3 _ (by omega), k2 _ (by omega), b1, mask_zero]
    rfl
  · rw [k3 _ (by omega), ← s1]; exact b2
  · rw [← s2]; exact b3
  · rw [e3, e2, e1]
    exact (((Below.refl _ w).alloc (Nat.le_refl _) _).alloc (by rw [← e1]; omega) _).alloc (by rw [← e1, ← e2]; omega) _

set_option maxHeartbeats 4000000 in
set_option maxRecDepth 100000 in
theorem law_walk (A : Option Addr) (n capA Ab Ao : Nat) (op qq : Nat → Nat) (vv : Nat → Int) (w : World) (hn : n ≤ 1024) (hA : 0 < n → A = some ⟨Ab, Ao, none⟩ ∧ Ab < w.heap.size)
    (hAc : ∀ i, i < n → w.cell? ⟨Ab, Ao + i * 3, none⟩ = some (.int .u8 (op i)) ∧ w.cell? ⟨Ab, Ao + i * 3 + 1, none⟩ = some (.int .u8 (qq i)) ∧ w.cell? ⟨Ab, Ao + i * 3 + 2, none⟩ = some (.int .i64 (vv i))) (hop : ∀ i, i < n → op i ≤ 255) (hqq : ∀ i, i < n → qq i ≤ 255) :
    Calls Yba.prog 4 #[.slice A n capA] w fun e w' => e = .returned (.bool true) ∧ Below w.heap.size w w' := by
  have n1 : ¬ (1024 : Int) < (n : Int) := by omega
  have d1 : decide ((1024 : Int) < (n : Int)) = false := decide_eq_false n1
  go_enter Yba.func4, Yba.ntmps4
  go_wp2_with (first
    | (refine wpList_alloc_letter _ rfl 56 rfl #[.int .u64 0, .slice none 0 0] (alloc56 _) ?_; intro w1 hw1)
    | (refine wpList_alloc_letter _ rfl 57 rfl falses (alloc57 _) ?_; intro w2 hw2)
    | (refine wpList_alloc_letter _ rfl 58 rfl zeros (alloc58 _) ?_; intro w3 hw3))
  obtain ⟨st0, s3, s2, s1⟩ := St.start w w1 w2 w3 hw1.out hw2.out hw3.out
  rw [← s2, ← s1] at st0
  have o2 : w.heap.size < w1.heap.size := by omega
  have o3 : w1.heap.size < w2.heap.size := by omega
  have o4 : w2.heap.size < w3.heap.size := by omega
  clear s1 s2 s3 hw1 hw2 hw3
  generalize hBB : w.heap.size = BB at *
  generalize w1.heap.size = HV at *
  generalize w2.heap.size = VV at *
  go_loopw [6] (fun v wr => ∃ (k : Nat) (H : Nat → Bool) (V : Nat → Int), k ≤ n ∧ v = .int .i64 k ∧ St w wr BB HV VV H V ∧ VV < wr.heap.size) (fun v _ => n - (intOf v).toNat)
  case atStart => exact ⟨0, _, _, by omega, rfl, st0, o4⟩
  case round =>
    obtain ⟨k, H, V, hk, rfl, st, hsz⟩ := hrel
    clear st0 o4
    by_cases hlt : k < n
    · obtain ⟨rfl, hAb⟩ := hA (by omega)
      obtain ⟨a0, a1, a2⟩ := hAc k hlt
      have k2 : (k : Int) < (n : Int) := by omega
      have bop := hop k hlt
      have bqq := hqq k hlt
      have x0 : wr.cell? ⟨Ab, Ao + k * 3, none⟩ = some (.int .u8 (op k)) := (st.bel.cell (p := ⟨Ab, Ao + k * 3, none⟩) (by show Ab < w.heap.size; omega)).trans a0
      have x1 : wr.cell? ⟨Ab, Ao + k * 3 + 1, none⟩ = some (.int .u8 (qq k)) := (st.bel.cell (p := ⟨Ab, Ao + k * 3 + 1, none⟩) (by show Ab < w.heap.size; omega)).trans a1
      have x2 : wr.cell? ⟨Ab, Ao + k * 3 + 2, none⟩ = some (.int .i64 (vv k)) := (st.bel.cell (p := ⟨Ab, Ao + k * 3 + 2, none⟩) (by show Ab < w.heap.size; omega)).trans a2
      clear a0 a1 a2
      obtain ⟨Q, hQ⟩ : ∃ Q, Q = qq k % 64 := ⟨_, rfl⟩
      obtain ⟨O, hO⟩ : ∃ O, O = op k % 3 := ⟨_, rfl⟩
      have q1 : ((qq k : Nat) : Int) % 64 = (Q : Int) := by omega
      have q2 : ((qq k : Nat) : Int).tmod 64 = (Q : Int) := by rw [Int.tmod_eq_emod_of_nonneg (by omega)]; exact q1
      have q3 : ((op k : Nat) : Int) % 3 = (O : Int) := by omega
      have q4 : ((op k : Nat) : Int).tmod 3 = (O : Int) := by rw [Int.tmod_eq_emod_of_nonneg (by omega)]; exact q3
      have q5 : Q < 64 := by omega
      have q6 : O < 3 := by omega
      have q7 : (Q : Int) < 64 := by omega
      have q8 : (O : Int) < 3 := by omega
      have b1 : ((op k : Nat) : Int) ≤ 255 := by omega
      have b2 : ((qq k : Nat) : Int) ≤ 255 := by omega
      clear hQ hO
      generalize op k = opk at *
      generalize qq k = qqk at *
      generalize vv k = v at *
      by_cases hO1 : O = 1
      · subst hO1
        go_wp2_with fail
        have hob : BB = w.heap.size := hBB.symm
        have stA := st.alloc (by omega) o2 o3 hsz (.cells #[.int .u8 opk, .int .u8 qqk, .int .i64 v] 60)
        have hszA : VV < (wr.alloc (.cells #[.int .u8 opk, .int .u8 qqk, .int .i64 v] 60)).heap.size := by show VV < (wr.heap.push _).size; rw [Array.size_push]; omega
        refine (delete_any BB VV Q H V q5 _ (by omega) hszA stA.bm).mono ?_
        rintro e w5 ⟨rfl, bm5, fr5⟩
        obtain ⟨y1, y2, y3, y4⟩ := stA.mem o2 o3 q5 fr5
        have st6 := stA.told (by omega) o2 o3 fr5 false 0 bm5
        have hsz5 : VV < w5.heap.size := by have := fr5.size; omega
        have hhv : (VV = HV) = False := eq_false (by omega)
        clear stA st bm5 fr5 hszA x0 x1 x2 hob
        go_wp2_with fail
        refine (check_any st6.bm st6.hh st6.vv).mono ?_
        rintro e w7 ⟨rfl, m7, rfl⟩
        have st7 := st6.drewN m7
        have hsz7 : VV < (((w5.setCell ⟨HV, Q, none⟩ (.bool false)).setCell ⟨VV, Q, none⟩ (.int .i64 0)).drewN m7).heap.size := by show VV < ((w5.setCell ⟨HV, Q, none⟩ (.bool false)).setCell ⟨VV, Q, none⟩ (.int .i64 0)).heap.size; simpa [World.setCell] using hsz5
        generalize ((w5.setCell ⟨HV, Q, none⟩ (.bool false)).setCell ⟨VV, Q, none⟩ (.int .i64 0)).drewN m7 = w8 at *
        clear st6
        go_wp2
        go_roundw
        case rel => exact ⟨k + 1, _, _, by omega, by simp, st7, hsz7⟩
        case measure => simp [intOf]; omega
      · have hO1' : ¬ (O : Int) = 1 := by omega
        have hO2' : decide ((O : Int) = 1) = false := decide_eq_false hO1'
        go_wp2_with fail
        have hob : BB = w.heap.size := hBB.symm
        have stA := st.alloc (by omega) o2 o3 hsz (.cells #[.int .u8 opk, .int .u8 qqk, .int .i64 v] 60)
        have hszA : VV < (wr.alloc (.cells #[.int .u8 opk, .int .u8 qqk, .int .i64 v] 60)).heap.size := by show VV < (wr.heap.push _).size; rw [Array.size_push]; omega
        have hszB : wr.heap.size < (wr.alloc (.cells #[.int .u8 opk, .int .u8 qqk, .int .i64 v] 60)).heap.size := by show wr.heap.size < (wr.heap.push _).size; rw [Array.size_push]; omega
        have sblk : (wr.alloc (.cells #[.int .u8 opk, .int .u8 qqk, .int .i64 v] 60)).heap[wr.heap.size]? = some (.cells #[.int .u8 opk, .int .u8 qqk, .int .i64 v] 60 (0, 0)) := by
          show (wr.heap.push _)[wr.heap.size]? = _
          rw [Array.getElem?_push_size]
        refine (ref_any BB VV Q H V q5 _ (by omega) hszA stA.bm wr.heap.size hszB (by omega) (st.bm.fresh (by omega) _)).mono ?_
        rintro e w5 ⟨g, rfl, bg5, fr5, kb5⟩
        rw [sblk] at kb5
        obtain ⟨y1, y2, y3, y4⟩ := stA.mem o2 o3 q5 fr5
        have st6 := stA.told (by omega) o2 o3 fr5 true (want H V Q) bg5.bm
        have hsz5 : VV < w5.heap.size := by have := fr5.size; omega
        obtain ⟨p1, p2, p3⟩ := bg5.at q5 (up_same _ _ _)
        rw [up_same] at p1
        have bg6 : BMg ((w5.setCell ⟨HV, Q, none⟩ (.bool true)).setCell ⟨VV, Q, none⟩ (.int .i64 (want H V Q))) BB VV (up H Q true) (up V Q (want H V Q)) g := bg5.same (by rw [Below.heap_setCell _ _ _ _ (by show BB ≠ VV; omega), Below.heap_setCell _ _ _ _ (by show BB ≠ HV; omega)]) (by rw [Below.heap_setCell _ _ _ _ (by show g ≠ VV; omega), Below.heap_setCell _ _ _ _ (by show g ≠ HV; omega)])
        have st7 := st6.write (by omega) o2 o3 bg6 q5 (up_same _ _ _) v
        have hhv : (VV = HV) = False := eq_false (by omega)
        have hgh : (g = HV) = False := eq_false (by omega)
        have hgv : (g = VV) = False := eq_false (by omega)
        have hvg : (VV = g) = False := eq_false (by omega)
        have hshv : (wr.heap.size = HV) = False := eq_false (by omega)
        have hsvv : (wr.heap.size = VV) = False := eq_false (by omega)
        have hsg : (wr.heap.size = g) = False := eq_false (fun e => by
          subst e
          obtain ⟨cap, f, _, _, _, _, ⟨cur, hc, _⟩, _⟩ := bg5
          rw [kb5] at hc
          simp at hc)
        have z2 : w5.cell? ⟨wr.heap.size, 2, none⟩ = some (.int .i64 v) := by rw [cell_of_row _ _ _ _ _ _ kb5]; rfl
        have ST6 : Hid (St w ((w5.setCell ⟨HV, Q, none⟩ (.bool true)).setCell ⟨VV, Q, none⟩ (.int .i64 (want H V Q))) BB HV VV (up H Q true) (up V Q (want H V Q))) := st6
        have ST7 : Hid (St w ((((w5.setCell ⟨HV, Q, none⟩ (.bool true)).setCell ⟨VV, Q, none⟩ (.int .i64 (want H V Q))).setCell ⟨g, cn (up H Q true) Q, none⟩ (.int .i64 v)).setCell ⟨VV, Q, none⟩ (.int .i64 v)) BB HV VV (up H Q true) (up (up V Q (want H V Q)) Q v)) := st7
        generalize cn (up H Q true) Q = C at *
        clear stA st fr5 hszA hszB x0 x1 x2 hob sblk bg5 bg6 st6 st7 kb5
        cases hHQ : H Q with
        | true =>
          have ew : want H V Q = V Q := by simp [want, hHQ]
          rw [ew] at p1 ST6 ST7
          rw [hHQ] at y1
          clear hHQ ew
          by_cases hO0 : O = 0
          · subst hO0
            have z3 : (((w5.setCell ⟨HV, Q, none⟩ (.bool true)).setCell ⟨VV, Q, none⟩ (.int .i64 (V Q))).setCell ⟨g, C, none⟩ (.int .i64 v)).cell? ⟨wr.heap.size, 2, none⟩ = some (.int .i64 v) := by
              rw [cell_kept (Below.heap_setCell _ _ _ _ (by show wr.heap.size ≠ g; exact hsg.mp)), cell_kept (Below.heap_setCell _ _ _ _ (by show wr.heap.size ≠ VV; omega)), cell_kept (Below.heap_setCell _ _ _ _ (by show wr.heap.size ≠ HV; omega))]
              exact z2
            go_wp2_with fail
            refine (check_any ST7.out.bm ST7.out.hh ST7.out.vv).mono ?_
            rintro e w7 ⟨rfl, m7, rfl⟩
            have st9 := ST7.out.drewN m7
            have hsz7 : VV < (((((w5.setCell ⟨HV, Q, none⟩ (.bool true)).setCell ⟨VV, Q, none⟩ (.int .i64 (V Q))).setCell ⟨g, C, none⟩ (.int .i64 v)).setCell ⟨VV, Q, none⟩ (.int .i64 v)).drewN m7).heap.size := by show VV < ((((w5.setCell ⟨HV, Q, none⟩ (.bool true)).setCell ⟨VV, Q, none⟩ (.int .i64 (V Q))).setCell ⟨g, C, none⟩ (.int .i64 v)).setCell ⟨VV, Q, none⟩ (.int .i64 v)).heap.size; simpa [World.setCell] using hsz5
            generalize ((((w5.setCell ⟨HV, Q, none⟩ (.bool true)).setCell ⟨VV, Q, none⟩ (.int .i64 (V Q))).setCell ⟨g, C, none⟩ (.int .i64 v)).setCell ⟨VV, Q, none⟩ (.int .i64 v)).drewN m7 = w8 at *
            clear ST6 ST7
            go_wp2
            go_roundw
            case rel => exact ⟨k + 1, _, _, by omega, by simp, st9, hsz7⟩
            case measure => simp [intOf]; omega
          · have hO3 : ¬ (O : Int) = 0 := by omega
            have hO4 : decide ((O : Int) = 0) = false := decide_eq_false hO3
            go_wp2_with fail
            refine (check_any ST6.out.bm ST6.out.hh ST6.out.vv).mono ?_
            rintro e w7 ⟨rfl, m7, rfl⟩
            have st9 := ST6.out.drewN m7
            have hsz7 : VV < (((w5.setCell ⟨HV, Q, none⟩ (.bool true)).setCell ⟨VV, Q, none⟩ (.int .i64 (V Q))).drewN m7).heap.size := by show VV < ((w5.setCell ⟨HV, Q, none⟩ (.bool true)).setCell ⟨VV, Q, none⟩ (.int .i64 (V Q))).heap.size; simpa [World.setCell] using hsz5
            generalize ((w5.setCell ⟨HV, Q, none⟩ (.bool true)).setCell ⟨VV, Q, none⟩ (.int .i64 (V Q))).drewN m7 = w8 at *
            clear ST6 ST7
            go_wp2
            go_roundw
            case rel => exact ⟨k + 1, _, _, by omega, by simp, st9, hsz7⟩
            case measure => simp [intOf]; omega
        | false =>
          have ew : want H V Q = 0 := by simp [want, hHQ]
          rw [ew] at p1 ST6 ST7
          rw [hHQ] at y1
          clear hHQ ew
          by_cases hO0 : O = 0
          · subst hO0
            have z3 : (((w5.setCell ⟨HV, Q, none⟩ (.bool true)).setCell ⟨VV, Q, none⟩ (.int .i64 0)).setCell ⟨g, C, none⟩ (.int .i64 v)).cell? ⟨wr.heap.size, 2, none⟩ = some (.int .i64 v) := by
              rw [cell_kept (Below.heap_setCell _ _ _ _ (by show wr.heap.size ≠ g; exact hsg.mp)), cell_kept (Below.heap_setCell _ _ _ _ (by show wr.heap.size ≠ VV; omega)), cell_kept (Below.heap_setCell _ _ _ _ (by show wr.heap.size ≠ HV; omega))]
              exact z2
            go_wp2_with fail
            refine (check_any ST7.out.bm ST7.out.hh ST7.out.vv).mono ?_
            rintro e w7 ⟨rfl, m7, rfl⟩
            have st9 := ST7.out.drewN m7
            have hsz7 : VV < (((((w5.setCell ⟨HV, Q, none⟩ (.bool true)).setCell ⟨VV, Q, none⟩ (.int .i64 0)).setCell ⟨g, C, none⟩ (.int .i64 v)).setCell ⟨VV, Q, none⟩ (.int .i64 v)).drewN m7).heap.size := by show VV < ((((w5.setCell ⟨HV, Q, none⟩ (.bool true)).setCell ⟨VV, Q, none⟩ (.int .i64 0)).setCell ⟨g, C, none⟩ (.int .i64 v)).setCell ⟨VV, Q, none⟩ (.int .i64 v)).heap.size; simpa [World.setCell] using hsz5
            generalize ((((w5.setCell ⟨HV, Q, none⟩ (.bool true)).setCell ⟨VV, Q, none⟩ (.int .i64 0)).setCell ⟨g, C, none⟩ (.int .i64 v)).setCell ⟨VV, Q, none⟩ (.int .i64 v)).drewN m7 = w8 at *
            clear ST6 ST7
            go_wp2
            go_roundw
            case rel => exact ⟨k + 1, _, _, by omega, by simp, st9, hsz7⟩
            case measure => simp [intOf]; omega
          · have hO3 : ¬ (O : Int) = 0 := by omega
            have hO4 : decide ((O : Int) = 0) = false := decide_eq_false hO3
            go_wp2_with fail
            refine (check_any ST6.out.bm ST6.out.hh ST6.out.vv).mono ?_
            rintro e w7 ⟨rfl, m7, rfl⟩
            have st9 := ST6.out.drewN m7
            have hsz7 : VV < (((w5.setCell ⟨HV, Q, none⟩ (.bool true)).setCell ⟨VV, Q, none⟩ (.int .i64 0)).drewN m7).heap.size := by show VV < ((w5.setCell ⟨HV, Q, none⟩ (.bool true)).setCell ⟨VV, Q, none⟩ (.int .i64 0)).heap.size; simpa [World.setCell] using hsz5
            generalize ((w5.setCell ⟨HV, Q, none⟩ (.bool true)).setCell ⟨VV, Q, none⟩ (.int .i64 0)).drewN m7 = w8 at *
            clear ST6 ST7
            go_wp2
            go_roundw
            case rel => exact ⟨k + 1, _, _, by omega, by simp, st9, hsz7⟩
            case measure => simp [intOf]; omega
    · obtain rfl : n = k := by omega
      have k2 : ¬ (n : Int) < (n : Int) := by omega
      go_wp2
      go_ret
      exact ⟨rfl, by rw [← hBB]; exact st.bel⟩
end Go.Proofs.Ybulkarya.script
