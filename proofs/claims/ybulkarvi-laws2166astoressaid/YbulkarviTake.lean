/-
  newRecords, takeRecords: the records' bytes cut into chunks of p records, in place.
-/
import Derived.Test.YbulkarviAt
import Derived.LoopTactic
import Derived.Deep.AppendLies
import Derived.Deep.RegionLaw
namespace Go.Proofs.Ybulkarvi.stores
set_option linter.unusedVariables false
open Go.RowKit

theorem new_any (p : Nat) (w : World) : Calls Yba.prog 14 #[.int .i64 p] w fun e w' =>
    e = .returned (.agg #[.int .i64 p, .slice none 0 0, .slice none 0 0, .int .i64 0]) ∧ ∃ c, w' = w.alloc (.cells c 26) := by
  go_enter Yba.func14, Yba.ntmps14
  go_wp2
  refine bodyPost_ret (v := .agg #[.int .i64 p, .slice none 0 0, .slice none 0 0, .int .i64 0]) (by simp [results, Yba.results14, go_sem]) rfl ⟨rfl, _, rfl⟩

/-- Chunk j of N records' bytes in block gb, S bytes a chunk. -/
def chunkAt (gb N S j : Nat) : Value := .slice (some ⟨gb, j * S, none⟩) (min S (N * 128 - j * S)) (min S (N * 128 - j * S))
def chunkList (gb N S : Nat) : Nat → List Value
  | 0 => []
  | k + 1 => chunkList gb N S k ++ [chunkAt gb N S k]

/-- What is left of the bytes. -/
def Left (gb N S k : Nat) (v : Value) : Prop :=
  (k * S < N * 128 ∧ v = .slice (some ⟨gb, k * S, none⟩) (N * 128 - k * S) (N * 128 - k * S)) ∨ (N * 128 ≤ k * S ∧ ∃ a, v = .slice a 0 0)

theorem info22 : (Yba.prog.info? 22).map (fun i => (i.zero, i.size, i.bytes)) = some (some (.slice none 0 0), 1, 24) := by kernel_rfl
theorem info4 : (Yba.prog.info? 4).map (fun i => (i.zero, i.size, i.bytes)) = some (some (.bool false), 1, 1) := by kernel_rfl

/-- The loop's invariant, behind k chunks. -/
structure TInv (W0 wr : World) (B5 p gb N S k : Nat) (vch vha : Value) : Prop where
  blk : wr.heap[B5]? = some (.cells #[.int .i64 p, vch, vha, .int .i64 0] 26 (0, 0))
  och : wr.ownsRow (B5 + 1) 22 1 vch k (chunkList gb N S k)
  oha : wr.ownsRow (B5 + 1) 4 1 vha k (List.replicate k (.bool true))
  bel : Below B5 W0 wr

theorem cell_blk {w : World} {B : Nat} {cs : Array Value} {t : TypeId} (h : w.heap[B]? = some (.cells cs t (0, 0))) (i : Nat) : w.cell? ⟨B, i, none⟩ = cs[i]? := cell_of_row w B i cs t (0, 0) h
theorem free_blk {w : World} {B : Nat} {cs : Array Value} {t : TypeId} (h : w.heap[B]? = some (.cells cs t (0, 0))) (i : Nat) : w.frozen? ⟨B, i, none⟩ = false := by simp [World.frozen?, h]
theorem set_blk {w : World} {B : Nat} {cs : Array Value} {t : TypeId} (h : w.heap[B]? = some (.cells cs t (0, 0))) (i : Nat) (u : Value) : (w.setCell ⟨B, i, none⟩ u).heap[B]? = some (.cells (cs.setIfInBounds i u) t (0, 0)) := by
  have hlt := lt_of_block h
  have h' : w.heap[B] = .cells cs t (0, 0) := by simpa [Array.getElem?_eq_getElem hlt] using h
  show (w.heap.modify B _)[B]? = _
  rw [Array.getElem?_eq_getElem (by simpa using hlt), Array.getElem_modify_self, h']
  rfl

theorem heap_new_at (w : World) (o : Obj) (n : Nat) (h : n = w.heap.size) : (w.alloc o).heap[n]? = some o := by subst h; exact heap_alloc_new w o
theorem size_set (w : World) (a : Addr) (v : Value) : (w.setCell a v).heap.size = w.heap.size := by simp [World.setCell]

theorem own_slice {w : World} {B s n : Nat} {e : TypeId} {v : Value} {xs : List Value} (h : w.ownsRow B e s v n xs) : ∃ a m c, v = .slice a m c := by
  rcases h.2 with ⟨rfl, _⟩ | ⟨g1, c1, u1, rfl, _⟩
  · exact ⟨_, _, _, rfl⟩
  · exact ⟨_, _, _, rfl⟩

theorem own_base {w : World} {B B' s n : Nat} {e : TypeId} {v : Value} {xs : List Value} (h : w.ownsRow B e s v n xs) (hB : B' ≤ B) : w.ownsRow B' e s v n xs := by
  refine ⟨h.1, ?_⟩
  rcases h.2 with h | ⟨g1, c1, u1, h1, h2, h3⟩
  · exact .inl h
  · exact .inr ⟨g1, c1, u1, h1, Nat.le_trans hB h2, h3⟩

/-- The result's four cells behind the four stores. -/
theorem four_cells {w : World} {B : Nat} {x0 x1 x2 x3 y0 y1 y2 y3 : Value} {t : TypeId} (h : w.heap[B]? = some (.cells #[x0, x1, x2, x3] t (0, 0))) :
    ((((w.setCell ⟨B, 0, none⟩ y0).setCell ⟨B, 1, none⟩ y1).setCell ⟨B, 2, none⟩ y2).setCell ⟨B, 3, none⟩ y3).heap[B]? = some (.cells #[y0, y1, y2, y3] t (0, 0)) := by
  have := set_blk (set_blk (set_blk (set_blk h 0 y0) 1 y1) 2 y2) 3 y3
  simpa using this

/-- Two owned rows of different element types lie in different blocks. -/
theorem rows_apart {w : World} {b1 b2 s1 s2 n1 n2 : Nat} {e1 e2 : TypeId} {v1 v2 : Value} {xs1 xs2 : List Value} (h1 : w.ownsRow b1 e1 s1 v1 n1 xs1) (h2 : w.ownsRow b2 e2 s2 v2 n2 xs2) (he : e1 ≠ e2) :
    v1.ownBlock = none ∨ v1.ownBlock ≠ v2.ownBlock := by
  rcases h1.2 with ⟨rfl, _⟩ | ⟨g1, c1, u1, rfl, _, k1, _⟩
  · exact .inl rfl
  · right
    rcases h2.2 with ⟨rfl, _⟩ | ⟨g2, c2, u2, rfl, _, k2, _⟩
    · simp [Value.ownBlock]
    · intro h
      simp [Value.ownBlock] at h
      subst h
      rw [k1] at k2
      simp at k2
      exact he k2.2

theorem own_ne {w : World} {B s n : Nat} {e : TypeId} {v : Value} {xs : List Value} (h : w.ownsRow (B + 1) e s v n xs) : some B ≠ v.ownBlock := fun e => by
  have := (h.lt B e.symm).1
  omega

/-- Behind the first append. -/
theorem take_mid {W0 wr w1 : World} {B5 p gb N S k : Nat} {vch vha : Value} {o : Obj} (inv : TInv W0 wr B5 p gb N S k vch vha) (hg : (wr.alloc o).drew.grownBy w1 vch.ownBlock) :
    w1.heap[B5]? = some (.cells #[.int .i64 p, vch, vha, .int .i64 0] 26 (0, 0)) ∧ w1.ownsRow (B5 + 1) 4 1 vha k (List.replicate k (.bool true)) ∧ Below B5 W0 w1 := by
  have hlt := lt_of_block inv.blk
  have g0 : (wr.alloc o).grownBy w1 vch.ownBlock := ⟨hg.os, hg.tape, hg.output, hg.size, hg.block⟩
  have hb : w1.heap[B5]? = wr.heap[B5]? := (g0.block B5 (by simp; omega) (own_ne inv.och)).trans (Below.heap_alloc wr o B5 hlt)
  refine ⟨hb.trans inv.blk, (inv.oha.alloc o).kept g0 (rows_apart inv.oha inv.och (by decide)), ?_⟩
  exact (inv.bel.alloc (Nat.le_of_lt hlt) o).grown g0 (by simp; omega) (fun j hj => by have := (inv.och.lt j hj).1; omega)

/-- Behind the second append. -/
theorem take_mid2 {w1 w2 : World} {B5 p k g cap : Nat} {vch vha : Value} {xs : List Value} {o2 : Obj} (hb1 : w1.heap[B5]? = some (.cells #[.int .i64 p, vch, vha, .int .i64 0] 26 (0, 0)))
    (oha1 : w1.ownsRow (B5 + 1) 4 1 vha k xs) (hg2 : ((w1.setCell ⟨B5, 1, none⟩ (.slice (some ⟨g, 0, none⟩) (k + 1) cap)).alloc o2).grownBy w2 vha.ownBlock) :
    w2.heap[B5]? = some (.cells #[.int .i64 p, .slice (some ⟨g, 0, none⟩) (k + 1) cap, vha, .int .i64 0] 26 (0, 0)) := by
  have hlt1 := lt_of_block hb1
  have hb2 := set_blk hb1 1 (.slice (some ⟨g, 0, none⟩) (k + 1) cap)
  have e2 : (w1.setCell ⟨B5, 1, none⟩ (.slice (some ⟨g, 0, none⟩) (k + 1) cap)).heap.size = w1.heap.size := by simp [World.setCell]
  rw [((hg2.block B5 (by simp [e2]; omega) (own_ne oha1)).trans (Below.heap_alloc _ o2 B5 (by rw [e2]; exact hlt1))).trans hb2]
  simp

/-- Behind the round. -/
theorem take_round {W0 wr w1 w2 : World} {B5 p gb N S k g cap g2 cap2 : Nat} {vch vha : Value} {o o2 : Obj} (inv : TInv W0 wr B5 p gb N S k vch vha)
    (hg : (wr.alloc o).drew.grownBy w1 vch.ownBlock) (hown1 : w1.ownsRow (B5 + 1) 22 1 (.slice (some ⟨g, 0, none⟩) (k + 1) cap) (k + 1) (chunkList gb N S k ++ [chunkAt gb N S k]))
    (hg2 : ((w1.setCell ⟨B5, 1, none⟩ (.slice (some ⟨g, 0, none⟩) (k + 1) cap)).alloc o2).grownBy w2 vha.ownBlock)
    (hown2 : w2.ownsRow (B5 + 1) 4 1 (.slice (some ⟨g2, 0, none⟩) (k + 1) cap2) (k + 1) (List.replicate k (.bool true) ++ [.bool true])) :
    TInv W0 (w2.setCell ⟨B5, 2, none⟩ (.slice (some ⟨g2, 0, none⟩) (k + 1) cap2)) B5 p gb N S (k + 1) (.slice (some ⟨g, 0, none⟩) (k + 1) cap) (.slice (some ⟨g2, 0, none⟩) (k + 1) cap2) := by
  obtain ⟨hb1, oha1, bel1⟩ := take_mid inv hg
  have hlt1 := lt_of_block hb1
  have hb2 := set_blk hb1 1 (.slice (some ⟨g, 0, none⟩) (k + 1) cap)
  have e2 : (w1.setCell ⟨B5, 1, none⟩ (.slice (some ⟨g, 0, none⟩) (k + 1) cap)).heap.size = w1.heap.size := by simp [World.setCell]
  have oha2 : ((w1.setCell ⟨B5, 1, none⟩ (.slice (some ⟨g, 0, none⟩) (k + 1) cap)).alloc o2).ownsRow (B5 + 1) 4 1 vha k (List.replicate k (.bool true)) := (ownsRow_setCell_other oha1 (fun e => own_ne oha1 e.symm) _).alloc o2
  have och2 : ((w1.setCell ⟨B5, 1, none⟩ (.slice (some ⟨g, 0, none⟩) (k + 1) cap)).alloc o2).ownsRow (B5 + 1) 22 1 (.slice (some ⟨g, 0, none⟩) (k + 1) cap) (k + 1) (chunkList gb N S k ++ [chunkAt gb N S k]) := (ownsRow_setCell_other hown1 (fun e => own_ne hown1 e.symm) _).alloc o2
  have hb3 : w2.heap[B5]? = _ := ((hg2.block B5 (by simp [e2]; omega) (own_ne oha1)).trans (Below.heap_alloc _ o2 B5 (by rw [e2]; exact hlt1))).trans hb2
  have och3 := och2.kept hg2 (rows_apart och2 oha2 (by decide))
  refine ⟨?_, ?_, ?_, ?_⟩
  · have := set_blk hb3 2 (.slice (some ⟨g2, 0, none⟩) (k + 1) cap2)
    simpa using this
  · exact ownsRow_setCell_other och3 (fun e => own_ne och3 e.symm) _
  · rw [List.replicate_succ']
    exact ownsRow_setCell_other hown2 (fun e => own_ne hown2 e.symm) _
  · exact ((((bel1.setCell (Nat.le_refl _) _).alloc (by rw [e2]; omega) o2).grown hg2 (by simp [e2]; omega) (fun j hj => by have := (oha1.lt j hj).1; omega)).setCell (Nat.le_refl _) _)

/-- A slice's length. -/
def slen : Value → Nat
  | .slice _ n _ => n
  | _ => 0
theorem left_start (gb N S : Nat) : Left gb N S 0 (.slice (some ⟨gb, 0, none⟩) (N * 128) (N * 128)) := by
  unfold Left
  rcases Nat.eq_zero_or_pos N with rfl | h
  · exact .inr ⟨by simp, _, rfl⟩
  · exact .inl ⟨by omega, by simp⟩
theorem left_more {gb N S k : Nat} (h : S < N * 128 - k * S) : Left gb N S (k + 1) (.slice (some ⟨gb, k * S + S, none⟩) (N * 128 - k * S - S) (N * 128 - k * S - S)) := by
  have e : (k + 1) * S = k * S + S := by rw [Nat.add_mul, Nat.one_mul]
  refine .inl ⟨by rw [e]; omega, ?_⟩
  rw [e, Nat.sub_add_eq]
theorem left_done {gb N S k : Nat} (h : N * 128 - k * S ≤ S) (hl : k * S < N * 128) (a : Option Addr) : Left gb N S (k + 1) (.slice a 0 0) := by
  have e : (k + 1) * S = k * S + S := by rw [Nat.add_mul, Nat.one_mul]
  exact .inr ⟨by rw [e]; omega, a, rfl⟩
theorem chunk_full {gb N S k : Nat} (h : S < N * 128 - k * S) : chunkAt gb N S k = .slice (some ⟨gb, k * S, none⟩) S S := by
  unfold chunkAt
  rw [Nat.min_eq_left (by omega)]
theorem chunk_last {gb N S k : Nat} (h : N * 128 - k * S ≤ S) : chunkAt gb N S k = .slice (some ⟨gb, k * S, none⟩) (N * 128 - k * S) (N * 128 - k * S) := by
  unfold chunkAt
  rw [Nat.min_eq_right h]

set_option maxHeartbeats 2000000 in
theorem take_any (p gb N S : Nat) (hp : 1 ≤ p) (hS1 : 128 ≤ S) (hS2 : S ≤ 512) (hS : (p : Int) * 128 = (S : Int)) (hN : N ≤ 1024) (w : World) (hgb : gb < w.heap.size) :
    Calls Yba.prog 7 #[.int .i64 p, .slice (some ⟨gb, 0, none⟩) (N * 128) (N * 128)] w fun e w' => ∃ (xa : Option Addr) (xm xc : Nat) (ya : Option Addr) (ym yc nc : Nat), e = .returned (.agg #[.int .i64 p, .slice xa xm xc, .slice ya ym yc, .int .i64 0]) ∧
      nc ≤ N ∧ N * 128 ≤ nc * S ∧ w'.ownsRow w.heap.size 22 1 (.slice xa xm xc) nc (chunkList gb N S nc) ∧ Below w.heap.size w w' := by
  obtain ⟨i22, hi22, hz0, hz1, hz2⟩ := info_parts info22
  obtain ⟨i4, hi4, hb0, hb1, hb2⟩ := info_parts info4
  go_enter Yba.func7, Yba.ntmps7
  go_wp2_with fail
  refine (new_any p _).mono ?_
  rintro e w' ⟨rfl, c, rfl⟩
  go_wp2_with fail
  go_loopw [1] (fun v wr => ∃ k vch vha, Left gb N S k v ∧ k ≤ N ∧ TInv (((w.alloc (.cells #[.int .i64 0, .slice none 0 0, .slice none 0 0, .int .i64 0] 26)).alloc (.cells c 26)).alloc (.cells #[.int .i64 p, .slice none 0 0, .slice none 0 0, .int .i64 0] 26)) wr (w.heap.size + 1 + 1) p gb N S k vch vha)
    (fun v _ => slen v)
  case atStart =>
    refine ⟨0, .slice none 0 0, .slice none 0 0, left_start gb N S, Nat.zero_le _, ⟨heap_new_at _ _ _ (by simp), World.ownsRow_nil _ _ _ _, World.ownsRow_nil _ _ _ _, Below.refl _ _⟩⟩
  case round =>
    obtain ⟨k, vch, vha, hleft, hkN, inv⟩ := hrel
    rcases hleft with ⟨hl, rfl⟩ | ⟨hl, a, rfl⟩
    · have hL : N * 128 ≤ 131072 := by omega
      have b1 := cell_blk inv.blk 1
      simp at b1
      have f1 := free_blk inv.blk 1
      have hB5 := lt_of_block inv.blk
      have hpos : 0 < N * 128 - k * S := by omega
      have hrm : N * 128 - k * S ≤ 131072 := by omega
      have hkk : k < N := by
        have := Nat.mul_le_mul_left k hS1
        omega
      rcases Nat.lt_or_ge S (N * 128 - k * S) with hle | hle
      · have m1 : (S : Int) < ((N * 128 - k * S : Nat) : Int) := by omega
        have m2 : (S : Int) ≤ ((N * 128 - k * S : Nat) : Int) := by omega
        have m3 : (S : Int) ≤ max (S : Int) 0 := by omega
        have m4 : (0 : Int) ≤ (S : Int) := by omega
        have och := inv.och.alloc (.cells #[.slice (some ⟨gb, k * S, none⟩) S S] 22)
        go_wp2_with fail
        go_region_law (refine step_append_lies _ rfl (.tmp 20) (.tmp 25) 23 rfl (w.heap.size + 1 + 1 + 1) 22 i22 (.slice none 0 0) 1 24 Yba.underlying23 hi22 hz0 hz1 hz2 rfl (by decide) vch k _ rfl (by exact och) ⟨wr.heap.size, 0, none⟩ 1 1 [.slice (some ⟨gb, k * S, none⟩) S S] rfl rfl (by exact World.news_of_block (heap_alloc_new wr _)) (by simp [Value.oneCell']) (by decide) (by unfold maxLen; omega) (by omega) (by simp; omega) _ rfl ?_; intro g cap w1 hown1 hgrow1 hat1 hlt1; obtain ⟨blk1, oha1, bel1⟩ := take_mid inv hgrow1; have hB1 := lt_of_block blk1; have d1 := cell_blk blk1 1; have d2 := cell_blk blk1 2; have g1 := free_blk blk1 1; have g2 := free_blk blk1 2; simp at d1 d2)
        all_goals have oha2 := (ownsRow_setCell_other oha1 (a := ⟨w.heap.size + 1 + 1, 1, none⟩) (fun e => own_ne oha1 e.symm) (.slice (some ⟨g, 0, none⟩) (k + 1) cap)).alloc (.cells #[.bool true] 4)
        all_goals go_wp2_with (at_builtin; (refine wpList_append_lies _ rfl (.tmp 29) (.tmp 30) 24 rfl (w.heap.size + 1 + 1 + 1) 4 i4 (.bool false) 1 1 Yba.underlying24 hi4 hb0 hb1 hb2 rfl (by decide) vha k _ rfl (by exact oha2) ⟨w1.heap.size, 0, none⟩ 1 1 [.bool true] (by first | rfl | simp [World.setCell]) rfl (by exact World.news_of_block (heap_new_at _ _ _ (size_set _ _ _).symm)) (by simp [Value.oneCell']) (by decide) (by unfold maxLen; omega) (by omega) (by simp [World.setCell]; omega) _ rfl ?_; intro g3 cap3 w2 hown2 hgrow2 hat2 hlt2; have blk2 := take_mid2 blk1 oha1 hgrow2; have d3 := cell_blk blk2 2; have g4 := free_blk blk2 2; simp at d3))
        all_goals rw [← chunk_full hle] at hown1
        all_goals go_roundw
        case rel => exact ⟨k + 1, _, _, left_more hle, hkk, take_round inv hgrow1 hown1 hgrow2 hown2⟩
        case measure => simp [slen]; omega
        case rel => exact ⟨k + 1, _, _, left_more hle, hkk, take_round inv hgrow1 hown1 hgrow2 hown2⟩
        case measure => simp [slen]; omega
      · have m1 : ((N * 128 - k * S : Nat) : Int) ≤ (S : Int) := by omega
        have m3 : ((N * 128 - k * S : Nat) : Int) ≤ max ((N * 128 - k * S : Nat) : Int) 0 := by omega
        have m4 : (0 : Int) ≤ ((N * 128 - k * S : Nat) : Int) := by omega
        have och := inv.och.alloc (.cells #[.slice (some ⟨gb, k * S, none⟩) (N * 128 - k * S) (N * 128 - k * S)] 22)
        go_wp2_with fail
        go_region_law (refine step_append_lies _ rfl (.tmp 20) (.tmp 25) 23 rfl (w.heap.size + 1 + 1 + 1) 22 i22 (.slice none 0 0) 1 24 Yba.underlying23 hi22 hz0 hz1 hz2 rfl (by decide) vch k _ rfl (by exact och) ⟨wr.heap.size, 0, none⟩ 1 1 [.slice (some ⟨gb, k * S, none⟩) (N * 128 - k * S) (N * 128 - k * S)] rfl rfl (by exact World.news_of_block (heap_alloc_new wr _)) (by simp [Value.oneCell']) (by decide) (by unfold maxLen; omega) (by omega) (by simp; omega) _ rfl ?_; intro g cap w1 hown1 hgrow1 hat1 hlt1; obtain ⟨blk1, oha1, bel1⟩ := take_mid inv hgrow1; have hB1 := lt_of_block blk1; have d1 := cell_blk blk1 1; have d2 := cell_blk blk1 2; have g1 := free_blk blk1 1; have g2 := free_blk blk1 2; simp at d1 d2)
        all_goals have oha2 := (ownsRow_setCell_other oha1 (a := ⟨w.heap.size + 1 + 1, 1, none⟩) (fun e => own_ne oha1 e.symm) (.slice (some ⟨g, 0, none⟩) (k + 1) cap)).alloc (.cells #[.bool true] 4)
        all_goals go_wp2_with (at_builtin; (refine wpList_append_lies _ rfl (.tmp 29) (.tmp 30) 24 rfl (w.heap.size + 1 + 1 + 1) 4 i4 (.bool false) 1 1 Yba.underlying24 hi4 hb0 hb1 hb2 rfl (by decide) vha k _ rfl (by exact oha2) ⟨w1.heap.size, 0, none⟩ 1 1 [.bool true] (by first | rfl | simp [World.setCell]) rfl (by exact World.news_of_block (heap_new_at _ _ _ (size_set _ _ _).symm)) (by simp [Value.oneCell']) (by decide) (by unfold maxLen; omega) (by omega) (by simp [World.setCell]; omega) _ rfl ?_; intro g3 cap3 w2 hown2 hgrow2 hat2 hlt2; have blk2 := take_mid2 blk1 oha1 hgrow2; have d3 := cell_blk blk2 2; have g4 := free_blk blk2 2; simp at d3))
        all_goals rw [← chunk_last hle] at hown1
        all_goals go_roundw
        case rel => exact ⟨k + 1, _, _, left_done hle hl _, hkk, take_round inv hgrow1 hown1 hgrow2 hown2⟩
        case measure => simp [slen]; omega
        case rel => exact ⟨k + 1, _, _, left_done hle hl _, hkk, take_round inv hgrow1 hown1 hgrow2 hown2⟩
        case measure => simp [slen]; omega
    · obtain ⟨xa, xm, xc, rfl⟩ := own_slice inv.och
      obtain ⟨ya, ym, yc, rfl⟩ := own_slice inv.oha
      have b0 := cell_blk inv.blk 0
      have b1 := cell_blk inv.blk 1
      have b2 := cell_blk inv.blk 2
      have b3 := cell_blk inv.blk 3
      simp at b0 b1 b2 b3
      have hB5 := lt_of_block inv.blk
      have blkR : wr.heap[w.heap.size]? = some (.cells #[.int .i64 0, .slice none 0 0, .slice none 0 0, .int .i64 0] 26 (0, 0)) := by
        rw [inv.bel.block w.heap.size (by omega), Below.heap_alloc _ _ _ (by simp; omega), Below.heap_alloc _ _ _ (by simp)]
        exact heap_alloc_new w _
      have r0 := cell_blk blkR 0
      have r1 := cell_blk blkR 1
      have r2 := cell_blk blkR 2
      have r3 := cell_blk blkR 3
      have q0 := free_blk blkR 0
      have q1 := free_blk blkR 1
      have q2 := free_blk blkR 2
      have q3 := free_blk blkR 3
      simp at r0 r1 r2 r3
      have blkF := four_cells (y0 := .int .i64 p) (y1 := .slice xa xm xc) (y2 := .slice ya ym yc) (y3 := .int .i64 0) blkR
      have z0 := cell_blk blkF 0
      have z1 := cell_blk blkF 1
      have z2 := cell_blk blkF 2
      have z3 := cell_blk blkF 3
      simp at z0 z1 z2 z3
      have HZ : Hid (_ ∧ _ ∧ _ ∧ _) := ⟨z0, z1, z2, z3⟩
      clear z0 z1 z2 z3
      have fin := own_base inv.och (B' := w.heap.size) (by omega)
      have hne : (Value.slice xa xm xc).ownBlock ≠ some w.heap.size := fun e => by have := (inv.och.lt _ e).1; omega
      have bel : Below w.heap.size w wr := ((((Below.refl _ w).alloc (Nat.le_refl _) _).alloc (by simp) _).alloc (by simp; omega) _).trans (inv.bel.mono (by omega))
      have FIN : Hid (wr.ownsRow w.heap.size 22 1 (.slice xa xm xc) k (chunkList gb N S k) ∧ (Value.slice xa xm xc).ownBlock ≠ some w.heap.size ∧ Below w.heap.size w wr) := ⟨fin, hne, bel⟩
      clear fin hne bel
      go_wp2
      refine bodyPost_ret (v := .agg #[.int .i64 p, .slice xa xm xc, .slice ya ym yc, .int .i64 0]) (by simp [results, Yba.results7, go_sem, HZ.out.1, HZ.out.2.1, HZ.out.2.2.1, HZ.out.2.2.2]) rfl ⟨_, _, _, _, _, _, k, rfl, hkN, hl, ?_, ?_⟩
      · exact ownsRow_setCell_other (ownsRow_setCell_other (ownsRow_setCell_other (ownsRow_setCell_other FIN.out.1 FIN.out.2.1 _) FIN.out.2.1 _) FIN.out.2.1 _) FIN.out.2.1 _
      · exact (((FIN.out.2.2.setCell (Nat.le_refl _) _).setCell (Nat.le_refl _) _).setCell (Nat.le_refl _) _).setCell (Nat.le_refl _) _
end Go.Proofs.Ybulkarvi.stores
