import Derived.Test.Qxb6600329aTabB
import Derived.Deep.AppendLies
import Derived.Deep.RegionLaw
namespace Go.Proofs.Qxb6600329a.Tab
open Go.RowKit Go.ChangeShapes Go.WideShapes Go.ChangeAt

theorem info59 : (Try.prog.info? 59).map (fun i => (i.zero, i.size, i.bytes)) = some (some (.agg #[.int .u32 0, .string ByteArray.empty]), 2, 24) := by kernel_rfl

/-- A record as toRecords lays it. -/
def recCells (r : R) (p : Option Addr) : List Value :=
  [.string ⟨#[99]⟩, .string ByteArray.empty, .int .u32 r.id, .string r.rel, .slice none 0 0, .string ByteArray.empty, .string ByteArray.empty, .pointer p, .string ByteArray.empty, .string ByteArray.empty]

/-- What its pointer leads to. -/
def Kept (w : World) (r : R) (p : Option Addr) : Prop :=
  (r.has = false ∧ p = none) ∨ (r.has = true ∧ ∃ kb, p = some ⟨kb, 0, none⟩ ∧ w.cell? ⟨kb, 0, none⟩ = some (.int .u32 r.iid) ∧ w.cell? ⟨kb, 1, none⟩ = some (.string r.irel))

def tabs (r : R) : List (Int × ByteArray) := (if r.rel.toList.isEmpty then [] else [(r.id, r.rel)]) ++ (if r.has && !r.irel.toList.isEmpty then [(r.iid, r.irel)] else [])

theorem cand1_tabs (r : R) : cand1 r = (tabs r).map (·.1) := by
  unfold cand1 tabs
  split <;> split <;> simp

def OwnT (B : Nat) (w : World) (v : Value) (ts : List (Int × ByteArray)) : Prop := w.ownsRow B 59 2 v ts.length (ts.flatMap fun t => [.int .u32 t.1, .string t.2])

theorem OwnT.snoc {B : Nat} {w : World} {v : Value} {ts : List (Int × ByteArray)} {x : Int} {s : ByteArray} (h : w.ownsRow B 59 2 v (ts.length + 1) ((ts.flatMap fun t => [.int .u32 t.1, .string t.2]) ++ [.int .u32 x, .string s])) : OwnT B w v (ts ++ [(x, s)]) := by
  unfold OwnT
  simpa using h

theorem two_cells {w : World} {g : Nat} {c0 c1 : Value} {t : TypeId} (h : w.heap[g]? = some (.cells #[c0, c1] t (0, 0))) : ∀ (j : Nat) (u : Value), [c0, c1][j]? = some u → w.cell? ((⟨g, 0, none⟩ : Addr).add j) = some u :=
  World.news_of_block h

theorem two_one (id : Int) (s : ByteArray) : ∀ u ∈ [Value.int .u32 id, Value.string s], u.oneCell' = true := by
  intro u hu
  simp at hu
  rcases hu with rfl | rfl <;> rfl

theorem OwnT.one {B : Nat} {w : World} {v : Value} {x : Int} {s : ByteArray} (h : w.ownsRow B 59 2 v 1 [.int .u32 x, .string s]) : OwnT B w v [(x, s)] := h
theorem OwnT.two {B : Nat} {w : World} {v : Value} {x y : Int} {s t : ByteArray} (h : w.ownsRow B 59 2 v 2 [.int .u32 x, .string s, .int .u32 y, .string t]) : OwnT B w v [(x, s), (y, t)] := h

set_option maxHeartbeats 1000000 in
theorem tb_e_nil (id : Int) (rel : ByteArray) (w : World) (h1 : rel.toList.isEmpty = true) :
    Calls Try.prog 32 #[.agg #[.string ⟨#[99]⟩, .string ByteArray.empty, .int .u32 id, .string rel, .slice none 0 0, .string ByteArray.empty, .string ByteArray.empty, .pointer none, .string ByteArray.empty, .string ByteArray.empty]] w fun e w' => ∃ v', e = .returned v' ∧ OwnT w.heap.size w' v' [] ∧ Below w.heap.size w w' := by
  go_enter Try.func32, Try.ntmps32
  go_wp2
  go_ret
  exact ⟨_, rfl, World.ownsRow_nil _ _ _ _, (Below.refl _ _).alloc (Nat.le_refl _) _⟩

set_option maxHeartbeats 1000000 in
theorem tb_e_kE (id iid : Int) (rel irel : ByteArray) (kb : Nat) (w : World) (h1 : rel.toList.isEmpty = true) (h2 : irel.toList.isEmpty = true) (hk0 : w.cell? ⟨kb, 0, none⟩ = some (.int .u32 iid)) (hk1 : w.cell? ⟨kb, 1, none⟩ = some (.string irel)) :
    Calls Try.prog 32 #[.agg #[.string ⟨#[99]⟩, .string ByteArray.empty, .int .u32 id, .string rel, .slice none 0 0, .string ByteArray.empty, .string ByteArray.empty, .pointer (some ⟨kb, 0, none⟩), .string ByteArray.empty, .string ByteArray.empty]] w fun e w' => ∃ v', e = .returned v' ∧ OwnT w.heap.size w' v' [] ∧ Below w.heap.size w w' := by
  have hkb : kb < w.heap.size := cell_lt hk0
  go_enter Try.func32, Try.ntmps32
  go_wp2
  go_ret
  exact ⟨_, rfl, World.ownsRow_nil _ _ _ _, (Below.refl _ _).alloc (Nat.le_refl _) _⟩

set_option maxHeartbeats 1000000 in
theorem tb_e_kN (id iid : Int) (rel irel : ByteArray) (kb : Nat) (w : World) (h1 : rel.toList.isEmpty = true) (h2 : irel.toList.isEmpty = false) (hk0 : w.cell? ⟨kb, 0, none⟩ = some (.int .u32 iid)) (hk1 : w.cell? ⟨kb, 1, none⟩ = some (.string irel)) :
    Calls Try.prog 32 #[.agg #[.string ⟨#[99]⟩, .string ByteArray.empty, .int .u32 id, .string rel, .slice none 0 0, .string ByteArray.empty, .string ByteArray.empty, .pointer (some ⟨kb, 0, none⟩), .string ByteArray.empty, .string ByteArray.empty]] w fun e w' => ∃ v', e = .returned v' ∧ OwnT w.heap.size w' v' [(iid, irel)] ∧ Below w.heap.size w w' := by
  obtain ⟨i0, hi, hz0, hz1, hz2⟩ := info_parts info59
  have hkb : kb < w.heap.size := cell_lt hk0
  go_enter Try.func32, Try.ntmps32
  go_wp2
  go_region_law (refine step_append_lies _ rfl (.tmp 26) (.tmp 38) 56 rfl w.heap.size 59 i0 (.agg #[.int .u32 0, .string ByteArray.empty]) 2 24 Try.underlying56 hi hz0 hz1 hz2 rfl (by decide) _ _ _ (by simp [Act.eval]) (World.ownsRow_nil _ _ _ _) ⟨w.heap.size + 1, 0, none⟩ 1 1 [.int .u32 iid, .string irel] (by simp [Act.eval]) rfl (by exact two_cells (heap_alloc2_new _ _ _)) (two_one _ _) (by omega) (by unfold maxLen; omega) (by omega) (by simp; omega) _ rfl ?_; intro g cap w2 hown hgrow hat hlt)
  all_goals
    go_wp2
    go_ret
    exact ⟨_, rfl, OwnT.one hown, (((Below.refl w.heap.size w).alloc (Nat.le_refl _) _).alloc (by simp) _).drew.grown hgrow (by simp; omega) (fun k hk => by cases hk)⟩

set_option maxHeartbeats 1000000 in
theorem tb_n_nil (id : Int) (rel : ByteArray) (w : World) (h1 : rel.toList.isEmpty = false) :
    Calls Try.prog 32 #[.agg #[.string ⟨#[99]⟩, .string ByteArray.empty, .int .u32 id, .string rel, .slice none 0 0, .string ByteArray.empty, .string ByteArray.empty, .pointer none, .string ByteArray.empty, .string ByteArray.empty]] w fun e w' => ∃ v', e = .returned v' ∧ OwnT w.heap.size w' v' [(id, rel)] ∧ Below w.heap.size w w' := by
  obtain ⟨i0, hi, hz0, hz1, hz2⟩ := info_parts info59
  go_enter Try.func32, Try.ntmps32
  go_wp2_with (at_builtin; refine wpList_append_own _ rfl _ _ 56 rfl w.heap.size 59 i0 (.agg #[.int .u32 0, .string ByteArray.empty]) 2 24 Try.underlying56 hi hz0 hz1 hz2 rfl (by decide) _ _ _ rfl (World.ownsRow_nil _ _ _ _) ⟨w.heap.size + 1, 0, none⟩ 1 1 [.int .u32 id, .string rel] rfl rfl (by exact two_cells (heap_alloc2_new _ _ _)) (two_one _ _) (by unfold maxLen; omega) (by omega) (by simp; omega) ?_)
  intro v1 w1 hown1 hgrow1 _
  have B1 : Below w.heap.size w w1 := (((Below.refl w.heap.size w).alloc (Nat.le_refl _) _).alloc (by simp) _).grown hgrow1 (by simp; omega) (fun k hk => by cases hk)
  have hp7 : w1.cell? ⟨w.heap.size, 7, none⟩ = some (.pointer none) := by
    rw [World.grownBy.cell_far hgrow1 _ (by simp; omega) (by simp [Value.ownBlock]), World.cell?_alloc_past _ _ _ (by simp), World.cell?_alloc_at _ _ _ _ rfl]
    rfl
  have R1 := OwnT.one hown1
  clear hown1 hgrow1
  go_wp2
  go_ret
  exact ⟨_, rfl, R1, B1⟩

set_option maxHeartbeats 1000000 in
theorem tb_n_kE (id iid : Int) (rel irel : ByteArray) (kb : Nat) (w : World) (h1 : rel.toList.isEmpty = false) (h2 : irel.toList.isEmpty = true) (hk0 : w.cell? ⟨kb, 0, none⟩ = some (.int .u32 iid)) (hk1 : w.cell? ⟨kb, 1, none⟩ = some (.string irel)) :
    Calls Try.prog 32 #[.agg #[.string ⟨#[99]⟩, .string ByteArray.empty, .int .u32 id, .string rel, .slice none 0 0, .string ByteArray.empty, .string ByteArray.empty, .pointer (some ⟨kb, 0, none⟩), .string ByteArray.empty, .string ByteArray.empty]] w fun e w' => ∃ v', e = .returned v' ∧ OwnT w.heap.size w' v' [(id, rel)] ∧ Below w.heap.size w w' := by
  obtain ⟨i0, hi, hz0, hz1, hz2⟩ := info_parts info59
  have hkb : kb < w.heap.size := cell_lt hk0
  go_enter Try.func32, Try.ntmps32
  go_wp2_with (at_builtin; refine wpList_append_own _ rfl _ _ 56 rfl w.heap.size 59 i0 (.agg #[.int .u32 0, .string ByteArray.empty]) 2 24 Try.underlying56 hi hz0 hz1 hz2 rfl (by decide) _ _ _ rfl (World.ownsRow_nil _ _ _ _) ⟨w.heap.size + 1, 0, none⟩ 1 1 [.int .u32 id, .string rel] rfl rfl (by exact two_cells (heap_alloc2_new _ _ _)) (two_one _ _) (by unfold maxLen; omega) (by omega) (by simp; omega) ?_)
  intro v1 w1 hown1 hgrow1 _
  have B1 : Below w.heap.size w w1 := (((Below.refl w.heap.size w).alloc (Nat.le_refl _) _).alloc (by simp) _).grown hgrow1 (by simp; omega) (fun k hk => by cases hk)
  have hp7 : w1.cell? ⟨w.heap.size, 7, none⟩ = some (.pointer (some ⟨kb, 0, none⟩)) := by
    rw [World.grownBy.cell_far hgrow1 _ (by simp; omega) (by simp [Value.ownBlock]), World.cell?_alloc_past _ _ _ (by simp), World.cell?_alloc_at _ _ _ _ rfl]
    rfl
  have g0 := (B1.cell (by exact hkb)).trans hk0
  have g1 := (B1.cell (by exact hkb)).trans hk1
  have R1 := OwnT.one hown1
  clear hown1 hgrow1
  go_wp2
  go_ret
  exact ⟨_, rfl, R1, B1⟩

set_option maxHeartbeats 1000000 in
theorem tb_n_kN (id iid : Int) (rel irel : ByteArray) (kb : Nat) (w : World) (h1 : rel.toList.isEmpty = false) (h2 : irel.toList.isEmpty = false) (hk0 : w.cell? ⟨kb, 0, none⟩ = some (.int .u32 iid)) (hk1 : w.cell? ⟨kb, 1, none⟩ = some (.string irel)) :
    Calls Try.prog 32 #[.agg #[.string ⟨#[99]⟩, .string ByteArray.empty, .int .u32 id, .string rel, .slice none 0 0, .string ByteArray.empty, .string ByteArray.empty, .pointer (some ⟨kb, 0, none⟩), .string ByteArray.empty, .string ByteArray.empty]] w fun e w' => ∃ v', e = .returned v' ∧ OwnT w.heap.size w' v' [(id, rel), (iid, irel)] ∧ Below w.heap.size w w' := by
  obtain ⟨i0, hi, hz0, hz1, hz2⟩ := info_parts info59
  have hkb : kb < w.heap.size := cell_lt hk0
  go_enter Try.func32, Try.ntmps32
  go_wp2_with (at_builtin; refine wpList_append_own _ rfl _ _ 56 rfl w.heap.size 59 i0 (.agg #[.int .u32 0, .string ByteArray.empty]) 2 24 Try.underlying56 hi hz0 hz1 hz2 rfl (by decide) _ _ _ rfl (World.ownsRow_nil _ _ _ _) ⟨w.heap.size + 1, 0, none⟩ 1 1 [.int .u32 id, .string rel] rfl rfl (by exact two_cells (heap_alloc2_new _ _ _)) (two_one _ _) (by unfold maxLen; omega) (by omega) (by simp; omega) ?_)
  intro v1 w1 hown1 hgrow1 _
  have B1 : Below w.heap.size w w1 := (((Below.refl w.heap.size w).alloc (Nat.le_refl _) _).alloc (by simp) _).grown hgrow1 (by simp; omega) (fun k hk => by cases hk)
  have hp7 : w1.cell? ⟨w.heap.size, 7, none⟩ = some (.pointer (some ⟨kb, 0, none⟩)) := by
    rw [World.grownBy.cell_far hgrow1 _ (by simp; omega) (by simp [Value.ownBlock]), World.cell?_alloc_past _ _ _ (by simp), World.cell?_alloc_at _ _ _ _ rfl]
    rfl
  have g0 := (B1.cell (by exact hkb)).trans hk0
  have g1 := (B1.cell (by exact hkb)).trans hk1
  have HOWN : Hid (w1.ownsRow w.heap.size 59 2 v1 1 [.int .u32 id, .string rel]) := hown1
  have hws : w.heap.size < w1.heap.size := cell_lt hp7
  clear hown1 hgrow1 hk0 hk1
  go_wp2
  go_region_law (refine step_append_lies _ rfl (.tmp 26) (.tmp 38) 56 rfl w.heap.size 59 i0 (.agg #[.int .u32 0, .string ByteArray.empty]) 2 24 Try.underlying56 hi hz0 hz1 hz2 rfl (by decide) v1 _ _ (by simp [Act.eval]) (World.ownsRow.drew (World.ownsRow.alloc HOWN.out _)) ⟨w1.heap.size, 0, none⟩ 1 1 [.int .u32 iid, .string irel] (by simp [Act.eval]) rfl (by exact two_cells (heap_alloc_new _ _)) (two_one _ _) (by omega) (by unfold maxLen; omega) (by omega) (by simp; omega) _ rfl ?_; intro g cap w2 hown hgrow hat hlt)
  all_goals
    go_wp2
    go_ret
    exact ⟨_, rfl, OwnT.two hown, (B1.alloc (by omega) _).drew.grown hgrow (by simp; omega) (fun k hk => (HOWN.out.lt k hk).1)⟩

end Go.Proofs.Qxb6600329a.Tab
