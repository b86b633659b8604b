import Derived.Test.Qxb6600329aTabE
import Derived.Test.Qxb6600329aTabC
namespace Go.Proofs.Qxb6600329a.Tab
open Go.RowKit Go.ChangeShapes Go.WideShapes Go.ChangeAt

theorem info51 : (Try.prog.info? 51).map (fun i => (i.zero, i.size, i.bytes)) = some (some (.agg #[.string ByteArray.empty, .string ByteArray.empty, .int .u32 0, .string ByteArray.empty, .slice none 0 0, .string ByteArray.empty, .string ByteArray.empty, .pointer none, .string ByteArray.empty, .string ByteArray.empty]), 10, 152) := by kernel_rfl

def rc (it : R × Option Addr) : List Value := recCells it.1 it.2

/-- The pointer of a record leads to its kept row, which lies in another block than the records. -/
def KeptOff (w : World) (g : Nat) (it : R × Option Addr) : Prop := Kept w it.1 it.2 ∧ ∀ a, it.2 = some a → a.block ≠ g

theorem rc_one (it : R × Option Addr) : ∀ u ∈ rc it, u.oneCell' = true := by
  intro u hu
  simp [rc, recCells] at hu
  rcases hu with rfl | rfl | rfl | rfl | rfl | rfl | rfl | rfl <;> rfl

theorem kept_grown {w w' : World} {g : Nat} {it : R × Option Addr} (h : KeptOff w g it) (hg : w.grownBy w' (some g)) : KeptOff w' g it := by
  obtain ⟨h1 | ⟨h1, kb, h2, c0, c1⟩, hoff⟩ := h
  · exact ⟨.inl h1, hoff⟩
  · have hne : kb ≠ g := hoff _ h2
    refine ⟨.inr ⟨h1, kb, h2, ?_, ?_⟩, hoff⟩
    · rw [World.grownBy.cell_far hg _ (cell_lt c0) (by simpa using hne)]; exact c0
    · rw [World.grownBy.cell_far hg _ (cell_lt c1) (by simpa using hne)]; exact c1

theorem rec_at_append {w : World} {H : Nat} (hH : w.heap.size = H) (r : R) (p : Option Addr) : ∀ (j : Nat) (u : Value), (rc (r, p))[j]? = some u → (w.alloc (.cells (recCells r p).toArray 51)).cell? ((⟨H, 0, none⟩ : Addr).add j) = some u := by
  subst hH
  exact World.news_of_block (heap_alloc_new _ _)

/-- w1 is w with n new blocks, the old ones as they were. -/
structure Newer (w w1 : World) : Prop where
  os : w1.os = w.os
  tape : w1.tape = w.tape
  output : w1.output = w.output
  size : w.heap.size ≤ w1.heap.size
  block : ∀ k, k < w.heap.size → w1.heap[k]? = w.heap[k]?

theorem Newer.refl (w : World) : Newer w w := ⟨rfl, rfl, rfl, Nat.le_refl _, fun _ _ => rfl⟩
theorem Newer.alloc {w w1 : World} (h : Newer w w1) (o : Obj) : Newer w (w1.alloc o) :=
  ⟨h.os, h.tape, h.output, Nat.le_trans h.size (by simp), fun k hk => (Below.heap_alloc w1 o k (Nat.lt_of_lt_of_le hk h.size)).trans (h.block k hk)⟩
theorem Newer.drew {w w1 : World} (h : Newer w w1) : Newer w w1.drew := ⟨h.os, h.tape, h.output, h.size, h.block⟩
theorem Newer.setCell {w w1 : World} (h : Newer w w1) {a : Addr} (ha : w.heap.size ≤ a.block) (v : Value) : Newer w (w1.setCell a v) :=
  ⟨h.os, h.tape, h.output, by simpa using h.size, fun k hk => (Below.heap_setCell w1 a v k (by omega)).trans (h.block k hk)⟩
theorem Newer.grown {w w1 w2 : World} {row : Option Nat} (h : Newer w w1) (hg : w1.grownBy w2 row) : w.grownBy w2 row :=
  ⟨hg.os.trans h.os, hg.tape.trans h.tape, hg.output.trans h.output, Nat.le_trans h.size hg.size, fun k hk hne => (hg.block k (Nat.lt_of_lt_of_le hk h.size) hne).trans (h.block k hk)⟩

theorem map_snoc {items : List (R × Option Addr)} {rs : List R} {k : Nat} {r : R} {p : Option Addr} (h : items.map (·.1) = rs.take k) (hr : rs[k]? = some r) : (items ++ [(r, p)]).map (·.1) = rs.take (k + 1) := by
  obtain ⟨hk, e⟩ := List.getElem?_eq_some_iff.1 hr
  rw [List.take_succ_eq_append_getElem hk, e, List.map_append, h]
  rfl

theorem kept_snoc {w : World} {g : Nat} {items : List (R × Option Addr)} {it : R × Option Addr} (h : ∀ x ∈ items, KeptOff w g x) (hi : KeptOff w g it) : ∀ x ∈ items ++ [it], KeptOff w g x := by
  intro x hx
  rcases List.mem_append.1 hx with hx | hx
  · exact h x hx
  · rw [List.mem_singleton.1 hx]; exact hi

set_option maxHeartbeats 1000000 in
/-- toRecords. -/
theorem tr_calls {a : Option Addr} {len cap : Nat} {rs : List R} {w : World} (h : Recs w a len rs) (hlen : len ≤ 4096) :
    Calls Try.prog 13 #[.slice a len cap] w fun e w' => ∃ items : List (R × Option Addr), e = .returned (.slice (some ⟨w.heap.size, 0, none⟩) len len) ∧ items.map (·.1) = rs ∧
      w'.ownsRow w.heap.size 51 10 (.slice (some ⟨w.heap.size, 0, none⟩) len len) len (items.flatMap rc) ∧ (∀ it ∈ items, KeptOff w' w.heap.size it) ∧ Below w.heap.size w w' := by
  obtain ⟨i0, hi, hz0, hz1, hz2⟩ := info_parts info51
  have HL : Hid (rs.length = len) := h.1
  go_enter Try.func13, Try.ntmps13
  go_wp2_with (at_make; refine wpList_make_own _ rfl _ _ 27 rfl w.heap.size 51 i0 _ 10 Try.underlying27 hi hz0 hz1 _ _ _ len rfl rfl rfl (by rw [hz2]; omega) (by unfold maxLen; omega) (Nat.le_refl _) ?_)
  intro w0 hown0 hgrow0
  have B0 : Below w.heap.size w w0 := (Below.refl w.heap.size w).grown hgrow0 (Nat.le_refl _) (fun k hk => by cases hk)
  have HO0 : Hid (w0.ownsRow w.heap.size 51 10 (.slice (some ⟨w.heap.size, 0, none⟩) 0 len) 0 []) := hown0
  clear hown0 hgrow0
  go_wp2
  go_loopw [3, 4] (fun v i wr => ∃ (k : Nat) (items : List (R × Option Addr)), k ≤ len ∧ i = .int .i64 k ∧ v = .slice (some ⟨w.heap.size, 0, none⟩) k len ∧ items.map (·.1) = rs.take k ∧
      wr.ownsRow w.heap.size 51 10 (.slice (some ⟨w.heap.size, 0, none⟩) k len) k (items.flatMap rc) ∧ (∀ it ∈ items, KeptOff wr w.heap.size it) ∧ Below w.heap.size w wr) (fun _ i _ => len - (intOf i).toNat)
  case atStart => exact ⟨0, [], Nat.zero_le _, rfl, rfl, rfl, HO0.out, by simp, B0⟩
  case round =>
    clear HO0 B0
    obtain ⟨k, items, hk, rfl, rfl, hmap, hown, hkept, hbel⟩ := hrel
    have HMAP : Hid (items.map (·.1) = rs.take k) := hmap
    have HOWN : Hid (wr.ownsRow w.heap.size 51 10 (.slice (some ⟨w.heap.size, 0, none⟩) k len) k (items.flatMap rc)) := hown
    have HKEPT : Hid (∀ it ∈ items, KeptOff wr w.heap.size it) := hkept
    clear hmap hown hkept
    by_cases hlt : k < len
    · obtain ⟨b, o, r, rfl, hr, hc⟩ := h.at hlt
      obtain ⟨c0, c1, c2, c3, c4, _, _, _, _⟩ := hc.later hbel
      have hbw : b < w.heap.size := cell_lt hc.1
      have hws : w.heap.size ≤ wr.heap.size := hbel.size
      have HR : Hid (rs[k]? = some r) := hr
      have hltI : (k : Int) < (len : Int) := by omega
      have hbr : b < wr.heap.size := by omega
      have hbn : ¬ wr.heap.size = b := by omega
      clear h hc hr
      obtain ⟨id, rel, has, iid, irel⟩ := r
      simp only at c0 c1 c2 c3 c4
      cases has with
      | false =>
        go_wp2
        go_region
        go_wp2_with (at_builtin; refine wpList_append_fits _ rfl (.tmp 44) (.tmp 46) 27 rfl w.heap.size 51 i0 10 Try.underlying27 hi hz1 w.heap.size k len _ rfl (World.ownsRow.drew ((HOWN.out.alloc _).alloc _)) ⟨wr.heap.size + 1, 0, none⟩ 1 1 (rc (⟨id, rel, false, iid, irel⟩, none)) rfl rfl ?c1 (rc_one _) (by omega) ?_)
        case c1 => exact rec_at_append (w := wr.alloc _) (by simp) _ _
        intro w4 hown4 hgrow4
        have hgA : wr.grownBy w4 (some w.heap.size) := (((Newer.refl wr).alloc _).alloc _).drew.grown hgrow4
        have HK4 := kept_snoc (fun x hx => kept_grown (HKEPT.out x hx) hgA) (show KeptOff w4 w.heap.size (⟨id, rel, false, iid, irel⟩, none) from ⟨.inl ⟨rfl, rfl⟩, fun a ha => by cases ha⟩)
        have HM4 : Hid _ := map_snoc (p := none) HMAP.out HR.out
        have HO4 : Hid (w4.ownsRow w.heap.size 51 10 (.slice (some ⟨w.heap.size, 0, none⟩) (k + 1) len) (k + 1) ((items ++ [((⟨id, rel, false, iid, irel⟩ : R), (none : Option Addr))]).flatMap rc)) := by
          show World.ownsRow _ _ _ _ _ _ _
          rw [List.flatMap_append]
          simpa using hown4
        have HB4 := hbel.grown hgA hws (fun k hk => by cases hk; exact Nat.le_refl _)
        have HK4' : Hid _ := HK4
        clear HK4 hown4 hgrow4 hgA HMAP HOWN HKEPT hbel c0 c1 c2 c3 c4
        go_wp2
        go_roundw
        case rel => exact ⟨k + 1, _, by omega, by go_num, rfl, HM4.out, HO4.out, HK4'.out, HB4⟩
        case measure => simp [intOf]; omega
      | true =>
        go_wp2
        go_region
        go_wp2
        go_region
        go_wp2_with (at_builtin; refine wpList_append_fits _ rfl (.tmp 44) (.tmp 46) 27 rfl w.heap.size 51 i0 10 Try.underlying27 hi hz1 w.heap.size k len _ rfl (World.ownsRow.drew (World.ownsRow.drew (((HOWN.out.alloc _).alloc _).alloc _))) ⟨wr.heap.size + 2, 0, none⟩ 1 1 (rc (⟨id, rel, true, iid, irel⟩, some ⟨wr.heap.size + 1, 0, none⟩)) rfl rfl ?c2 (rc_one _) (by omega) ?_)
        case c2 => exact rec_at_append (w := (wr.alloc _).alloc _) (by simp) _ _
        intro w4 hown4 hgrow4
        have hgA : wr.grownBy w4 (some w.heap.size) := ((((Newer.refl wr).alloc _).alloc _).alloc _).drew.drew.grown hgrow4
        have hq0 : w4.cell? ⟨wr.heap.size + 1, 0, none⟩ = some (.int .u32 iid) := by
          rw [World.grownBy.cell_far hgrow4 _ (by simp) (by simp; omega)]
          rw [World.cell?_drew, World.cell?_drew, World.cell?_alloc_past _ _ _ (by simp), World.cell?_alloc_at _ _ _ _ (by simp)]
          rfl
        have hq1 : w4.cell? ⟨wr.heap.size + 1, 1, none⟩ = some (.string irel) := by
          rw [World.grownBy.cell_far hgrow4 _ (by simp) (by simp; omega)]
          rw [World.cell?_drew, World.cell?_drew, World.cell?_alloc_past _ _ _ (by simp), World.cell?_alloc_at _ _ _ _ (by simp)]
          rfl
        have HK4 := kept_snoc (fun x hx => kept_grown (HKEPT.out x hx) hgA) (show KeptOff w4 w.heap.size (⟨id, rel, true, iid, irel⟩, some ⟨wr.heap.size + 1, 0, none⟩) from ⟨.inr ⟨rfl, _, rfl, hq0, hq1⟩, fun a ha => by cases ha; show wr.heap.size + 1 ≠ w.heap.size; omega⟩)
        have HM4 : Hid _ := map_snoc (p := some ⟨wr.heap.size + 1, 0, none⟩) HMAP.out HR.out
        have HO4 : Hid (w4.ownsRow w.heap.size 51 10 (.slice (some ⟨w.heap.size, 0, none⟩) (k + 1) len) (k + 1) ((items ++ [((⟨id, rel, true, iid, irel⟩ : R), (some ⟨wr.heap.size + 1, 0, none⟩ : Option Addr))]).flatMap rc)) := by
          show World.ownsRow _ _ _ _ _ _ _
          rw [List.flatMap_append]
          simpa using hown4
        have HB4 := hbel.grown hgA hws (fun k hk => by cases hk; exact Nat.le_refl _)
        have HK4' : Hid _ := HK4
        clear HK4 hown4 hgrow4 hgA HMAP HOWN HKEPT hbel c0 c1 c2 c3 c4 hq0 hq1
        go_wp2
        go_roundw
        case rel => exact ⟨k + 1, _, by omega, by go_num, rfl, HM4.out, HO4.out, HK4'.out, HB4⟩
        case measure => simp [intOf]; omega
    · obtain rfl : k = len := by omega
      clear h
      go_wp2
      go_ret
      exact ⟨items, rfl, by have h := HMAP.out; rwa [List.take_of_length_le (by rw [HL.out]; exact Nat.le_refl _)] at h, HOWN.out, HKEPT.out, hbel⟩

end Go.Proofs.Qxb6600329a.Tab
