import Derived.Test.Qxb6600388aBase
import Derived.Test.Qxb6600388aCode
import Derived.Laws.BitsAllLaws
namespace Go.Proofs.Qxb6600388a
open Go.RowKit

theorem bits_or5 (a b : Nat) (ha : a ≤ 7) (hb : b < 32) : bits .or .u8 ((a : Int) * 32) (b : Int) = ((a * 32 + b : Nat) : Int) := by
  have := u8_or_nat (a * 32) b (by omega) (by omega)
  rw [Code.or_small a b hb] at this
  rw [← this]
  congr 1

theorem bits_and255 (a : Nat) (ha : a < 18446744073709551616) : bits .and .u64 (a : Int) 255 = ((a % 256 : Nat) : Int) := by
  have := u64_and_nat a 255 ha (by omega)
  rw [Code.and_255] at this
  exact this

set_option maxHeartbeats 400000 in
/-- ldgB1ArgBytes, at 24 to 27. -/
theorem ab_calls (n k : Int) (w : World) (h : (n = 24 ∧ k = 1) ∨ (n = 25 ∧ k = 2) ∨ (n = 26 ∧ k = 4) ∨ (n = 27 ∧ k = 8)) :
    Calls Try.prog 24 #[.int .u8 n] w fun e w' => e = .returned (.int .i64 k) ∧ w = w' := by
  rcases h with ⟨rfl, rfl⟩ | ⟨rfl, rfl⟩ | ⟨rfl, rfl⟩ | ⟨rfl, rfl⟩ <;>
  · go_enter Try.func24, Try.ntmps24
    go_wp2
    go_ret
    exact ⟨rfl, rfl⟩

set_option maxHeartbeats 400000 in
theorem eh_zero (major v : Nat) (w : World) (hm : major ≤ 7) (hv : v < 24) :
    Calls Try.prog 11 #[.int .u8 major, .int .u8 0, .int .u64 v] w fun e w' => e = .returned (.slice (some ⟨w.heap.size, 0, none⟩) 1 1) ∧ Bts w' (some ⟨w.heap.size, 0, none⟩) 1 [((major * 32 + v : Nat) : Int)] ∧ Below w.heap.size w w' := by
  have hmk : ∀ w, (Instr.makeSlice 23 (.int .i64 1) (.int .i64 1)).run Try.prog w = .ok (.slice (some ⟨w.heap.size, 0, none⟩) 1 1) (w.alloc (.cells #[.int .u8 0] 5)) := fun _ => by kernel_rfl
  have hb := bits_or5 major v hm (by omega)
  obtain ⟨x, hx⟩ : ∃ x : Int, x = ((major * 32 + v : Nat) : Int) := ⟨_, rfl⟩
  rw [← hx] at hb ⊢
  have HX : Hid (x = ((major * 32 + v : Nat) : Int)) := hx
  clear hx
  go_enter Try.func11, Try.ntmps11
  go_wp2
  go_ret
  refine ⟨rfl, ⟨rfl, ?_, .inr ⟨w.heap.size, 0, rfl, fun i hi => ?_⟩⟩, (Below.refl _ _).alloc (Nat.le_refl _) _⟩
  · intro z hz
    rw [List.mem_singleton.1 hz, HX.out]
    omega
  · obtain rfl : i = 0 := by omega
    rw [World.cell?_alloc_at _ _ _ _ rfl]
    rfl

/-- What the row holds while the argument is written from its end: bytes behind place t are done. -/
def encF (h0 : Int) (l : List Int) (t : Nat) (j : Nat) : Value := if j = 0 then .int .u8 h0 else if t < j then .int .u8 (l.getD (j - 1) 0) else .int .u8 0

theorem encF_step {w : World} {g n t : Nat} {h0 : Int} {l : List Int} (ht : 0 < t) (h : w.rowIs g 5 n (encF h0 l t)) : (w.setCell ⟨g, t, none⟩ (.int .u8 (l.getD (t - 1) 0))).rowIs g 5 n (encF h0 l (t - 1)) := by
  refine (h.set t _).congr fun j _ => ?_
  unfold encF
  by_cases e : j = t
  · subst e
    rw [if_pos rfl, if_neg (by omega), if_pos (by omega)]
  · rw [if_neg e]
    by_cases h0 : j = 0
    · rw [if_pos h0, if_pos h0]
    · rw [if_neg h0, if_neg h0]
      by_cases h1 : t < j
      · rw [if_pos h1, if_pos (by omega)]
      · rw [if_neg h1, if_neg (by omega)]

theorem bts_encF {w : World} {g n : Nat} {h0 : Int} {l : List Int} (h : w.rowIs g 5 (1 + n) (encF h0 l 0)) (hl : l.length = n) (hr : ∀ z ∈ h0 :: l, 0 ≤ z ∧ z ≤ 255) : Bts w (some ⟨g, 0, none⟩) (1 + n) (h0 :: l) := by
  refine ⟨by simp [hl]; omega, hr, .inr ⟨g, 0, rfl, fun i hi => ?_⟩⟩
  rw [Nat.zero_add, h.cell hi, encF]
  cases i with
  | zero => simp [List.getD]
  | succ i => simp [List.getD]

theorem made0 (k : Nat) : (madeCells #[Value.int .u8 0] (1 + k))[0]? = some (.int .u8 0) := by
  have h : 0 < 1 + k := by omega
  simp [madeCells, h]

theorem row_start (w : World) (k : Nat) (x : Int) (l : List Int) : (w.alloc (.cells ((madeCells #[Value.int .u8 0] (1 + k)).setIfInBounds 0 (.int .u8 x)) 5)).rowIs w.heap.size 5 (1 + k) (encF x l k) := by
  refine ⟨_, Deep.blk_alloc_new _ _, by simp [size_madeCells], fun i hi => ?_⟩
  rw [Array.getElem?_setIfInBounds]
  by_cases h : 0 = i
  · subst h
    simp [size_madeCells, encF]
  · rw [if_neg h]
    have h1 : ¬ i = 0 := fun e => h e.symm
    have h2 : ¬ k < i := by omega
    simp [madeCells, hi, Nat.mod_one, encF, h1, h2]

set_option maxHeartbeats 1000000 in
theorem eh_pos (major wd k v : Nat) (w : World) (hm : major ≤ 7) (hwk : (wd = 1 ∧ k = 1) ∨ (wd = 2 ∧ k = 2) ∨ (wd = 3 ∧ k = 4) ∨ (wd = 4 ∧ k = 8)) (hv : v < 18446744073709551616) :
    Calls Try.prog 11 #[.int .u8 major, .int .u8 wd, .int .u64 v] w fun e w' => e = .returned (.slice (some ⟨w.heap.size, 0, none⟩) (1 + k) (1 + k)) ∧ Bts w' (some ⟨w.heap.size, 0, none⟩) (1 + k) (((major * 32 + (23 + wd) : Nat) : Int) :: Code.be k v) ∧ Below w.heap.size w w' := by
  have hw1 : 1 ≤ wd := by omega
  have hw4 : wd ≤ 4 := by omega
  have hk1 : 1 ≤ k := by omega
  have hk8 : k ≤ 8 := by omega
  have hmk := run_make_row' (P := Try.prog) 23 5 (.int .u8 0) 1 Try.underlying23 info5 rfl .i64 .i64 (1 + k) (by omega) (by omega)
  rw [show ((1 + k : Nat) : Int) = 1 + (k : Int) from by omega] at hmk
  have hb := bits_or5 major (23 + wd) hm (by omega)
  rw [show ((23 + wd : Nat) : Int) = 23 + (wd : Int) from by omega] at hb
  obtain ⟨x, hx⟩ : ∃ x : Int, x = ((major * 32 + (23 + wd) : Nat) : Int) := ⟨_, rfl⟩
  rw [← hx] at hb ⊢
  have HX : Hid (0 ≤ x ∧ x ≤ 255) := by rw [hx]; show _ ∧ _; omega
  have HAB : Hid (((23 + (wd : Int)) = 24 ∧ (k : Int) = 1) ∨ ((23 + (wd : Int)) = 25 ∧ (k : Int) = 2) ∨ ((23 + (wd : Int)) = 26 ∧ (k : Int) = 4) ∨ ((23 + (wd : Int)) = 27 ∧ (k : Int) = 8)) := by show _ ∨ _; omega
  clear hx hwk
  go_enter Try.func11, Try.ntmps11
  go_wp2_with fail
  refine (ab_calls _ (k : Int) _ HAB.out).mono ?_
  rintro e w' ⟨rfl, rfl⟩
  clear HAB
  have hm0 := made0 k
  have HROW := row_start w k x (Code.be k v)
  have HROW0 : Hid _ := HROW
  clear HROW
  go_wp2
  clear hmk hb hm0
  go_loopw [10, 11] (fun a i wr => ∃ t r : Nat, t ≤ k ∧ a = .int .u64 r ∧ i = .int .i64 t ∧ r < 18446744073709551616 ∧ Hid (r = v / 256 ^ (k - t)) ∧ wr.rowIs w.heap.size 5 (1 + k) (encF x (Code.be k v) t) ∧ Below w.heap.size w wr) (fun _ i _ => (intOf i).toNat)
  case atStart => exact ⟨k, v, Nat.le_refl _, rfl, rfl, hv, by simp [Hid], HROW0.out, (Below.refl _ _).alloc (Nat.le_refl _) _⟩
  case round =>
    obtain ⟨t, r, ht, rfl, rfl, hr, HRV, hrow, hbel⟩ := hrel
    clear HROW0
    by_cases ht1 : 1 ≤ t
    · have hand := bits_and255 r hr
      obtain ⟨y, hy⟩ : ∃ y : Nat, y = r % 256 := ⟨_, rfl⟩
      rw [← hy] at hand
      have hy255 : y ≤ 255 := by omega
      have HY : Hid ((y : Int) = (Code.be k v).getD (t - 1) 0) := by
        show _ = _
        rw [Code.be_get k v (t - 1) (by omega), hy, HRV.out, show k - 1 - (t - 1) = k - t by omega]
      obtain ⟨v0, hv0⟩ : ∃ v0, wr.cell? ⟨w.heap.size, t, none⟩ = some v0 := ⟨_, hrow.cell (by omega)⟩
      have hf0 : wr.frozen? ⟨w.heap.size, t, none⟩ = false := hrow.frozen t
      have HR : Hid ((wr.setCell ⟨w.heap.size, t, none⟩ (.int .u8 y)).rowIs w.heap.size 5 (1 + k) (encF x (Code.be k v) (t - 1))) := by rw [HY.out]; exact encF_step (by omega) hrow
      clear hrow hy
      go_wp2
      go_roundw
      case rel =>
        refine ⟨t - 1, r / 256, by omega, by go_num, by go_num, by omega, ?_, HR.out, hbel.setCell (Nat.le_refl _) _⟩
        show r / 256 = v / 256 ^ (k - (t - 1))
        rw [HRV.out, Nat.div_div_eq_div_mul, show k - (t - 1) = (k - t) + 1 by omega, Nat.pow_succ]
      case measure => simp [intOf]; omega
    · obtain rfl : t = 0 := by omega
      have HB : Hid (Bts wr (some ⟨w.heap.size, 0, none⟩) (1 + k) (x :: Code.be k v)) := bts_encF hrow (Code.length_be k v) (fun z hz => by
        rcases List.mem_cons.1 hz with rfl | hz
        · exact HX.out
        · exact Code.range_be k v z hz)
      clear hrow
      go_wp2
      go_ret
      exact ⟨rfl, HB.out, hbel⟩

/-- ldgB1EncodeHead. -/
theorem eh_calls (major wd v : Nat) (w : World) (hm : major ≤ 7) (h : Code.Fits wd v) :
    Calls Try.prog 11 #[.int .u8 major, .int .u8 wd, .int .u64 v] w fun e w' => e = .returned (.slice (some ⟨w.heap.size, 0, none⟩) (1 + Code.argLen wd) (1 + Code.argLen wd)) ∧ Bts w' (some ⟨w.heap.size, 0, none⟩) (1 + Code.argLen wd) (Code.encHead major wd v) ∧ Below w.heap.size w w' := by
  by_cases h0 : wd = 0
  · subst h0
    exact eh_zero major v w hm (by unfold Code.Fits at h; omega)
  · have e : Code.encHead major wd v = ((major * 32 + (23 + wd) : Nat) : Int) :: Code.be (Code.argLen wd) v := by rw [Code.encHead, if_neg h0]
    rw [e]
    refine eh_pos major wd (Code.argLen wd) v w hm ?_ h.lt
    have hl := h.le
    unfold Code.argLen
    rw [if_neg h0]
    have : wd = 1 ∨ wd = 2 ∨ wd = 3 ∨ wd = 4 := by omega
    rcases this with rfl | rfl | rfl | rfl <;> simp

end Go.Proofs.Qxb6600388a
