import Derived.Test.Qxb6600388aRows
import Derived.WalkKit
import Derived.WalkSpells
import Derived.WalkLawsBesides
import Derived.Outline
import Derived.Deep.QuietTactic
import Derived.BigQuiet
import Derived.Deep.OwnRows
import Derived.OneCell
import Derived.ProofKit
import Derived.OpenShut
import Derived.ShutString
import Derived.ChangeOld
namespace Go.Proofs.Qxb6600388a
open Go.RowKit Go.ChangeShapes

theorem info5 : (Try.prog.info? 5).map (fun i => (i.zero, i.size, i.bytes)) = some (some (.int .u8 0), 1, 1) := by kernel_rfl

def isBool (e : Ending) : Prop := ∃ r, e = .returned (.bool r)

/-- What the walks are told of a []byte: its bytes are zs. -/
def Bts (w : World) (a : Option Addr) (len : Nat) (zs : List Int) : Prop :=
  zs.length = len ∧ (∀ z ∈ zs, 0 ≤ z ∧ z ≤ 255) ∧ (len = 0 ∨ ∃ b o, a = some ⟨b, o, none⟩ ∧ ∀ i, i < len → w.cell? ⟨b, o + i, none⟩ = some (.int .u8 (zs.getD i 0)))

theorem cell_lt {w : World} {b o : Nat} {v : Value} (h : w.cell? ⟨b, o, none⟩ = some v) : b < w.heap.size := by
  apply Decidable.byContradiction
  intro hn
  have : w.heap[b]? = none := Array.getElem?_eq_none (by omega)
  simp [World.cell?, this] at h

theorem Bts.later {w w2 : World} {a : Option Addr} {len : Nat} {zs : List Int} (h : Bts w a len zs) (hb : Below w.heap.size w w2) : Bts w2 a len zs := by
  obtain ⟨hl, hr, h0 | ⟨b, o, rfl, hc⟩⟩ := h
  · exact ⟨hl, hr, .inl h0⟩
  · exact ⟨hl, hr, .inr ⟨b, o, rfl, fun i hi => (hb.cell (cell_lt (hc i hi))).trans (hc i hi)⟩⟩

theorem Bts.drewN {w : World} {a : Option Addr} {len : Nat} {zs : List Int} (h : Bts w a len zs) (n : Nat) : Bts (w.drewN n) a len zs := h

theorem Bts.at {w : World} {a : Option Addr} {len : Nat} {zs : List Int} (h : Bts w a len zs) {k : Nat} (hk : k < len) :
    ∃ b o, a = some ⟨b, o, none⟩ ∧ w.cell? ⟨b, o + k, none⟩ = some (.int .u8 (zs.getD k 0)) ∧ b < w.heap.size ∧ 0 ≤ zs.getD k 0 ∧ zs.getD k 0 ≤ 255 := by
  obtain ⟨hl, hr, h0 | ⟨b, o, rfl, hc⟩⟩ := h
  · omega
  · have hm : zs.getD k 0 ∈ zs := by
      have hk' : k < zs.length := by omega
      simp [List.getD, hk']
    exact ⟨b, o, rfl, hc k hk, cell_lt (hc k hk), hr _ hm⟩

/-- A row whose first k cells hold zs's bytes, the rest nought. -/
def upTo (zs : List Int) (k : Nat) (j : Nat) : Value := if j < k then .int .u8 (zs.getD j 0) else .int .u8 0

theorem row_step {w : World} {g n k : Nat} {zs : List Int} (h : w.rowIs g 5 n (upTo zs k)) : (w.setCell ⟨g, k, none⟩ (.int .u8 (zs.getD k 0))).rowIs g 5 n (upTo zs (k + 1)) := by
  refine (h.set k _).congr fun j _ => ?_
  unfold upTo
  by_cases e : j = k
  · subst e; simp
  · rw [if_neg e]
    by_cases h1 : j < k
    · rw [if_pos h1, if_pos (by omega)]
    · rw [if_neg h1, if_neg (by omega)]

theorem bts_row {w : World} {g n : Nat} {zs : List Int} (h : w.rowIs g 5 n (upTo zs n)) (hl : zs.length = n) (hr : ∀ z ∈ zs, 0 ≤ z ∧ z ≤ 255) : Bts w (some ⟨g, 0, none⟩) n zs :=
  ⟨hl, hr, .inr ⟨g, 0, rfl, fun i hi => by rw [Nat.zero_add, h.cell hi, upTo, if_pos hi]⟩⟩

set_option maxHeartbeats 400000 in
theorem cl_nil (w : World) (cap : Nat) : Calls Try.prog 10 #[.slice none 0 cap] w fun e w' => e = .returned (.slice none 0 0) ∧ w = w' := by
  have q : ∀ (w : World) (a : Option Addr) (n c n' c' : Nat), (binOp .eql 23 (.slice a n c) (.slice none n' c')).run Try.prog w = .ok (.bool a.isNone) w := fun w a n c n' c' => Lib.run_eql_slice_nil w 23 5 a n c n' c' Try.underlying23
  go_enter Try.func10, Try.ntmps10
  go_wp2
  go_ret
  exact ⟨rfl, rfl⟩

set_option maxHeartbeats 400000 in
theorem cl_some (ad : Addr) (len cap : Nat) (zs : List Int) (w : World) (h : Bts w (some ad) len zs) (hm : len ≤ 1048576) :
    Calls Try.prog 10 #[.slice (some ad) len cap] w fun e w' => e = .returned (.slice (some ⟨w.heap.size, 0, none⟩) len len) ∧ Bts w' (some ⟨w.heap.size, 0, none⟩) len zs ∧ Below w.heap.size w w' := by
  have hmk := run_make_row' (P := Try.prog) 23 5 (.int .u8 0) 1 Try.underlying23 info5 rfl .i64 .i64 len (by omega) (by omega)
  have q : ∀ (w : World) (a : Option Addr) (n c n' c' : Nat), (binOp .eql 23 (.slice a n c) (.slice none n' c')).run Try.prog w = .ok (.bool a.isNone) w := fun w a n c n' c' => Lib.run_eql_slice_nil w 23 5 a n c n' c' Try.underlying23
  have hrow0 : Hid ((w.alloc (.cells (madeCells #[.int .u8 0] len) 5)).rowIs w.heap.size 5 len (upTo zs 0)) := (World.rowIs_made w (.int .u8 0) len 5).congr (fun i _ => by simp [upTo])
  go_enter Try.func10, Try.ntmps10
  go_wp2
  clear hmk q
  go_loopw [4] (fun i wr => ∃ k : Nat, k ≤ len ∧ i = .int .i64 k ∧ wr.rowIs w.heap.size 5 len (upTo zs k) ∧ Below w.heap.size w wr) (fun i _ => len - (intOf i).toNat)
  case atStart => exact ⟨0, Nat.zero_le _, rfl, hrow0.out, (Below.refl _ _).alloc (Nat.le_refl _) _⟩
  case round =>
    obtain ⟨k, hk, rfl, hrow, hbel⟩ := hrel
    clear hrow0
    by_cases hlt : k < len
    · obtain ⟨b, o, e, hc, hbw, _, _⟩ := h.at hlt
      cases e
      obtain ⟨x, hxn⟩ : ∃ s, s = zs.getD k 0 := ⟨_, rfl⟩
      have hcx : wr.cell? ⟨b, o + k, none⟩ = some (.int .u8 x) := by rw [hxn]; exact (hbel.cell (by exact hbw)).trans hc
      obtain ⟨v0, hv0⟩ : ∃ v0, wr.cell? ⟨w.heap.size, k, none⟩ = some v0 := ⟨_, hrow.cell hlt⟩
      have hf0 : wr.frozen? ⟨w.heap.size, k, none⟩ = false := hrow.frozen k
      have HR : Hid ((wr.setCell ⟨w.heap.size, k, none⟩ (.int .u8 x)).rowIs w.heap.size 5 len (upTo zs (k + 1))) := by rw [hxn]; exact row_step hrow
      clear hxn hrow hc h
      go_wp2
      go_roundw
      case rel => exact ⟨k + 1, by omega, by go_num, HR.out, hbel.setCell (Nat.le_refl _) _⟩
      case measure => simp [intOf]; omega
    · obtain rfl : k = len := by omega
      have HB : Hid (Bts wr (some ⟨w.heap.size, 0, none⟩) k zs) := bts_row hrow h.1 h.2.1
      clear h hrow
      go_wp2
      go_ret
      exact ⟨rfl, HB.out, hbel⟩

/-- ldgB1Clone. -/
theorem cl_calls {a : Option Addr} {len cap : Nat} {zs : List Int} {w : World} (h : Bts w a len zs) (hnil : a = none → len = 0 ∧ cap = 0) (hm : len ≤ 1048576) :
    Calls Try.prog 10 #[.slice a len cap] w fun e w' => ∃ a' cap', e = .returned (.slice a' len cap') ∧ Bts w' a' len zs ∧ (a' = none → cap' = 0) ∧ (a' = none ↔ a = none) ∧ len ≤ cap' ∧ cap' ≤ 1048576 ∧ Below w.heap.size w w' := by
  cases a with
  | none =>
    obtain ⟨rfl, rfl⟩ := hnil rfl
    refine (cl_nil w 0).mono ?_
    rintro e w' ⟨rfl, rfl⟩
    exact ⟨none, 0, rfl, h, fun _ => rfl, Iff.rfl, Nat.le_refl _, by omega, Below.refl _ _⟩
  | some ad =>
    refine (cl_some ad len cap zs w h hm).mono ?_
    rintro e w' ⟨rfl, hb, hbel⟩
    exact ⟨_, len, rfl, hb, fun h => (by cases h), by simp, Nat.le_refl _, hm, hbel⟩

theorem getD_left {xs ys : List Int} {k : Nat} (h : k < xs.length) : (xs ++ ys).getD k 0 = xs.getD k 0 := by
  simp [List.getD, List.getElem?_append_left h]

theorem getD_right {xs ys : List Int} {k : Nat} : (xs ++ ys).getD (xs.length + k) 0 = ys.getD k 0 := by
  simp [List.getD, List.getElem?_append_right (Nat.le_add_right _ _)]

set_option maxHeartbeats 1000000 in
/-- ldgB1Concat. -/
theorem cc_calls {a b : Option Addr} {la ca lb cb : Nat} {xs ys : List Int} {w : World} (ha : Bts w a la xs) (hb : Bts w b lb ys) (hm : la ≤ 4194304) (hm' : lb ≤ 4194304) :
    Calls Try.prog 12 #[.slice a la ca, .slice b lb cb] w fun e w' => e = .returned (.slice (some ⟨w.heap.size, 0, none⟩) (la + lb) (la + lb)) ∧ Bts w' (some ⟨w.heap.size, 0, none⟩) (la + lb) (xs ++ ys) ∧ Below w.heap.size w w' := by
  have hmk := run_make_row' (P := Try.prog) 23 5 (.int .u8 0) 1 Try.underlying23 info5 rfl .i64 .i64 (la + lb) (by omega) (by omega)
  rw [show ((la + lb : Nat) : Int) = (la : Int) + (lb : Int) from by omega] at hmk
  have hrow0 : Hid ((w.alloc (.cells (madeCells #[.int .u8 0] (la + lb)) 5)).rowIs w.heap.size 5 (la + lb) (upTo (xs ++ ys) 0)) := (World.rowIs_made w (.int .u8 0) (la + lb) 5).congr (fun i _ => by simp [upTo])
  have HX : Hid (xs.length = la) := ha.1
  go_enter Try.func12, Try.ntmps12
  go_wp2
  clear hmk
  go_loopw [6] (fun i wr => ∃ k : Nat, k ≤ la ∧ i = .int .i64 k ∧ wr.rowIs w.heap.size 5 (la + lb) (upTo (xs ++ ys) k) ∧ Below w.heap.size w wr) (fun i _ => la - (intOf i).toNat)
  case atStart => exact ⟨0, Nat.zero_le _, rfl, hrow0.out, (Below.refl _ _).alloc (Nat.le_refl _) _⟩
  case round =>
    obtain ⟨k, hk, rfl, hrow, hbel⟩ := hrel
    clear hrow0
    by_cases hlt : k < la
    · obtain ⟨bk, o, rfl, hc, hbw, _, _⟩ := ha.at hlt
      obtain ⟨x, hxn⟩ : ∃ s, s = xs.getD k 0 := ⟨_, rfl⟩
      have hcx : wr.cell? ⟨bk, o + k, none⟩ = some (.int .u8 x) := by rw [hxn]; exact (hbel.cell (by exact hbw)).trans hc
      obtain ⟨v0, hv0⟩ : ∃ v0, wr.cell? ⟨w.heap.size, k, none⟩ = some v0 := ⟨_, hrow.cell (by omega)⟩
      have hf0 : wr.frozen? ⟨w.heap.size, k, none⟩ = false := hrow.frozen k
      have HR : Hid ((wr.setCell ⟨w.heap.size, k, none⟩ (.int .u8 x)).rowIs w.heap.size 5 (la + lb) (upTo (xs ++ ys) (k + 1))) := by
        rw [hxn, ← getD_left (ys := ys) (by rw [HX.out]; exact hlt)]; exact row_step hrow
      clear hxn hrow hc ha hb
      go_wp2
      go_roundw
      case rel => exact ⟨k + 1, by omega, by go_num, HR.out, hbel.setCell (Nat.le_refl _) _⟩
      case measure => simp [intOf]; omega
    · obtain rfl : k = la := by omega
      have HA2 : Hid (∀ z ∈ xs, 0 ≤ z ∧ z ≤ 255) := ha.2.1
      clear ha
      have HROW : Hid (wr.rowIs w.heap.size 5 (k + lb) (upTo (xs ++ ys) k)) := hrow
      clear hrow
      go_wp2
      obtain ⟨wo, rfl⟩ : ∃ wo : World, wo = wr := ⟨_, rfl⟩
      go_loopw [7] (fun i wr => ∃ j : Nat, j ≤ lb ∧ i = .int .i64 j ∧ wr.rowIs w.heap.size 5 (k + lb) (upTo (xs ++ ys) (k + j)) ∧ Below w.heap.size w wr) (fun i _ => lb - (intOf i).toNat)
      case atStart => exact ⟨0, Nat.zero_le _, rfl, HROW.out, hbel⟩
      case round =>
        clear HROW hbel
        obtain ⟨j, hj, rfl, hrow, hbel⟩ := hrel
        by_cases hlt2 : j < lb
        · obtain ⟨bk, o, rfl, hc, hbw, _, _⟩ := hb.at hlt2
          obtain ⟨x, hxn⟩ : ∃ s, s = ys.getD j 0 := ⟨_, rfl⟩
          have hcx : wr.cell? ⟨bk, o + j, none⟩ = some (.int .u8 x) := by rw [hxn]; exact (hbel.cell (by exact hbw)).trans hc
          obtain ⟨v0, hv0⟩ : ∃ v0, wr.cell? ⟨w.heap.size, k + j, none⟩ = some v0 := ⟨_, hrow.cell (by omega)⟩
          have hf0 : wr.frozen? ⟨w.heap.size, k + j, none⟩ = false := hrow.frozen (k + j)
          have HR : Hid ((wr.setCell ⟨w.heap.size, k + j, none⟩ (.int .u8 x)).rowIs w.heap.size 5 (k + lb) (upTo (xs ++ ys) (k + (j + 1)))) := by
            rw [hxn, ← getD_right (xs := xs), HX.out]; exact row_step hrow
          clear hxn hrow hc hb
          go_wp2
          go_roundw
          case rel => exact ⟨j + 1, by omega, by go_num, HR.out, hbel.setCell (Nat.le_refl _) _⟩
          case measure => simp [intOf]; omega
        · obtain rfl : j = lb := by omega
          have HB : Hid (Bts wr (some ⟨w.heap.size, 0, none⟩) (k + j) (xs ++ ys)) := bts_row hrow (by rw [List.length_append, HX.out, hb.1]) (fun z hz => by
            rcases List.mem_append.1 hz with h | h
            · exact HA2.out z h
            · exact hb.2.1 z h)
          clear hb hrow
          go_wp2
          go_ret
          exact ⟨rfl, HB.out, hbel⟩

theorem take_more {xs ys : List Int} {k : Nat} (hx : k < xs.length) (hy : k < ys.length) (h : xs.take k = ys.take k) (e : xs.getD k 0 = ys.getD k 0) : xs.take (k + 1) = ys.take (k + 1) := by
  rw [List.take_succ_eq_append_getElem hx, List.take_succ_eq_append_getElem hy, h]
  simp only [List.getD, List.getElem?_eq_getElem hx, List.getElem?_eq_getElem hy, Option.getD_some] at e
  rw [e]

set_option maxHeartbeats 400000 in
theorem sm_len (a b : Option Addr) (la ca lb cb : Nat) (w : World) (h : ((la : Int) != (lb : Int)) = true) :
    Calls Try.prog 17 #[.slice a la ca, .slice b lb cb] w fun e w' => e = .returned (.bool false) ∧ w = w' := by
  go_enter Try.func17, Try.ntmps17
  go_wp2
  go_ret
  exact ⟨rfl, rfl⟩

set_option maxHeartbeats 400000 in
theorem sm_zero (a b : Option Addr) (ca cb : Nat) (w : World) :
    Calls Try.prog 17 #[.slice a 0 ca, .slice b 0 cb] w fun e w' => e = .returned (.bool true) ∧ w = w' := by
  go_enter Try.func17, Try.ntmps17
  go_wp2
  refine wp_loop_rounds 1 ?_
  rw [rounds_succ]
  go_wp2
  go_ret
  exact ⟨rfl, rfl⟩

set_option maxHeartbeats 400000 in
theorem sm_pos (ab ao bb bo len ca cb : Nat) (xs ys : List Int) (w : World) (hm : len ≤ maxLen) (hx : xs.length = len) (hy : ys.length = len)
    (hcx : ∀ i, i < len → w.cell? ⟨ab, ao + i, none⟩ = some (.int .u8 (xs.getD i 0)))
    (hcy : ∀ i, i < len → w.cell? ⟨bb, bo + i, none⟩ = some (.int .u8 (ys.getD i 0))) :
    Calls Try.prog 17 #[.slice (some ⟨ab, ao, none⟩) len ca, .slice (some ⟨bb, bo, none⟩) len cb] w fun e w' => ∃ r, e = .returned (.bool r) ∧ (r = true ↔ xs = ys) ∧ ∃ n, w' = w.drewN n := by
  unfold maxLen at hm
  have HX0 : Hid (xs.length = len) := hx
  have HY0 : Hid (ys.length = len) := hy
  clear hx hy
  go_enter Try.func17, Try.ntmps17
  go_wp2
  go_loopw [5] (fun i wr => ∃ k : Nat, k ≤ len ∧ i = .int .i64 k ∧ (∃ n, wr = w.drewN n) ∧ Hid (xs.take k = ys.take k)) (fun i _ => len - (intOf i).toNat)
  case atStart => exact ⟨0, Nat.zero_le _, rfl, ⟨0, rfl⟩, by simp [Hid]⟩
  case round =>
    obtain ⟨k, hk, rfl, ⟨n, rfl⟩, HT⟩ := hrel
    by_cases hlt : k < len
    · obtain ⟨x, hxn⟩ : ∃ s, s = xs.getD k 0 := ⟨_, rfl⟩
      obtain ⟨y, hyn⟩ : ∃ s, s = ys.getD k 0 := ⟨_, rfl⟩
      have hcx' : w.cell? ⟨ab, ao + k, none⟩ = some (.int .u8 x) := by rw [hxn]; exact hcx k hlt
      have hcy' : w.cell? ⟨bb, bo + k, none⟩ = some (.int .u8 y) := by rw [hyn]; exact hcy k hlt
      have hltI : (k : Int) < (len : Int) := by omega
      have HX : Hid (x = xs.getD k 0) := hxn
      have HY : Hid (y = ys.getD k 0) := hyn
      clear hxn hyn hcx hcy
      by_cases hxy : x = y
      · subst hxy
        go_wp2
        go_quiet (fail)
        go_wp2
        go_roundw
        case rel => exact ⟨k + 1, by omega, by go_num, ⟨_, rfl⟩, take_more (by have := HX0.out; omega) (by have := HY0.out; omega) HT.out (by rw [← HX.out, ← HY.out])⟩
        case measure => simp [intOf]; omega
      · have hne : (x != y) = true := by simpa using hxy
        have HNE : Hid (x ≠ y) := hxy
        clear hxy
        go_wp2
        go_quiet (fail)
        go_wp2
        go_ret
        refine ⟨false, rfl, ⟨fun h => (by cases h), fun h => ?_⟩, _, World.drewN_drewN _ _ _⟩
        exact absurd (by rw [HX.out, HY.out, h]) HNE.out
    · clear hcx hcy
      go_wp2
      go_ret
      refine ⟨true, rfl, ⟨fun _ => ?_, fun _ => rfl⟩, _, rfl⟩
      have h1 := HT.out
      have h2 := HX0.out
      have h3 := HY0.out
      rwa [List.take_of_length_le (by omega), List.take_of_length_le (by omega)] at h1

/-- ldgB1Same. -/
theorem sm_calls {a b : Option Addr} {la ca lb cb : Nat} {xs ys : List Int} {w : World} (ha : Bts w a la xs) (hb : Bts w b lb ys) (hm : la ≤ maxLen) :
    Calls Try.prog 17 #[.slice a la ca, .slice b lb cb] w fun e w' => ∃ r, e = .returned (.bool r) ∧ (r = true ↔ xs = ys) ∧ ∃ n, w' = w.drewN n := by
  obtain ⟨hl, _, hc⟩ := ha
  obtain ⟨hl', _, hc'⟩ := hb
  by_cases hne : la = lb
  · subst hne
    rcases hc with h0 | ⟨b, o, rfl, hc⟩
    · subst h0
      refine (sm_zero _ _ _ _ _).mono ?_
      rintro e w' ⟨rfl, rfl⟩
      exact ⟨true, rfl, ⟨fun _ => by rw [List.eq_nil_of_length_eq_zero hl, List.eq_nil_of_length_eq_zero hl'], fun _ => rfl⟩, 0, rfl⟩
    · rcases hc' with h0 | ⟨b', o', rfl, hc'⟩
      · subst h0
        refine (sm_zero _ _ _ _ _).mono ?_
        rintro e w' ⟨rfl, rfl⟩
        exact ⟨true, rfl, ⟨fun _ => by rw [List.eq_nil_of_length_eq_zero hl, List.eq_nil_of_length_eq_zero hl'], fun _ => rfl⟩, 0, rfl⟩
      · exact sm_pos b o b' o' la ca cb xs ys w hm hl hl' hc hc'
  · refine (sm_len _ _ _ _ _ _ _ (by simp; omega)).mono ?_
    rintro e w' ⟨rfl, rfl⟩
    exact ⟨false, rfl, ⟨fun h => (by cases h), fun h => absurd (by rw [← hl, ← hl', h]) hne⟩, 0, rfl⟩

theorem sm_yes {a b : Option Addr} {la ca lb cb : Nat} {xs ys : List Int} {w : World} (ha : Bts w a la xs) (hb : Bts w b lb ys) (hm : la ≤ maxLen) (h : xs = ys) :
    Calls Try.prog 17 #[.slice a la ca, .slice b lb cb] w fun e w' => e = .returned (.bool true) ∧ ∃ n, w' = w.drewN n := by
  refine (sm_calls ha hb hm).mono ?_
  rintro e w' ⟨r, rfl, hr, hn⟩
  obtain rfl := hr.2 h
  exact ⟨rfl, hn⟩

theorem sm_no {a b : Option Addr} {la ca lb cb : Nat} {xs ys : List Int} {w : World} (ha : Bts w a la xs) (hb : Bts w b lb ys) (hm : la ≤ maxLen) (h : xs ≠ ys) :
    Calls Try.prog 17 #[.slice a la ca, .slice b lb cb] w fun e w' => e = .returned (.bool false) ∧ ∃ n, w' = w.drewN n := by
  refine (sm_calls ha hb hm).mono ?_
  rintro e w' ⟨r, rfl, hr, hn⟩
  cases r with
  | false => exact ⟨rfl, hn⟩
  | true => exact absurd (hr.1 rfl) h

/-- A []byte that came in. -/
theorem view_bts {H : Type} {enc : TypeId × Value → H} {W : World} {a : Option Addr} {len cap : Nat} {d : DataW H} {p : List MemPlace}
    (h : DataW.Trod enc Try.prog W 0 (fun _ => true) true 23 (.slice a len cap) d p) : ∃ zs, Bts W a len zs ∧ (a = none → len = 0 ∧ cap = 0) ∧ len ≤ maxLen := by
  obtain ⟨fuel, hf⟩ := h
  rcases Go.ChangeShapes.open_ints Try.underlying23 Try.underlying5 (by kernel_rfl) hf with ⟨hcs, _⟩ | ⟨x, l, c, zs, hcs, _, hl, hm, hz, _, hcell, hwz⟩
  · simp [Value.cells] at hcs
    obtain ⟨rfl, rfl, rfl⟩ := hcs
    exact ⟨[], ⟨rfl, by simp, .inl rfl⟩, fun _ => ⟨rfl, rfl⟩, by simp⟩
  · simp [Value.cells] at hcs
    obtain ⟨rfl, rfl, rfl⟩ := hcs
    have hz' : zs.length = cap := by simpa using hz
    refine ⟨zs.take len, ⟨by simp; omega, fun s hs => bounds_u8 (hwz s (List.mem_of_mem_take hs)), ?_⟩, fun e => (by cases e), by omega⟩
    by_cases h0 : len = 0
    · exact .inl h0
    right
    obtain ⟨b, off, spot⟩ := x
    have hspot : spot = none := by simpa [Addr.add] using World.cell?_spot (hcell 0 (by omega))
    subst hspot
    refine ⟨b, off, rfl, fun i hi => ?_⟩
    have := hcell i (by omega)
    rw [Go.WideShapes.add_plain] at this
    rw [this]
    simp [List.getD, hi]

theorem own : ownKnob Try.prog.godebug = none := by kernel_rfl
theorem laidOut : laidOutB Try.prog = true := by kernel_rfl

end Go.Proofs.Qxb6600388a
