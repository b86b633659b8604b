import Derived.Test.Qxb6600329aRows
import Derived.WalkKit
import Derived.WalkSpells
import Derived.WalkLawsBesides
import Derived.Outline
import Derived.Deep.QuietTactic
import Derived.BigQuiet
import Derived.Laws.CopyOwn
import Derived.Deep.OwnRows
import Derived.ProofKit
import Derived.OpenShut
import Derived.ShutString
import Derived.ChangeOld
import Derived.SliceStrings
namespace Go.Proofs.Qxb6600329a
open Go.RowKit

/-- What the walks are told of a slice of strings: its elements are 'ss'; where there is an element they lie in cells. -/
def Strs (w : World) (a : Option Addr) (len : Nat) (ss : List ByteArray) : Prop :=
  ss.length = len ∧ (∀ s ∈ ss, s.size ≤ maxLen) ∧ (len = 0 ∨ ∃ b o, a = some ⟨b, o, none⟩ ∧ ∀ i, i < len → w.cell? ⟨b, o + i, none⟩ = some (.string (ss.getD i ByteArray.empty)))

def total (ss : List ByteArray) : Nat := (ss.map (·.size)).sum

theorem total_snoc (ss : List ByteArray) (k : Nat) (h : k < ss.length) : total (ss.take (k + 1)) = total (ss.take k) + (ss.getD k ByteArray.empty).size := by
  unfold total
  rw [List.take_succ_eq_append_getElem h, List.map_append, List.sum_append]
  simp only [List.map_cons, List.map_nil, List.sum_cons, List.sum_nil, List.getD, List.getElem?_eq_getElem h, Option.getD_some, Nat.add_zero]

theorem getD_size {ss : List ByteArray} (h : ∀ s ∈ ss, s.size ≤ maxLen) (k : Nat) (hk : k < ss.length) : (ss.getD k ByteArray.empty).size ≤ maxLen := by
  apply h
  simp [List.getD, hk]

set_option maxHeartbeats 400000 in
/-- stringsBytes. -/
theorem sb_calls (a : Option Addr) (len cap : Nat) (ss : List ByteArray) (w : World) (h : Strs w a len ss) (hm : len ≤ maxLen) :
    Calls Try.prog 20 #[.slice a len cap] w fun e w' => ∃ n : Nat, e = .returned (.int .i64 n) ∧ n ≤ 1048577 ∧ (n ≤ 1048576 → 16 * len + total ss = n) ∧ w = w' := by
  obtain ⟨hl, hs, hc⟩ := h
  unfold maxLen at hm
  by_cases hbig : 65536 < len
  · clear hc
    go_enter Try.func20, Try.ntmps20
    go_wp2
    go_ret
    exact ⟨1048577, rfl, by omega, by omega, rfl⟩
  · rcases hc with h0 | ⟨b, o, rfl, hc⟩
    · subst h0
      go_enter Try.func20, Try.ntmps20
      go_wp2
      refine wp_loop_rounds 1 ?_
      rw [rounds_succ]
      go_wp2
      go_ret
      exact ⟨0, rfl, by omega, by intro _; rw [List.eq_nil_of_length_eq_zero hl]; rfl, rfl⟩
    · go_enter Try.func20, Try.ntmps20
      go_wp2
      go_loop [3, 4] (fun n i => ∃ k m : Nat, k ≤ len ∧ i = .int .i64 k ∧ n = .int .i64 m ∧ m ≤ 1048576 ∧ Hid (m = 16 * len + total (ss.take k))) (fun _ i => len - (intOf i).toNat)
      case atStart => exact ⟨0, 16 * len, Nat.zero_le _, rfl, by go_num, by omega, by simp [Hid, total]⟩
      case round =>
        obtain ⟨k, m, hk, rfl, rfl, hm1, HM⟩ := hrel
        by_cases hlt : k < len
        · obtain ⟨s, hsn⟩ : ∃ s, s = ss.getD k ByteArray.empty := ⟨_, rfl⟩
          have hcx : w.cell? ⟨b, o + k, none⟩ = some (.string s) := by rw [hsn]; exact hc k hlt
          have hsz : s.size ≤ 9223372036854775807 := by rw [hsn]; exact getD_size hs k (by omega)
          have HT : Hid (total (ss.take (k + 1)) = total (ss.take k) + s.size) := by rw [hsn]; exact total_snoc ss k (by omega)
          clear hsn hs hc
          go_wp2
          · go_ret
            exact ⟨1048577, rfl, by omega, by omega, rfl⟩
          · go_round
            case rel => exact ⟨k + 1, m + s.size, by omega, by go_num, by go_num, by omega, by have := HM.out; have := HT.out; show _ = _; omega⟩
            case measure => simp [intOf]; omega
        · clear hc hs
          go_wp2
          go_ret
          exact ⟨m, rfl, by omega, by intro _; have := HM.out; rw [List.take_of_length_le (by omega)] at this; omega, rfl⟩

theorem str_eq {x y : ByteArray} (h : (!x.toList == y.toList) = false) : x = y := by
  have h2 : x.toList = y.toList := by simpa using h
  rw [ByteArray.toList_eq, ByteArray.toList_eq] at h2
  exact Go.WideShapes.bytes_inj h2

theorem str_ne {x y : ByteArray} (h : (!x.toList == y.toList) = true) : x ≠ y := by
  intro e; subst e; simp at h

theorem take_more {xs ys : List ByteArray} {k : Nat} (hx : k < xs.length) (hy : k < ys.length) (h : xs.take k = ys.take k) (e : xs.getD k ByteArray.empty = ys.getD k ByteArray.empty) : xs.take (k + 1) = ys.take (k + 1) := by
  rw [List.take_succ_eq_append_getElem hx, List.take_succ_eq_append_getElem hy, h]
  simp only [List.getD, List.getElem?_eq_getElem hx, List.getElem?_eq_getElem hy, Option.getD_some] at e
  rw [e]

set_option maxHeartbeats 400000 in
theorem sc_len (a b : Option Addr) (la ca lb cb : Nat) (w : World) (h : ((la : Int) != (lb : Int)) = true) :
    Calls Try.prog 29 #[.slice a la ca, .slice b lb cb] w fun e w' => e = .returned (.bool false) ∧ w = w' := by
  go_enter Try.func29, Try.ntmps29
  go_wp2
  go_ret
  exact ⟨rfl, rfl⟩

set_option maxHeartbeats 400000 in
theorem sc_zero (a b : Option Addr) (ca cb : Nat) (w : World) :
    Calls Try.prog 29 #[.slice a 0 ca, .slice b 0 cb] w fun e w' => e = .returned (.bool true) ∧ w = w' := by
  go_enter Try.func29, Try.ntmps29
  go_wp2
  refine wp_loop_rounds 1 ?_
  rw [rounds_succ]
  go_wp2
  go_ret
  exact ⟨rfl, rfl⟩

set_option maxHeartbeats 400000 in
theorem sc_pos (ab ao bb bo len ca cb : Nat) (xs ys : List ByteArray) (w : World) (hm : len ≤ maxLen) (hx : xs.length = len) (hy : ys.length = len)
    (hcx : ∀ i, i < len → w.cell? ⟨ab, ao + i, none⟩ = some (.string (xs.getD i ByteArray.empty)))
    (hcy : ∀ i, i < len → w.cell? ⟨bb, bo + i, none⟩ = some (.string (ys.getD i ByteArray.empty))) :
    Calls Try.prog 29 #[.slice (some ⟨ab, ao, none⟩) len ca, .slice (some ⟨bb, bo, none⟩) len cb] w fun e w' => ∃ r, e = .returned (.bool r) ∧ (r = true ↔ xs = ys) ∧ ∃ n, w' = w.drewN n := by
  unfold maxLen at hm
  have HX0 : Hid (xs.length = len) := hx
  have HY0 : Hid (ys.length = len) := hy
  clear hx hy
  go_enter Try.func29, Try.ntmps29
  go_wp2
  go_loopw [13] (fun i wr => ∃ k : Nat, k ≤ len ∧ i = .int .i64 k ∧ (∃ n, wr = w.drewN n) ∧ Hid (xs.take k = ys.take k)) (fun i _ => len - (intOf i).toNat)
  case atStart => exact ⟨0, Nat.zero_le _, rfl, ⟨0, rfl⟩, by simp [Hid]⟩
  case round =>
    obtain ⟨k, hk, rfl, ⟨n, rfl⟩, HT⟩ := hrel
    by_cases hlt : k < len
    · obtain ⟨x, hxn⟩ : ∃ s, s = xs.getD k ByteArray.empty := ⟨_, rfl⟩
      obtain ⟨y, hyn⟩ : ∃ s, s = ys.getD k ByteArray.empty := ⟨_, rfl⟩
      have hcx' : w.cell? ⟨ab, ao + k, none⟩ = some (.string x) := by rw [hxn]; exact hcx k hlt
      have hcy' : w.cell? ⟨bb, bo + k, none⟩ = some (.string y) := by rw [hyn]; exact hcy k hlt
      have hltI : (k : Int) < (len : Int) := by omega
      have HX : Hid (x = xs.getD k ByteArray.empty) := hxn
      have HY : Hid (y = ys.getD k ByteArray.empty) := hyn
      clear hxn hyn hcx hcy
      go_wp2
      go_quiet (fail)
      go_wp2
      · have hne : (!x.toList == y.toList) = true := by assumption
        go_ret
        refine ⟨false, rfl, ⟨fun h => (by cases h), fun h => ?_⟩, _, World.drewN_drewN _ _ _⟩
        exact absurd (by rw [HX.out, HY.out, h]) (str_ne hne)
      · have hne : (!x.toList == y.toList) = false := by assumption
        go_roundw
        case rel => exact ⟨k + 1, by omega, by go_num, ⟨_, rfl⟩, take_more (by have := HX0.out; omega) (by have := HY0.out; omega) HT.out (by rw [← HX.out, ← HY.out]; exact str_eq hne)⟩
        case measure => simp [intOf]; omega
    · clear hcx hcy
      go_wp2
      go_ret
      refine ⟨true, rfl, ⟨fun _ => ?_, fun _ => rfl⟩, _, rfl⟩
      have h1 := HT.out
      have h2 := HX0.out
      have h3 := HY0.out
      rwa [List.take_of_length_le (by omega), List.take_of_length_le (by omega)] at h1

/-- sameColumns. -/
theorem sc_calls (a b : Option Addr) (la ca lb cb : Nat) (xs ys : List ByteArray) (w : World) (ha : Strs w a la xs) (hb : Strs w b lb ys) (hm : la ≤ maxLen) :
    Calls Try.prog 29 #[.slice a la ca, .slice b lb cb] w fun e w' => ∃ r, e = .returned (.bool r) ∧ (r = true ↔ xs = ys) ∧ ∃ n, w' = w.drewN n := by
  obtain ⟨hl, hs, hc⟩ := ha
  obtain ⟨hl', hs', hc'⟩ := hb
  by_cases hne : la = lb
  · subst hne
    rcases hc with h0 | ⟨b, o, rfl, hc⟩
    · subst h0
      refine (sc_zero _ _ _ _ _).mono ?_
      rintro e w' ⟨rfl, rfl⟩
      exact ⟨true, rfl, ⟨fun _ => by rw [List.eq_nil_of_length_eq_zero hl, List.eq_nil_of_length_eq_zero hl'], fun _ => rfl⟩, 0, rfl⟩
    · rcases hc' with h0 | ⟨b', o', rfl, hc'⟩
      · subst h0
        refine (sc_zero _ _ _ _ _).mono ?_
        rintro e w' ⟨rfl, rfl⟩
        exact ⟨true, rfl, ⟨fun _ => by rw [List.eq_nil_of_length_eq_zero hl, List.eq_nil_of_length_eq_zero hl'], fun _ => rfl⟩, 0, rfl⟩
      · exact sc_pos b o b' o' la ca cb xs ys w hm hl hl' hc hc'
  · refine (sc_len _ _ _ _ _ _ _ (by simp; omega)).mono ?_
    rintro e w' ⟨rfl, rfl⟩
    exact ⟨false, rfl, ⟨fun h => (by cases h), fun h => absurd (by rw [← hl, ← hl', h]) hne⟩, 0, rfl⟩

/-- ZZSameColumns. -/
theorem zz_calls (a b : Option Addr) (la ca lb cb : Nat) (xs ys : List ByteArray) (w : World) (ha : Strs w a la xs) (hb : Strs w b lb ys) (hm : la ≤ maxLen) :
    Calls Try.prog 21 #[.slice a la ca, .slice b lb cb] w fun e w' => ∃ r, e = .returned (.bool r) ∧ (r = true ↔ xs = ys) ∧ ∃ n, w' = w.drewN n := by
  have H := sc_calls a b la ca lb cb xs ys w ha hb hm
  go_enter Try.func21, Try.ntmps21
  go_wp2_with fail
  refine H.mono ?_
  rintro e w' ⟨r, rfl, hr, n, rfl⟩
  have HR : Hid (r = true ↔ xs = ys) := hr
  clear hr H ha hb hm
  go_wp2
  go_ret
  exact ⟨r, rfl, HR.out, n, rfl⟩

theorem zz_yes {a b : Option Addr} {la ca lb cb : Nat} {xs ys : List ByteArray} {w : World} (ha : Strs w a la xs) (hb : Strs w b lb ys) (hm : la ≤ maxLen) (h : xs = ys) :
    Calls Try.prog 21 #[.slice a la ca, .slice b lb cb] w fun e w' => e = .returned (.bool true) ∧ ∃ n, w' = w.drewN n := by
  refine (zz_calls a b la ca lb cb xs ys w ha hb hm).mono ?_
  rintro e w' ⟨r, rfl, hr, hn⟩
  obtain rfl := hr.2 h
  exact ⟨rfl, hn⟩

theorem zz_no {a b : Option Addr} {la ca lb cb : Nat} {xs ys : List ByteArray} {w : World} (ha : Strs w a la xs) (hb : Strs w b lb ys) (hm : la ≤ maxLen) (h : xs ≠ ys) :
    Calls Try.prog 21 #[.slice a la ca, .slice b lb cb] w fun e w' => e = .returned (.bool false) ∧ ∃ n, w' = w.drewN n := by
  refine (zz_calls a b la ca lb cb xs ys w ha hb hm).mono ?_
  rintro e w' ⟨r, rfl, hr, hn⟩
  cases r with
  | false => exact ⟨rfl, hn⟩
  | true => exact absurd (hr.1 rfl) h

theorem Strs.drewN {w : World} {a : Option Addr} {len : Nat} {ss : List ByteArray} (h : Strs w a len ss) (n : Nat) : Strs (w.drewN n) a len ss := h

def isBool (e : Ending) : Prop := ∃ r, e = .returned (.bool r)

theorem Strs.at {w : World} {a : Option Addr} {len : Nat} {ss : List ByteArray} (h : Strs w a len ss) {k : Nat} (hk : k < len) : ∃ b o s, a = some ⟨b, o, none⟩ ∧ w.cell? ⟨b, o + k, none⟩ = some (.string s) ∧ s.size ≤ 9223372036854775807 := by
  obtain ⟨hl, hs, h0 | ⟨b, o, rfl, hc⟩⟩ := h
  · omega
  · exact ⟨b, o, _, rfl, hc k hk, getD_size hs k (by omega)⟩

theorem info9 : (Try.prog.info? 9).map (fun i => (i.zero, i.size, i.bytes)) = some (some (.string ByteArray.empty), 1, 16) := by kernel_rfl
theorem size9 : (Try.prog.info? 9).map (·.size) = some 1 := by kernel_rfl

theorem cell_lt {w : World} {b o : Nat} {v : Value} (h : w.cell? ⟨b, o, none⟩ = some v) : b < w.heap.size := by
  apply Decidable.byContradiction
  intro hn
  have : w.heap[b]? = none := Array.getElem?_eq_none (by omega)
  simp [World.cell?, this] at h

theorem Strs.later {w w2 : World} {a : Option Addr} {len : Nat} {ss : List ByteArray} (h : Strs w a len ss) (hb : Below w.heap.size w w2) : Strs w2 a len ss := by
  obtain ⟨hl, hs, h0 | ⟨b, o, rfl, hc⟩⟩ := h
  · exact ⟨hl, hs, .inl h0⟩
  · exact ⟨hl, hs, .inr ⟨b, o, rfl, fun i hi => (hb.cell (cell_lt (hc i hi))).trans (hc i hi)⟩⟩

theorem cells_strs {w : World} {b o len : Nat} {ss : List ByteArray} (hl : ss.length = len) (hc : ∀ i, i < len → w.cell? ⟨b, o + i, none⟩ = some (.string (ss.getD i ByteArray.empty))) :
    ∀ j v, (ss.map Value.string)[j]? = some v → w.cell? ((⟨b, o, none⟩ : Addr).add j) = some v := by
  intro j v hv
  have hj : j < ss.length := by
    have := (List.getElem?_eq_some_iff.1 hv).1
    simpa using this
  rw [Addr.add_lit, hc j (by omega)]
  simp [List.getD, hj] at hv ⊢
  exact hv

/-- 'zzc := make([]string, n); copy(zzc, s)'. -/
theorem run_copy_strs (w : World) (sp : Option Addr) (n c : Nat) (ss : List ByteArray) (h : Strs w sp n ss) :
    ∃ w2, Sem.run Try.prog (Builtin.copy_ #[37, 37] 3 #[.slice (some ⟨w.heap.size, 0, none⟩) n n, .slice sp n c]) (w.alloc (.cells (madeCells #[.string ByteArray.empty] n) 9)) = .ok (.int .i64 n) w2 ∧
      Strs w2 (some ⟨w.heap.size, 0, none⟩) n ss ∧ Below w.heap.size w w2 := by
  have hg : (w.alloc (.cells (madeCells #[.string ByteArray.empty] n) 9)).heap[w.heap.size]? = some (.cells (madeCells #[.string ByteArray.empty] n) 9 (0, 0)) := by
    show (w.heap.push _)[w.heap.size]? = _
    simp
  have hbel : Below w.heap.size w (w.alloc (.cells (madeCells #[.string ByteArray.empty] n) 9)) := (Below.refl _ _).alloc (Nat.le_refl _) _
  obtain ⟨hl, hs, h0⟩ := h
  by_cases hn : n = 0
  · subst hn
    refine ⟨_, ?_, ⟨hl, hs, .inl rfl⟩, hbel⟩
    exact run_copy_none (P := Try.prog) _ 37 37 3 9 _ _ 0 0 0 c Try.underlying37 size9 rfl
  · obtain ⟨b, o, rfl, hc⟩ : ∃ b o, sp = some ⟨b, o, none⟩ ∧ ∀ i, i < n → w.cell? ⟨b, o + i, none⟩ = some (.string (ss.getD i ByteArray.empty)) := by
      rcases h0 with h0 | h0
      · exact absurd h0 hn
      · exact h0
    have hcs : ∀ i, i < n → (w.alloc (.cells (madeCells #[.string ByteArray.empty] n) 9)).cell? ⟨b, o + i, none⟩ = some (.string (ss.getD i ByteArray.empty)) := fun i hi => (hbel.cell (cell_lt (hc i hi))).trans (hc i hi)
    have hrun := run_copy_row (P := Try.prog) (w.alloc (.cells (madeCells #[.string ByteArray.empty] n) 9)) 37 37 3 9 w.heap.size 0 n n ⟨b, o, none⟩ n c (madeCells #[.string ByteArray.empty] n) 9 (ss.map Value.string) Try.underlying37 size9 hg (by simp [hl]) (cells_strs hl hcs) (by simp [size_madeCells, hl]) (by
      intro v hv
      obtain ⟨_, _, rfl⟩ := List.mem_map.1 hv
      rfl)
    have hcur : ((madeCells #[.string ByteArray.empty] n).toList.take 0 ++ ss.map Value.string ++ (madeCells #[.string ByteArray.empty] n).toList.drop (0 + (ss.map Value.string).length)) = ss.map Value.string := by
      rw [List.drop_eq_nil_of_le (by simp [size_madeCells, hl])]
      simp
    rw [hcur] at hrun
    refine ⟨_, by simpa [hl, goInt] using hrun, ⟨hl, hs, .inr ⟨_, 0, rfl, fun i hi => ?_⟩⟩, below_setRow hbel (Nat.le_refl _) _⟩
    rw [cell_setRow_same _ _ _ _ _ _ _ hg]
    have hi' : i < ss.length := by omega
    simp [List.getD, hi']

/-- A []string that came in: what the walks are told of it. -/
theorem view_strs {H : Type} {enc : TypeId × Value → H} {W : World} {a : Option Addr} {len cap : Nat} {d : DataW H} {p : List MemPlace}
    (h : DataW.Trod enc Try.prog W 0 (fun _ => true) true 37 (.slice a len cap) d p) : ∃ ss, Strs W a len ss ∧ len ≤ maxLen := by
  obtain ⟨fuel, hf⟩ := h
  rcases Go.ChangeShapes.open_strings Try.underlying37 Try.underlying9 (by kernel_rfl) hf with ⟨hcs, _⟩ | ⟨x, l, c, ss, hcs, _, hl, hm, hz, _, hcell, hwz⟩
  · simp [Value.cells] at hcs
    obtain ⟨rfl, rfl, rfl⟩ := hcs
    exact ⟨[], ⟨rfl, by simp, .inl rfl⟩, by simp⟩
  · simp [Value.cells] at hcs
    obtain ⟨rfl, rfl, rfl⟩ := hcs
    have hz' : ss.length = cap := by simpa using hz
    refine ⟨ss.take len, ⟨by simp; omega, fun s hs => hwz s (List.mem_of_mem_take hs), ?_⟩, by omega⟩
    by_cases h0 : len = 0
    · exact .inl h0
    right
    obtain ⟨b, off, spot⟩ := x
    have hspot : spot = none := by simpa [Addr.add] using World.cell?_spot (hcell 0 (by omega))
    subst hspot
    refine ⟨b, off, rfl, fun i hi => ?_⟩
    have := hcell i (by omega)
    rw [Go.WideShapes.add_plain] at this
    rw [this]
    simp [List.getD, hi]

theorem own : ownKnob Try.prog.godebug = none := by kernel_rfl
theorem laidOut : laidOutB Try.prog = true := by kernel_rfl

end Go.Proofs.Qxb6600329a
