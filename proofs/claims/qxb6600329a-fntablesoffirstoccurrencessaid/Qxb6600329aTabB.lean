import Derived.Test.Qxb6600329aTabA
import Derived.OneCell
namespace Go.Proofs.Qxb6600329a.Tab
open Go.RowKit Go.ChangeShapes Go.WideShapes Go.ChangeAt

theorem info33 : (Try.prog.info? 33).map (fun i => (i.zero, i.size, i.bytes)) = some (some (.int .u32 0), 1, 4) := by kernel_rfl

/-! The plain mathematics: the candidates, each at its first occurrence. -/
def cand1 (r : R) : List Int := (if r.rel.toList.isEmpty then [] else [r.id]) ++ (if r.has && !r.irel.toList.isEmpty then [r.iid] else [])
def cands (rs : List R) : List Int := rs.flatMap cand1
def step (acc : List Int) (x : Int) : List Int := if acc.contains x then acc else acc ++ [x]
def dedup (l : List Int) : List Int := l.foldl step []

theorem dedup_snoc (l : List Int) (x : Int) : dedup (l ++ [x]) = step (dedup l) x := by
  simp [dedup, List.foldl_append]

theorem mem_step (acc : List Int) (x y : Int) : y ∈ step acc x ↔ y ∈ acc ∨ y = x := by
  unfold step
  split
  · next h =>
    constructor
    · exact Or.inl
    · rintro (h' | rfl)
      · exact h'
      · simpa using h
  · simp

theorem mem_foldl (l : List Int) : ∀ (acc : List Int) (y : Int), y ∈ l.foldl step acc ↔ y ∈ acc ∨ y ∈ l := by
  induction l with
  | nil => simp
  | cons x l ih =>
    intro acc y
    rw [List.foldl_cons, ih, mem_step]
    simp [or_assoc]

theorem mem_dedup (l : List Int) (y : Int) : y ∈ dedup l ↔ y ∈ l := by
  simp [dedup, mem_foldl]

theorem dedup_old {l : List Int} {x : Int} (h : x ∈ l) : dedup (l ++ [x]) = dedup l := by
  rw [dedup_snoc, step, if_pos (by simpa using (mem_dedup l x).2 h)]

theorem dedup_new {l : List Int} {x : Int} (h : x ∉ l) : dedup (l ++ [x]) = dedup l ++ [x] := by
  rw [dedup_snoc, step, if_neg (by simpa using fun e => h ((mem_dedup l x).1 e))]

theorem length_step (acc : List Int) (x : Int) : (step acc x).length ≤ acc.length + 1 := by
  unfold step; split <;> simp

theorem length_foldl (l : List Int) : ∀ acc : List Int, (l.foldl step acc).length ≤ acc.length + l.length := by
  induction l with
  | nil => simp
  | cons x l ih =>
    intro acc
    have h1 := ih (step acc x)
    have h2 := length_step acc x
    simp only [List.foldl_cons, List.length_cons]
    omega

theorem length_dedup (l : List Int) : (dedup l).length ≤ l.length := by
  have := length_foldl l []
  simpa [dedup] using this

theorem length_cand1 (r : R) : (cand1 r).length ≤ 2 := by
  unfold cand1
  split <;> split <;> simp

theorem length_cands (rs : List R) : (cands rs).length ≤ 2 * rs.length := by
  induction rs with
  | nil => simp [cands]
  | cons r rs ih =>
    have := length_cand1 r
    simp [cands] at ih ⊢
    omega

theorem cands_snoc {rs : List R} {k : Nat} {r : R} (h : rs[k]? = some r) : cands (rs.take (k + 1)) = cands (rs.take k) ++ cand1 r := by
  obtain ⟨hk, e⟩ := List.getElem?_eq_some_iff.1 h
  rw [List.take_succ_eq_append_getElem hk, e]
  simp [cands, List.flatMap_append]

/-- v is a []uint32 of the call's own (from block B on), or nil; its numbers are zs. -/
def OwnU (B : Nat) (w : World) (v : Value) (zs : List Int) : Prop := w.ownsRow B 33 1 v zs.length (zs.map (Value.int .u32))

theorem OwnU.snoc {B : Nat} {w : World} {v : Value} {zs : List Int} {x : Int} (h : w.ownsRow B 33 1 v (zs.length + 1) (zs.map (Value.int .u32) ++ [.int .u32 x])) : OwnU B w v (zs ++ [x]) := by
  unfold OwnU
  simpa using h

theorem OwnU.later {B : Nat} {w w' : World} {v : Value} {zs : List Int} (h : OwnU B w v zs) (hb : Below w.heap.size w w') : OwnU B w' v zs :=
  World.ownsRow.kept (row := none) h ⟨hb.os, hb.tape, hb.output, hb.size, fun k hk _ => hb.block k hk⟩ (by cases hv : v.ownBlock <;> simp)

theorem below_grown {B : Nat} {w0 w w1 : World} {v : Value} {e : TypeId} {sz n : Nat} {xs : List Value} {o : Obj} (hb : Below B w0 w) (h : w.ownsRow B e sz v n xs) (hB : B ≤ w.heap.size) (hg : (w.alloc o).grownBy w1 v.ownBlock) : Below B w0 w1 :=
  (hb.alloc hB o).grown hg (by simp; omega) (fun k hk => (h.lt k hk).1)

/-- What equalU32 is told of a []uint32. -/
def Uts (w : World) (a : Option Addr) (len : Nat) (zs : List Int) : Prop :=
  zs.length = len ∧ (len = 0 ∨ ∃ b o, a = some ⟨b, o, none⟩ ∧ ∀ i, i < len → w.cell? ⟨b, o + i, none⟩ = some (.int .u32 (zs.getD i 0)))

theorem OwnU.view {B : Nat} {w : World} {v : Value} {zs : List Int} (h : OwnU B w v zs) : ∃ a cap, v = .slice a zs.length cap ∧ Uts w a zs.length zs := by
  have h' := h
  rcases h.2 with ⟨rfl, h0⟩ | ⟨g, cap, cur, rfl, _, hg, _, _, _, htake⟩
  · rw [h0]
    exact ⟨none, 0, rfl, h0, .inl rfl⟩
  · refine ⟨_, cap, rfl, rfl, .inr ⟨g, 0, rfl, fun i hi => ?_⟩⟩
    have := World.ownsRow.cells h' (g := g) rfl i (.int .u32 (zs.getD i 0)) (by simp [List.getD, hi])
    rwa [Addr.add_lit] at this

theorem Uts.later {w w2 : World} {a : Option Addr} {len : Nat} {zs : List Int} (h : Uts w a len zs) (hb : Below w.heap.size w w2) : Uts w2 a len zs := by
  obtain ⟨hl, h0 | ⟨b, o, rfl, hc⟩⟩ := h
  · exact ⟨hl, .inl h0⟩
  · exact ⟨hl, .inr ⟨b, o, rfl, fun i hi => (hb.cell (cell_lt (hc i hi))).trans (hc i hi)⟩⟩

theorem take_more {xs ys : List Int} {k : Nat} (hx : k < xs.length) (hy : k < ys.length) (h : xs.take k = ys.take k) (e : xs.getD k 0 = ys.getD k 0) : xs.take (k + 1) = ys.take (k + 1) := by
  rw [List.take_succ_eq_append_getElem hx, List.take_succ_eq_append_getElem hy, h]
  simp only [List.getD, List.getElem?_eq_getElem hx, List.getElem?_eq_getElem hy, Option.getD_some] at e
  rw [e]

set_option maxHeartbeats 400000 in
theorem eu_len (a b : Option Addr) (la ca lb cb : Nat) (w : World) (h : ((la : Int) != (lb : Int)) = true) :
    Calls Try.prog 16 #[.slice a la ca, .slice b lb cb] w fun e w' => e = .returned (.bool false) ∧ w = w' := by
  go_enter Try.func16, Try.ntmps16
  go_wp2
  go_ret
  exact ⟨rfl, rfl⟩

set_option maxHeartbeats 400000 in
theorem eu_zero (a b : Option Addr) (ca cb : Nat) (w : World) :
    Calls Try.prog 16 #[.slice a 0 ca, .slice b 0 cb] w fun e w' => e = .returned (.bool true) ∧ w = w' := by
  go_enter Try.func16, Try.ntmps16
  go_wp2
  refine wp_loop_rounds 1 ?_
  rw [rounds_succ]
  go_wp2
  go_ret
  exact ⟨rfl, rfl⟩

set_option maxHeartbeats 400000 in
theorem eu_pos (ab ao bb bo len ca cb : Nat) (xs ys : List Int) (w : World) (hm : len ≤ maxLen) (hx : xs.length = len) (hy : ys.length = len)
    (hcx : ∀ i, i < len → w.cell? ⟨ab, ao + i, none⟩ = some (.int .u32 (xs.getD i 0)))
    (hcy : ∀ i, i < len → w.cell? ⟨bb, bo + i, none⟩ = some (.int .u32 (ys.getD i 0))) :
    Calls Try.prog 16 #[.slice (some ⟨ab, ao, none⟩) len ca, .slice (some ⟨bb, bo, none⟩) len cb] w fun e w' => ∃ r, e = .returned (.bool r) ∧ (r = true ↔ xs = ys) ∧ ∃ n, w' = w.drewN n := by
  unfold maxLen at hm
  have HX0 : Hid (xs.length = len) := hx
  have HY0 : Hid (ys.length = len) := hy
  clear hx hy
  go_enter Try.func16, Try.ntmps16
  go_wp2
  go_loopw [5] (fun i wr => ∃ k : Nat, k ≤ len ∧ i = .int .i64 k ∧ (∃ n, wr = w.drewN n) ∧ Hid (xs.take k = ys.take k)) (fun i _ => len - (intOf i).toNat)
  case atStart => exact ⟨0, Nat.zero_le _, rfl, ⟨0, rfl⟩, by simp [Hid]⟩
  case round =>
    obtain ⟨k, hk, rfl, ⟨n, rfl⟩, HT⟩ := hrel
    by_cases hlt : k < len
    · obtain ⟨x, hxn⟩ : ∃ s, s = xs.getD k 0 := ⟨_, rfl⟩
      obtain ⟨y, hyn⟩ : ∃ s, s = ys.getD k 0 := ⟨_, rfl⟩
      have hcx' : w.cell? ⟨ab, ao + k, none⟩ = some (.int .u32 x) := by rw [hxn]; exact hcx k hlt
      have hcy' : w.cell? ⟨bb, bo + k, none⟩ = some (.int .u32 y) := by rw [hyn]; exact hcy k hlt
      have hltI : (k : Int) < (len : Int) := by omega
      have HX : Hid (x = xs.getD k 0) := hxn
      have HY : Hid (y = ys.getD k 0) := hyn
      clear hxn hyn hcx hcy
      by_cases hxy : x = y
      · subst hxy
        go_wp2
        go_quiet (fail)
        go_wp2
        go_roundw
        case rel => exact ⟨k + 1, by omega, by go_num, ⟨_, rfl⟩, take_more (by have := HX0.out; omega) (by have := HY0.out; omega) HT.out (by rw [← HX.out, ← HY.out])⟩
        case measure => simp [intOf]; omega
      · have hne : (x != y) = true := by simpa using hxy
        have HNE : Hid (x ≠ y) := hxy
        clear hxy
        go_wp2
        go_quiet (fail)
        go_wp2
        go_ret
        refine ⟨false, rfl, ⟨fun h => (by cases h), fun h => ?_⟩, _, World.drewN_drewN _ _ _⟩
        exact absurd (by rw [HX.out, HY.out, h]) HNE.out
    · clear hcx hcy
      go_wp2
      go_ret
      refine ⟨true, rfl, ⟨fun _ => ?_, fun _ => rfl⟩, _, rfl⟩
      have h1 := HT.out
      have h2 := HX0.out
      have h3 := HY0.out
      rwa [List.take_of_length_le (by omega), List.take_of_length_le (by omega)] at h1

/-- equalU32. -/
theorem eu_calls {a b : Option Addr} {la ca lb cb : Nat} {xs ys : List Int} {w : World} (ha : Uts w a la xs) (hb : Uts w b lb ys) (hm : la ≤ maxLen) :
    Calls Try.prog 16 #[.slice a la ca, .slice b lb cb] w fun e w' => ∃ r, e = .returned (.bool r) ∧ (r = true ↔ xs = ys) ∧ ∃ n, w' = w.drewN n := by
  obtain ⟨hl, hc⟩ := ha
  obtain ⟨hl', hc'⟩ := hb
  by_cases hne : la = lb
  · subst hne
    rcases hc with h0 | ⟨b, o, rfl, hc⟩
    · subst h0
      refine (eu_zero _ _ _ _ _).mono ?_
      rintro e w' ⟨rfl, rfl⟩
      exact ⟨true, rfl, ⟨fun _ => by rw [List.eq_nil_of_length_eq_zero hl, List.eq_nil_of_length_eq_zero hl'], fun _ => rfl⟩, 0, rfl⟩
    · rcases hc' with h0 | ⟨b', o', rfl, hc'⟩
      · subst h0
        refine (eu_zero _ _ _ _ _).mono ?_
        rintro e w' ⟨rfl, rfl⟩
        exact ⟨true, rfl, ⟨fun _ => by rw [List.eq_nil_of_length_eq_zero hl, List.eq_nil_of_length_eq_zero hl'], fun _ => rfl⟩, 0, rfl⟩
      · exact eu_pos b o b' o' la ca cb xs ys w hm hl hl' hc hc'
  · refine (eu_len _ _ _ _ _ _ _ (by simp; omega)).mono ?_
    rintro e w' ⟨rfl, rfl⟩
    exact ⟨false, rfl, ⟨fun h => (by cases h), fun h => absurd (by rw [← hl, ← hl', h]) hne⟩, 0, rfl⟩

theorem eu_yes {a b : Option Addr} {la ca lb cb : Nat} {xs ys : List Int} {w : World} (ha : Uts w a la xs) (hb : Uts w b lb ys) (hm : la ≤ maxLen) (h : xs = ys) :
    Calls Try.prog 16 #[.slice a la ca, .slice b lb cb] w fun e w' => e = .returned (.bool true) ∧ ∃ n, w' = w.drewN n := by
  refine (eu_calls ha hb hm).mono ?_
  rintro e w' ⟨r, rfl, hr, hn⟩
  obtain rfl := hr.2 h
  exact ⟨rfl, hn⟩

theorem eu_no {a b : Option Addr} {la ca lb cb : Nat} {xs ys : List Int} {w : World} (ha : Uts w a la xs) (hb : Uts w b lb ys) (hm : la ≤ maxLen) (h : xs ≠ ys) :
    Calls Try.prog 16 #[.slice a la ca, .slice b lb cb] w fun e w' => e = .returned (.bool false) ∧ ∃ n, w' = w.drewN n := by
  refine (eu_calls ha hb hm).mono ?_
  rintro e w' ⟨r, rfl, hr, hn⟩
  cases r with
  | false => exact ⟨rfl, hn⟩
  | true => exact absurd (hr.1 rfl) h

end Go.Proofs.Qxb6600329a.Tab
