import Derived.Test.Qxb6600388aSeqA
namespace Go.Proofs.Qxb6600388a.Seq
open Go.RowKit Go.ChangeShapes Go.WideShapes Go.ChangeAt
set_option linter.unusedVariables false

/-! The plain mathematics of a sequence of items. -/
def minW (n : Nat) : Nat := if n < 24 then 0 else if n ≤ 255 then 1 else if n ≤ 65535 then 2 else if n ≤ 4294967295 then 3 else 4

theorem fits_minW (n : Nat) (h : n ≤ 18446744073709551615) : Code.Fits (minW n) n := by
  unfold minW Code.Fits
  split
  · omega
  · split
    · omega
    · split
      · omega
      · split <;> omega

def enc1 (major : Nat) (zs : List Int) : List Int := Code.encHead major (minW zs.length) zs.length ++ zs
def enc (major : Nat) (l : List (List Int)) : List Int := l.flatMap (enc1 major)

theorem enc_snoc {major : Nat} {l : List (List Int)} {k : Nat} {zs : List Int} (h : l[k]? = some zs) : enc major (l.take (k + 1)) = enc major (l.take k) ++ enc1 major zs := by
  obtain ⟨hk, e⟩ := List.getElem?_eq_some_iff.1 h
  rw [List.take_succ_eq_append_getElem hk, e]
  simp [enc, List.flatMap_append]

theorem enc_drop {major : Nat} {l : List (List Int)} {k : Nat} {zs : List Int} (h : l[k]? = some zs) : enc major (l.drop k) = enc1 major zs ++ enc major (l.drop (k + 1)) := by
  obtain ⟨hk, e⟩ := List.getElem?_eq_some_iff.1 h
  rw [List.drop_eq_getElem_cons hk, e]
  simp [enc]

def total (l : List (List Int)) : Nat := (l.map (·.length)).sum

theorem total_snoc {l : List (List Int)} {k : Nat} {zs : List Int} (h : l[k]? = some zs) : total (l.take (k + 1)) = total (l.take k) + zs.length := by
  obtain ⟨hk, e⟩ := List.getElem?_eq_some_iff.1 h
  unfold total
  rw [List.take_succ_eq_append_getElem hk, e, List.map_append, List.sum_append]
  simp only [List.map_cons, List.map_nil, List.sum_cons, List.sum_nil, Nat.add_zero]

theorem total_take_le (l : List (List Int)) (k : Nat) : total (l.take k) ≤ total l := by
  unfold total
  conv => rhs; rw [← List.take_append_drop k l]
  rw [List.map_append, List.sum_append]
  omega

theorem minW_le (n : Nat) : minW n ≤ 4 := by
  unfold minW
  split
  · omega
  · split
    · omega
    · split
      · omega
      · split <;> omega

theorem length_enc1 (major : Nat) (zs : List Int) : (enc1 major zs).length ≤ 9 + zs.length := by
  unfold enc1
  rw [List.length_append, Code.length_encHead]
  have := argLen_le (minW_le zs.length)
  omega

theorem length_enc (major : Nat) (l : List (List Int)) : (enc major l).length ≤ 9 * l.length + total l := by
  induction l with
  | nil => simp [enc, total]
  | cons x l ih =>
    have := length_enc1 major x
    simp only [enc, List.flatMap_cons, List.length_append, total, List.map_cons, List.sum_cons, List.length_cons] at ih ⊢
    omega

theorem range_enc {major : Nat} (hm : major ≤ 7) {l : List (List Int)} (hl : ∀ zs ∈ l, zs.length ≤ 18446744073709551615) (h : ∀ zs ∈ l, ∀ z ∈ zs, 0 ≤ z ∧ z ≤ 255) : ∀ z ∈ enc major l, 0 ≤ z ∧ z ≤ 255 := by
  intro z hz
  unfold enc at hz
  rw [List.mem_flatMap] at hz
  obtain ⟨zs, h1, h2⟩ := hz
  rcases List.mem_append.1 h2 with h3 | h3
  · exact Code.range_encHead hm (fits_minW _ (hl zs h1)) z h3
  · exact h zs h1 z h3

/-! The rows of a [][]byte. -/
structure Row where
  a : Option Addr
  len : Nat
  cap : Nat
  zs : List Int

def RowOk (w : World) (r : Row) : Prop := Bts w r.a r.len r.zs ∧ (r.a = none → r.len = 0 ∧ r.cap = 0) ∧ r.len ≤ maxLen

def Pls (w : World) (a : Option Addr) (len : Nat) (rows : List Row) : Prop :=
  rows.length = len ∧ (∀ r ∈ rows, RowOk w r) ∧ (len = 0 ∨ ∃ b o, a = some ⟨b, o, none⟩ ∧ ∀ i r, rows[i]? = some r → w.cell? ⟨b, o + i, none⟩ = some (.slice r.a r.len r.cap))

theorem Pls.later {w w2 : World} {a : Option Addr} {len : Nat} {rows : List Row} (h : Pls w a len rows) (hb : Below w.heap.size w w2) : Pls w2 a len rows := by
  obtain ⟨hl, hr, h0⟩ := h
  refine ⟨hl, fun r hr' => ⟨(hr r hr').1.later hb, (hr r hr').2⟩, ?_⟩
  rcases h0 with h0 | ⟨b, o, rfl, hc⟩
  · exact .inl h0
  · exact .inr ⟨b, o, rfl, fun i r hi => (hb.cell (cell_lt (hc i r hi))).trans (hc i r hi)⟩

theorem Pls.at {w : World} {a : Option Addr} {len : Nat} {rows : List Row} (h : Pls w a len rows) {k : Nat} (hk : k < len) :
    ∃ b o r, a = some ⟨b, o, none⟩ ∧ rows[k]? = some r ∧ w.cell? ⟨b, o + k, none⟩ = some (.slice r.a r.len r.cap) ∧ RowOk w r ∧ r.zs.length = r.len := by
  obtain ⟨hl, hr, h0⟩ := h
  have hi : rows[k]? = some (rows[k]'(by omega)) := List.getElem?_eq_getElem (by omega)
  have hm : rows[k]'(by omega) ∈ rows := List.getElem_mem _
  rcases h0 with h0 | ⟨b, o, rfl, hc⟩
  · omega
  · exact ⟨b, o, _, rfl, hi, hc k _ hi, hr _ hm, (hr _ hm).1.1⟩

theorem list_of {α : Type} {P : Nat → α → Prop} : ∀ n : Nat, (∀ i, i < n → ∃ x, P i x) → ∃ l : List α, l.length = n ∧ ∀ i x, l[i]? = some x → P i x := by
  intro n
  induction n with
  | zero => intro _; exact ⟨[], rfl, by simp⟩
  | succ n ih =>
    intro h
    obtain ⟨l, hl, hp⟩ := ih (fun i hi => h i (by omega))
    obtain ⟨x, hx⟩ := h n (by omega)
    refine ⟨l ++ [x], by simp [hl], fun i y hy => ?_⟩
    by_cases hi : i < l.length
    · rw [List.getElem?_append_left hi] at hy
      exact hp i y hy
    · rw [List.getElem?_append_right (by omega)] at hy
      have h0 : i - l.length = 0 := by
        have := (List.getElem?_eq_some_iff.1 hy).1
        simp at this
        omega
      rw [h0] at hy
      simp at hy
      subst hy
      rw [show i = n by omega]
      exact hx

theorem cells23 : Try.prog.cellsOf 23 = 1 := by kernel_rfl

/-- One row of a [][]byte that came in. -/
theorem view_row {H : Type} {enc : TypeId × Value → H} {W : World} {n : Nat} {v : Value} {x : DataW H × List MemPlace}
    (h : DataW.trod enc Try.prog W 0 (fun _ => true) true n 23 [v] = some x) : ∃ r : Row, v = .slice r.a r.len r.cap ∧ RowOk W r := by
  rcases Go.ChangeShapes.open_ints Try.underlying23 Try.underlying5 (by kernel_rfl) h with ⟨hcs, _⟩ | ⟨a, len, cap, zs, hcs, _⟩
  · simp at hcs
    subst hcs
    exact ⟨⟨none, 0, 0, []⟩, rfl, ⟨rfl, by simp, .inl rfl⟩, fun _ => ⟨rfl, rfl⟩, by simp⟩
  · simp at hcs
    subst hcs
    obtain ⟨zs, h1, h2, h3⟩ := view_bts (a := some a) (len := len) (cap := cap) (d := x.1) (p := x.2) ⟨n, by simpa [Value.cells] using h⟩
    exact ⟨⟨some a, len, cap, zs⟩, rfl, h1, h2, h3⟩

/-- A [][]byte that came in. -/
theorem view_pls {H : Type} {enc : TypeId × Value → H} {W : World} {a : Option Addr} {len cap : Nat} {d : DataW H} {p : List MemPlace}
    (h : DataW.Trod enc Try.prog W 0 (fun _ => true) true 38 (.slice a len cap) d p) : ∃ rows, Pls W a len rows ∧ (a = none → len = 0 ∧ cap = 0) ∧ len ≤ maxLen := by
  obtain ⟨fuel, hf⟩ := h
  rcases Go.Deep.open_slice Try.underlying38 hf with ⟨hcs, _⟩ | ⟨x, l, c, m, n, D, Pl, hcs, _, hl, hm, hme, _, hel⟩
  · simp [Value.cells] at hcs
    obtain ⟨rfl, rfl, rfl⟩ := hcs
    exact ⟨[], ⟨rfl, by simp, .inl rfl⟩, fun _ => ⟨rfl, rfl⟩, by simp⟩
  · simp [Value.cells] at hcs
    obtain ⟨rfl, rfl, rfl⟩ := hcs
    have hm' : m = cap := by simpa using hme
    subst hm'
    obtain ⟨b, off, spot⟩ := x
    by_cases h0 : len = 0
    · exact ⟨[], ⟨h0.symm, by simp, .inl h0⟩, fun e => (by cases e), by omega⟩
    have hone : ∀ i, i < len → ∃ r : Row, W.cell? ((⟨b, off, spot⟩ : Addr).add i) = some (.slice r.a r.len r.cap) ∧ RowOk W r := by
      intro i hi
      obtain ⟨cs', hcs', ht⟩ := hel i (by omega)
      rw [cells23, Nat.mul_one] at hcs'
      have hlen : cs'.length = 1 := by
        unfold World.cells? at hcs'
        split at hcs'
        · have := mapM_some_length hcs'; simpa using this
        · cases hcs'
      match cs', hlen with
      | [v], _ =>
        obtain ⟨r, rfl, hr⟩ := view_row ht
        exact ⟨r, cell_of_cells?_one hcs', hr⟩
    have hspot : spot = none := by
      obtain ⟨r, hc, _⟩ := hone 0 (by omega)
      simpa [Addr.add] using World.cell?_spot hc
    subst hspot
    obtain ⟨rows, hrl, hrs⟩ := list_of (P := fun i r => W.cell? ⟨b, off + i, none⟩ = some (.slice r.a r.len r.cap) ∧ RowOk W r) len (fun i hi => by
      obtain ⟨r, hc, hr⟩ := hone i hi
      rw [Go.WideShapes.add_plain] at hc
      exact ⟨r, hc, hr⟩)
    refine ⟨rows, ⟨hrl, fun r hr => ?_, .inr ⟨b, off, rfl, fun i r hi => (hrs i r hi).1⟩⟩, fun e => (by cases e), by omega⟩
    obtain ⟨i, hi⟩ := List.getElem?_of_mem hr
    exact (hrs i r hi).2

end Go.Proofs.Qxb6600388a.Seq
