import Derived.Test.Qxb6600329aBase
import Derived.Deep.Slices
namespace Go.Proofs.Qxb6600329a.Tab
open Go.RowKit Go.ChangeShapes Go.WideShapes Go.ChangeAt

/-- A row of the law's own: what the law reads of it. -/
structure R where
  id : Int
  rel : ByteArray
  has : Bool
  iid : Int
  irel : ByteArray

def RecAt (w : World) (b o : Nat) (r : R) : Prop :=
  w.cell? ⟨b, o, none⟩ = some (.int .u32 r.id) ∧ w.cell? ⟨b, o + 1, none⟩ = some (.string r.rel) ∧ w.cell? ⟨b, o + 2, none⟩ = some (.bool r.has) ∧
  w.cell? ⟨b, o + 3, none⟩ = some (.int .u32 r.iid) ∧ w.cell? ⟨b, o + 4, none⟩ = some (.string r.irel) ∧
  (Lit.int .u32 r.id).wf = true ∧ (Lit.int .u32 r.iid).wf = true ∧ r.rel.size ≤ maxLen ∧ r.irel.size ≤ maxLen

def Recs (w : World) (a : Option Addr) (len : Nat) (rs : List R) : Prop :=
  rs.length = len ∧ (len = 0 ∨ ∃ b o, a = some ⟨b, o, none⟩ ∧ ∀ i r, rs[i]? = some r → RecAt w b (o + i * 5) r)

theorem Recs.at {w : World} {a : Option Addr} {len : Nat} {rs : List R} (h : Recs w a len rs) {k : Nat} (hk : k < len) : ∃ b o r, a = some ⟨b, o, none⟩ ∧ rs[k]? = some r ∧ RecAt w b (o + k * 5) r := by
  obtain ⟨hl, h0 | ⟨b, o, rfl, hc⟩⟩ := h
  · omega
  · have hr : rs[k]? = some (rs[k]'(by omega)) := List.getElem?_eq_getElem (by omega)
    exact ⟨b, o, _, rfl, hr, hc k _ hr⟩

set_option maxHeartbeats 400000 in
/-- recsBytes. -/
theorem rb_calls (a : Option Addr) (len cap : Nat) (rs : List R) (w : World) (h : Recs w a len rs) (hm : len ≤ 4096) :
    Calls Try.prog 11 #[.slice a len cap] w fun e w' => ∃ n : Nat, e = .returned (.int .i64 n) ∧ n ≤ 1048577 ∧ w = w' := by
  go_enter Try.func11, Try.ntmps11
  go_wp2
  go_loop [3, 4] (fun n i => ∃ k m : Nat, k ≤ len ∧ i = .int .i64 k ∧ n = .int .i64 m ∧ m ≤ 1048576) (fun _ i => len - (intOf i).toNat)
  case atStart => exact ⟨0, 48 * len, Nat.zero_le _, rfl, by go_num, by omega⟩
  case round =>
    obtain ⟨k, m, hk, rfl, rfl, hm1⟩ := hrel
    by_cases hlt : k < len
    · obtain ⟨b, o, r, rfl, hr, hc⟩ := h.at hlt
      obtain ⟨c0, c1, c2, c3, c4, wf0, wf3, s1, s4⟩ := hc
      unfold maxLen at s1 s4
      clear h hr wf0 wf3
      go_wp2
      · go_ret
        exact ⟨1048577, rfl, by omega, rfl⟩
      · go_ret
        exact ⟨1048577, rfl, by omega, rfl⟩
      · go_round
        case rel => exact ⟨k + 1, m + r.rel.size + r.irel.size, by omega, by go_num, by go_num, by omega⟩
        case measure => simp [intOf]; omega
    · clear h
      go_wp2
      go_ret
      exact ⟨m, rfl, by omega, rfl⟩

set_option maxHeartbeats 400000 in
theorem zb10 (a : Option Addr) (len cap : Nat) (rs : List R) (w : World) (h : Recs w a len rs) (hm : len ≤ maxLen) :
    Calls Try.prog 10 #[.slice a len cap] w fun e w' => isBool e ∧ w = w' := by
  unfold maxLen at hm
  go_enter Try.func10, Try.ntmps10
  go_wp2
  · go_ret
    exact ⟨⟨false, rfl⟩, rfl⟩
  · go_loop [3, 4] (fun n i => ∃ k m : Nat, k ≤ len ∧ i = .int .i64 k ∧ n = .int .i64 m ∧ m ≤ 1048576) (fun _ i => len - (intOf i).toNat)
    case atStart => exact ⟨0, len, Nat.zero_le _, rfl, by go_num, by omega⟩
    case round =>
      obtain ⟨k, m, hk, rfl, rfl, hm1⟩ := hrel
      by_cases hlt : k < len
      · obtain ⟨b, o, r, rfl, hr, hc⟩ := h.at hlt
        obtain ⟨c0, c1, c2, c3, c4, wf0, wf3, s1, s4⟩ := hc
        unfold maxLen at s1 s4
        clear h hr wf0 wf3
        go_wp2
        · go_ret
          exact ⟨⟨false, rfl⟩, rfl⟩
        · go_ret
          exact ⟨⟨false, rfl⟩, rfl⟩
        · go_ret
          exact ⟨⟨false, rfl⟩, rfl⟩
        · go_ret
          exact ⟨⟨false, rfl⟩, rfl⟩
        · go_round
          case rel => exact ⟨k + 1, m + r.rel.size + r.irel.size, by omega, by go_num, by go_num, by omega⟩
          case measure => simp [intOf]; omega
      · clear h
        go_wp2
        go_ret
        exact ⟨⟨true, rfl⟩, rfl⟩

theorem list_of {α : Type} {P : Nat → α → Prop} : ∀ n : Nat, (∀ i, i < n → ∃ x, P i x) → ∃ l : List α, l.length = n ∧ ∀ i x, l[i]? = some x → P i x := by
  intro n
  induction n with
  | zero => intro _; exact ⟨[], rfl, by simp⟩
  | succ n ih =>
    intro h
    obtain ⟨l, hl, hp⟩ := ih (fun i hi => h i (by omega))
    obtain ⟨x, hx⟩ := h n (by omega)
    refine ⟨l ++ [x], by simp [hl], fun i y hy => ?_⟩
    by_cases hi : i < l.length
    · rw [List.getElem?_append_left hi] at hy
      exact hp i y hy
    · rw [List.getElem?_append_right (by omega)] at hy
      have h0 : i - l.length = 0 := by
        have := (List.getElem?_eq_some_iff.1 hy).1
        simp at this
        omega
      rw [h0] at hy
      simp at hy
      subst hy
      rw [show i = n by omega]
      exact hx

theorem five {α : Type} {l : List α} (h : l.length = 5) : ∃ a b c d e, l = [a, b, c, d, e] := by
  match l, h with
  | [a, b, c, d, e], _ => exact ⟨a, b, c, d, e, rfl⟩

theorem cells35 : Try.prog.cellsOf 35 = 5 := by kernel_rfl
theorem cells33 : Try.prog.cellsOf 33 = 1 := by kernel_rfl
theorem cells9 : Try.prog.cellsOf 9 = 1 := by kernel_rfl
theorem cells4 : Try.prog.cellsOf 4 = 1 := by kernel_rfl

theorem cells_get {w : World} {base : Nat} {a : Addr} {n : Nat} {cs : List Value} (h : w.cells? base a n = some cs) : cs.length = n ∧ ∀ i c, i < n → cs[i]? = some c → w.cell? (a.add i) = some c := by
  unfold World.cells? at h
  split at h
  · have hl := mapM_some_length h
    simp at hl
    refine ⟨hl, fun i c hi hc => ?_⟩
    have := mapM_some_get h i i (by simp [hi])
    rw [this, hc]
  · cases h

/-- One row of the law's own, read out of its five cells. -/
theorem view_rec {H : Type} {enc : TypeId × Value → H} {W : World} {n b o : Nat} {cs : List Value} {x : DataW H × List MemPlace}
    (hcs : W.cells? 0 ⟨b, o, none⟩ 5 = some cs) (h : DataW.trod enc Try.prog W 0 (fun _ => true) true n 35 cs = some x) : ∃ r, RecAt W b o r := by
  obtain ⟨hlen, hget⟩ := cells_get hcs
  obtain ⟨c0, c1, c2, c3, c4, rfl⟩ := five hlen
  obtain ⟨xs, m, _, _, _, hxs, hf⟩ := DataW.trod_struct Try.underlying35 h
  have f0 : DataW.trod enc Try.prog W 0 (fun _ => true) true m 33 (([c0, c1, c2, c3, c4].drop 0).take (Try.prog.cellsOf 33)) = xs[0]? := hf 0 _ rfl
  rw [cells33] at f0
  have f1 : DataW.trod enc Try.prog W 0 (fun _ => true) true m 9 (([c0, c1, c2, c3, c4].drop 1).take (Try.prog.cellsOf 9)) = xs[1]? := hf 1 _ rfl
  rw [cells9] at f1
  have f2 : DataW.trod enc Try.prog W 0 (fun _ => true) true m 4 (([c0, c1, c2, c3, c4].drop 2).take (Try.prog.cellsOf 4)) = xs[2]? := hf 2 _ rfl
  rw [cells4] at f2
  have f3 : DataW.trod enc Try.prog W 0 (fun _ => true) true m 33 (([c0, c1, c2, c3, c4].drop 3).take (Try.prog.cellsOf 33)) = xs[3]? := hf 3 _ rfl
  rw [cells33] at f3
  have f4 : DataW.trod enc Try.prog W 0 (fun _ => true) true m 9 (([c0, c1, c2, c3, c4].drop 4).take (Try.prog.cellsOf 9)) = xs[4]? := hf 4 _ rfl
  rw [cells9] at f4
  simp only [List.drop_zero, List.drop_succ_cons, List.take_succ_cons, List.take_zero] at f0 f1 f2 f3 f4
  have hxs5 : xs.length = 5 := hxs
  obtain ⟨y0, y1, y2, y3, y4, rfl⟩ := five hxs5
  simp only [List.getElem?_cons_zero, List.getElem?_cons_succ] at f0 f1 f2 f3 f4
  obtain ⟨a0, e0, _, w0⟩ := DataW.trod_int Try.underlying33 f0
  obtain ⟨a1, e1, _, w1⟩ := DataW.trod_string Try.underlying9 f1
  obtain ⟨a2, e2, _⟩ := DataW.trod_bool Try.underlying4 f2
  obtain ⟨a3, e3, _, w3⟩ := DataW.trod_int Try.underlying33 f3
  obtain ⟨a4, e4, _, w4⟩ := DataW.trod_string Try.underlying9 f4
  simp only [List.cons.injEq, and_true] at e0 e1 e2 e3 e4
  subst e0 e1 e2 e3 e4
  have g0 := hget 0 _ (by omega) rfl
  have g1 := hget 1 _ (by omega) rfl
  have g2 := hget 2 _ (by omega) rfl
  have g3 := hget 3 _ (by omega) rfl
  have g4 := hget 4 _ (by omega) rfl
  rw [Go.WideShapes.add_plain] at g0 g1 g2 g3 g4
  exact ⟨⟨a0, a1, a2, a3, a4⟩, g0, g1, g2, g3, g4, w0, w3, w1, w4⟩

/-- A []Rec that came in. -/
theorem view_recs {H : Type} {enc : TypeId × Value → H} {W : World} {a : Option Addr} {len cap : Nat} {d : DataW H} {p : List MemPlace}
    (h : DataW.Trod enc Try.prog W 0 (fun _ => true) true 22 (.slice a len cap) d p) : ∃ rs, Recs W a len rs ∧ len ≤ maxLen := by
  obtain ⟨fuel, hf⟩ := h
  rcases Go.Deep.open_slice Try.underlying22 hf with ⟨hcs, _⟩ | ⟨x, l, c, m, n, D, Pl, hcs, _, hl, hm, hme, _, hel⟩
  · simp [Value.cells] at hcs
    obtain ⟨rfl, rfl, rfl⟩ := hcs
    exact ⟨[], ⟨rfl, .inl rfl⟩, by simp⟩
  · simp [Value.cells] at hcs
    obtain ⟨rfl, rfl, rfl⟩ := hcs
    have hm' : m = cap := by simpa using hme
    subst hm'
    obtain ⟨b, off, spot⟩ := x
    by_cases h0 : len = 0
    · exact ⟨[], ⟨h0.symm, .inl h0⟩, by omega⟩
    have hspot : spot = none := by
      obtain ⟨cs', hcs', _⟩ := hel 0 (by omega)
      rw [cells35] at hcs'
      obtain ⟨hlen, hget⟩ := cells_get hcs'
      obtain ⟨c0, c1, c2, c3, c4, rfl⟩ := five hlen
      have g0 := hget 0 c0 (by omega) rfl
      simpa [Addr.add] using World.cell?_spot g0
    subst hspot
    obtain ⟨rs, hrl, hrs⟩ := list_of (P := fun i r => RecAt W b (off + i * 5) r) len (fun i hi => by
      obtain ⟨cs', hcs', ht⟩ := hel i (by omega)
      rw [cells35, Go.WideShapes.add_plain] at hcs'
      exact view_rec hcs' ht)
    exact ⟨rs, ⟨hrl, .inr ⟨b, off, rfl, hrs⟩⟩, by omega⟩

end Go.Proofs.Qxb6600329a.Tab
