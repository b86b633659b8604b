import Derived.Test.Qxb6600388aSeqB
namespace Go.Proofs.Qxb6600388a.Seq
open Go.RowKit Go.ChangeShapes Go.WideShapes Go.ChangeAt
set_option linter.unusedVariables false

/-- The law's own bound: it says no, or every row is short. -/
def Short (e : Ending) (rows : List Row) : Prop := e = .returned (.bool false) ∨ (e = .returned (.bool true) ∧ ∀ r ∈ rows, r.len ≤ 1048576)

theorem take_row {rows : List Row} {k : Nat} {r : Row} (h : rows[k]? = some r) {p : Row → Prop} (h1 : ∀ x ∈ rows.take k, p x) (h2 : p r) : ∀ x ∈ rows.take (k + 1), p x := by
  obtain ⟨hk, e⟩ := List.getElem?_eq_some_iff.1 h
  rw [List.take_succ_eq_append_getElem hk, e]
  intro x hx
  rcases List.mem_append.1 hx with hx | hx
  · exact h1 x hx
  · rw [List.mem_singleton.1 hx]; exact h2

set_option maxHeartbeats 400000 in
theorem zb20 (a : Option Addr) (len cap : Nat) (rows : List Row) (major : Nat) (w : World) (h : Pls w a len rows) (hm : len ≤ maxLen) :
    Calls Try.prog 20 #[.slice a len cap, .int .u8 major] w fun e w' => Short e rows ∧ w = w' := by
  unfold maxLen at hm
  have HL : Hid (rows.length = len) := h.1
  go_enter Try.func20, Try.ntmps20
  go_wp2
  · go_ret
    exact ⟨.inl rfl, rfl⟩
  · go_loop [5, 6] (fun n i => ∃ k m : Nat, k ≤ len ∧ i = .int .i64 k ∧ n = .int .i64 m ∧ m ≤ 1048576 ∧ Hid (∀ r ∈ rows.take k, r.len ≤ 1048576)) (fun _ i => len - (intOf i).toNat)
    case atStart => exact ⟨0, len, Nat.zero_le _, rfl, by go_num, by omega, by simp [Hid]⟩
    case round =>
      obtain ⟨k, m, hk, rfl, rfl, hm1, HS⟩ := hrel
      by_cases hlt : k < len
      · obtain ⟨b, o, r, rfl, hr, hc, hok, _⟩ := h.at hlt
        have hsz : r.len ≤ 9223372036854775807 := hok.2.2
        have HR : Hid (rows[k]? = some r) := hr
        clear h hr hok
        obtain ⟨ra, rl, rcp, rz⟩ := r
        simp only at hc hsz
        go_wp2
        · go_ret
          exact ⟨.inl rfl, rfl⟩
        · go_ret
          exact ⟨.inl rfl, rfl⟩
        · go_round
          case rel => exact ⟨k + 1, m + rl, by omega, by go_num, by go_num, by omega, take_row HR.out HS.out (by show rl ≤ 1048576; omega)⟩
          case measure => simp [intOf]; omega
      · clear h
        go_wp2
        go_ret
        exact ⟨.inr ⟨rfl, by have h := HS.out; rwa [List.take_of_length_le (by rw [HL.out]; omega)] at h⟩, rfl⟩

set_option maxHeartbeats 400000 in
/-- ldgB1MinimalWidth. -/
theorem mw_calls (n : Nat) (w : World) (hn : n ≤ 18446744073709551615) : Calls Try.prog 23 #[.int .u64 n] w fun e w' => e = .returned (.int .u8 (minW n)) ∧ w = w' := by
  by_cases h1 : n < 24
  · have e : Hid (minW n = 0) := by simp [Hid, minW, h1]
    go_enter Try.func23, Try.ntmps23
    go_wp2
    go_ret
    exact ⟨by rw [e.out]; rfl, rfl⟩
  by_cases h2 : n ≤ 255
  · have e : Hid (minW n = 1) := by simp [Hid, minW, h1, h2]
    go_enter Try.func23, Try.ntmps23
    go_wp2
    go_ret
    exact ⟨by rw [e.out]; rfl, rfl⟩
  by_cases h3 : n ≤ 65535
  · have e : Hid (minW n = 2) := by simp [Hid, minW, h1, h2, h3]
    go_enter Try.func23, Try.ntmps23
    go_wp2
    go_ret
    exact ⟨by rw [e.out]; rfl, rfl⟩
  by_cases h4 : n ≤ 4294967295
  · have e : Hid (minW n = 3) := by simp [Hid, minW, h1, h2, h3, h4]
    go_enter Try.func23, Try.ntmps23
    go_wp2
    go_ret
    exact ⟨by rw [e.out]; rfl, rfl⟩
  · have e : Hid (minW n = 4) := by simp [Hid, minW, h1, h2, h3, h4]
    go_enter Try.func23, Try.ntmps23
    go_wp2
    go_ret
    exact ⟨by rw [e.out]; rfl, rfl⟩

theorem info23 : (Try.prog.info? 23).map (fun i => (i.zero, i.size, i.bytes)) = some (some (.slice none 0 0), 1, 24) := by kernel_rfl

/-- The outer row while it is filled. -/
def rowF (rows : List Row) (j : Nat) : Value := match rows[j]? with | some r => .slice r.a r.len r.cap | none => .slice none 0 0

theorem rowF_step {w : World} {g n : Nat} {rows : List Row} {r : Row} (h : w.rowIs g 23 n (rowF rows)) : (w.setCell ⟨g, rows.length, none⟩ (.slice r.a r.len r.cap)).rowIs g 23 n (rowF (rows ++ [r])) := by
  refine (h.set rows.length _).congr fun j _ => ?_
  unfold rowF
  by_cases e : j = rows.length
  · subst e; simp
  · rw [if_neg e]
    by_cases h1 : j < rows.length
    · rw [List.getElem?_append_left h1]
    · rw [List.getElem?_eq_none (by omega), List.getElem?_eq_none (by simp; omega)]

theorem Bts.kept {w w' : World} {a : Option Addr} {len g : Nat} {zs : List Int} (h : Bts w a len zs) (hne : ∀ b o, a = some ⟨b, o, none⟩ → b ≠ g) (hg : ∀ k, k < w.heap.size → k ≠ g → w'.heap[k]? = w.heap[k]?) : Bts w' a len zs := by
  obtain ⟨hl, hr, h0 | ⟨b, o, rfl, hc⟩⟩ := h
  · exact ⟨hl, hr, .inl h0⟩
  · refine ⟨hl, hr, .inr ⟨b, o, rfl, fun i hi => ?_⟩⟩
    rw [World.cell?_of_block (w := w) (hg b (cell_lt (hc i hi)) (hne b o rfl))]
    exact hc i hi

/-- A cloned row: it lies in another block than the outer row. -/
def CloneOk (w : World) (g : Nat) (r : Row) : Prop := RowOk w r ∧ ∀ b o, r.a = some ⟨b, o, none⟩ → b ≠ g

end Go.Proofs.Qxb6600388a.Seq
