import Derived.Test.Qxb6600388aSeqC
namespace Go.Proofs.Qxb6600388a.Seq
open Go.RowKit Go.ChangeShapes Go.WideShapes Go.ChangeAt
set_option linter.unusedVariables false

theorem cl_calls2 {a : Option Addr} {len cap : Nat} {zs : List Int} {w : World} (h : Bts w a len zs) (hnil : a = none → len = 0 ∧ cap = 0) (hm : len ≤ 1048576) :
    Calls Try.prog 10 #[.slice a len cap] w fun e w' => ∃ a' cap', e = .returned (.slice a' len cap') ∧ Bts w' a' len zs ∧ (a' = none → len = 0 ∧ cap' = 0) ∧ (∀ b o, a' = some ⟨b, o, none⟩ → w.heap.size ≤ b) ∧ Below w.heap.size w w' := by
  cases a with
  | none =>
    obtain ⟨rfl, rfl⟩ := hnil rfl
    refine (cl_nil w 0).mono ?_
    rintro e w' ⟨rfl, rfl⟩
    exact ⟨none, 0, rfl, h, fun _ => ⟨rfl, rfl⟩, fun b o e => (by cases e), Below.refl _ _⟩
  | some ad =>
    refine (cl_some ad len cap zs w h hm).mono ?_
    rintro e w' ⟨rfl, hb, hbel⟩
    exact ⟨_, len, rfl, hb, fun h => (by cases h), fun b o e => (by cases e; exact Nat.le_refl _), hbel⟩

theorem CloneOk.step {w w1 : World} {g : Nat} {r : Row} {v : Value} {k : Nat} (h : CloneOk w g r) (hb : Below w.heap.size w w1) : CloneOk (w1.setCell ⟨g, k, none⟩ v) g r := by
  refine ⟨⟨Bts.kept h.1.1 h.2 fun j hj hne => ?_, h.1.2⟩, h.2⟩
  rw [Below.heap_setCell _ _ _ _ (by exact hne)]
  exact hb.block j hj

theorem map_take_snoc {rows : List Row} {rows' : List Row} {k : Nat} {r : Row} {a' : Option Addr} {c' : Nat} (h : rows'.map (·.zs) = (rows.take k).map (·.zs)) (hr : rows[k]? = some r) : (rows' ++ [(⟨a', r.len, c', r.zs⟩ : Row)]).map (·.zs) = (rows.take (k + 1)).map (·.zs) := by
  obtain ⟨hk, e⟩ := List.getElem?_eq_some_iff.1 hr
  rw [List.take_succ_eq_append_getElem hk, e, List.map_append, List.map_append, h]
  rfl

set_option maxHeartbeats 1000000 in
theorem cal_some (ad : Addr) (len cap : Nat) (rows : List Row) (w : World) (h : Pls w (some ad) len rows) (hlen : len ≤ 65536) (hsh : ∀ r ∈ rows, r.len ≤ 1048576) :
    Calls Try.prog 21 #[.slice (some ad) len cap] w fun e w' => e = .returned (.slice (some ⟨w.heap.size, 0, none⟩) len len) ∧ (∃ rows', Pls w' (some ⟨w.heap.size, 0, none⟩) len rows' ∧ rows'.map (·.zs) = rows.map (·.zs)) ∧ Below w.heap.size w w' := by
  have hmk := run_make_row' (P := Try.prog) 38 23 (.slice none 0 0) 24 Try.underlying38 info23 rfl .i64 .i64 len (by omega) (by omega)
  have q : ∀ (w : World) (a : Option Addr) (n c n' c' : Nat), (binOp .eql 38 (.slice a n c) (.slice none n' c')).run Try.prog w = .ok (.bool a.isNone) w := fun w a n c n' c' => Lib.run_eql_slice_nil w 38 23 a n c n' c' Try.underlying38
  have hrow0 : Hid ((w.alloc (.cells (madeCells #[.slice none 0 0] len) 23)).rowIs w.heap.size 23 len (rowF [])) := (World.rowIs_made w (.slice none 0 0) len 23).congr (fun i _ => by simp [rowF])
  have HL : Hid (rows.length = len) := h.1
  have HSH : Hid (∀ r ∈ rows, r.len ≤ 1048576) := hsh
  clear hsh
  go_enter Try.func21, Try.ntmps21
  go_wp2
  clear hmk q
  go_loopw [4] (fun i wr => ∃ (k : Nat) (rows' : List Row), k ≤ len ∧ i = .int .i64 k ∧ Hid (rows'.length = k) ∧ Hid (rows'.map (·.zs) = (rows.take k).map (·.zs)) ∧ wr.rowIs w.heap.size 23 len (rowF rows') ∧ Hid (∀ r ∈ rows', CloneOk wr w.heap.size r) ∧ Below w.heap.size w wr) (fun i _ => len - (intOf i).toNat)
  case atStart => exact ⟨0, [], Nat.zero_le _, rfl, rfl, rfl, hrow0.out, by simp [Hid], (Below.refl _ _).alloc (Nat.le_refl _) _⟩
  case round =>
    obtain ⟨k, rows', hk, rfl, HRL, HMAP, hrow, HCL, hbel⟩ := hrel
    clear hrow0
    by_cases hlt : k < len
    · obtain ⟨b, o, r, e, hr, hc, hok, hzl⟩ := h.at hlt
      cases e
      have hbw : b < w.heap.size := cell_lt hc
      have hcx : wr.cell? ⟨b, o + k, none⟩ = some (.slice r.a r.len r.cap) := (hbel.cell (by exact hbw)).trans hc
      have hlr : r.len ≤ 1048576 := HSH.out r (List.mem_of_getElem? hr)
      have hbt : Bts wr r.a r.len r.zs := hok.1.later hbel
      have HRK : Hid (rows[k]? = some r) := hr
      have hnil := hok.2.1
      have H10 := cl_calls2 hbt hnil hlr
      clear h hr hok hc hnil hbt hzl
      obtain ⟨ra, rl, rcp, rz⟩ := r
      simp only at hcx hlr H10
      have HROW : Hid (wr.rowIs w.heap.size 23 len (rowF rows')) := hrow
      have hgw : w.heap.size < wr.heap.size := hrow.lt
      clear hrow
      go_wp2_with fail
      refine H10.mono ?_
      rintro e w1 ⟨a', cap', rfl, hb1, hnil1, hfar, hbel1⟩
      have hrow1 : w1.rowIs w.heap.size 23 len (rowF rows') := HROW.out.of_block (hbel1.block _ hgw)
      obtain ⟨v0, hv0⟩ : ∃ v0, w1.cell? ⟨w.heap.size, k, none⟩ = some v0 := ⟨_, hrow1.cell hlt⟩
      have hf0 : w1.frozen? ⟨w.heap.size, k, none⟩ = false := hrow1.frozen k
      have HR2 : Hid ((w1.setCell ⟨w.heap.size, k, none⟩ (.slice a' rl cap')).rowIs w.heap.size 23 len (rowF (rows' ++ [⟨a', rl, cap', rz⟩]))) := by
        have := rowF_step (r := ⟨a', rl, cap', rz⟩) hrow1
        rw [HRL.out] at this
        exact this
      have hoff : ∀ b o, a' = some ⟨b, o, none⟩ → b ≠ w.heap.size := fun b o e => by have := hfar b o e; omega
      have HC2 : Hid (∀ r ∈ rows' ++ [⟨a', rl, cap', rz⟩], CloneOk (w1.setCell ⟨w.heap.size, k, none⟩ (.slice a' rl cap')) w.heap.size r) := by
        intro x hx
        rcases List.mem_append.1 hx with hx | hx
        · exact (HCL.out x hx).step hbel1
        · rw [List.mem_singleton.1 hx]
          refine ⟨⟨Bts.kept hb1 hoff fun j _ hne => Below.heap_setCell _ _ _ _ (by exact hne), hnil1, ?_⟩, hoff⟩
          show rl ≤ maxLen
          unfold maxLen; omega
      have HM2 : Hid ((rows' ++ [(⟨a', rl, cap', rz⟩ : Row)]).map (·.zs) = (rows.take (k + 1)).map (·.zs)) := map_take_snoc HMAP.out HRK.out
      have HL2 : Hid ((rows' ++ [(⟨a', rl, cap', rz⟩ : Row)]).length = k + 1) := by show _ = _; rw [List.length_append, HRL.out]; rfl
      have hbelf : Below w.heap.size w (w1.setCell ⟨w.heap.size, k, none⟩ (.slice a' rl cap')) := (hbel.trans (hbel1.mono (Nat.le_of_lt hgw))).setCell (p := ⟨w.heap.size, k, none⟩) (Nat.le_refl _) _
      clear hb1 hnil1 hfar hbel1 hrow1 hbel hcx H10 HROW HCL HMAP HRL hoff
      go_wp2
      go_roundw
      case rel => exact ⟨k + 1, rows' ++ [⟨a', rl, cap', rz⟩], by omega, by go_num, HL2, HM2, HR2.out, HC2, hbelf⟩
      case measure => simp [intOf]; omega
    · obtain rfl : k = len := by omega
      have HP : Hid (Pls wr (some ⟨w.heap.size, 0, none⟩) k rows') := by
        refine ⟨HRL.out, fun r hr => (HCL.out r hr).1, .inr ⟨w.heap.size, 0, rfl, fun i r hi => ?_⟩⟩
        have hik : i < k := by
          have := (List.getElem?_eq_some_iff.1 hi).1
          rw [HRL.out] at this
          exact this
        rw [Nat.zero_add, hrow.cell hik]
        simp [rowF, hi]
      have HM : Hid (rows'.map (·.zs) = rows.map (·.zs)) := by
        have := HMAP.out
        rwa [List.take_of_length_le (by rw [HL.out]; exact Nat.le_refl _)] at this
      clear h hrow
      go_wp2
      go_ret
      exact ⟨rfl, ⟨rows', HP.out, HM.out⟩, hbel⟩

set_option maxHeartbeats 400000 in
theorem cal_nil (w : World) (cap : Nat) : Calls Try.prog 21 #[.slice none 0 cap] w fun e w' => e = .returned (.slice none 0 0) ∧ w = w' := by
  have q : ∀ (w : World) (a : Option Addr) (n c n' c' : Nat), (binOp .eql 38 (.slice a n c) (.slice none n' c')).run Try.prog w = .ok (.bool a.isNone) w := fun w a n c n' c' => Lib.run_eql_slice_nil w 38 23 a n c n' c' Try.underlying38
  go_enter Try.func21, Try.ntmps21
  go_wp2
  go_ret
  exact ⟨rfl, rfl⟩

/-- ldgB1CloneAll. -/
theorem cal_calls {a : Option Addr} {len cap : Nat} {rows : List Row} {w : World} (h : Pls w a len rows) (hnil : a = none → len = 0 ∧ cap = 0) (hlen : len ≤ 65536) (hsh : ∀ r ∈ rows, r.len ≤ 1048576) :
    Calls Try.prog 21 #[.slice a len cap] w fun e w' => ∃ a' cap' rows', e = .returned (.slice a' len cap') ∧ Pls w' a' len rows' ∧ rows'.map (·.zs) = rows.map (·.zs) ∧ Below w.heap.size w w' := by
  cases a with
  | none =>
    obtain ⟨rfl, rfl⟩ := hnil rfl
    refine (cal_nil w 0).mono ?_
    rintro e w' ⟨rfl, rfl⟩
    exact ⟨none, 0, rows, rfl, h, rfl, Below.refl _ _⟩
  | some ad =>
    refine (cal_some ad len cap rows w h hlen hsh).mono ?_
    rintro e w' ⟨rfl, ⟨rows', hp, hm⟩, hbel⟩
    exact ⟨_, len, rows', rfl, hp, hm, hbel⟩

end Go.Proofs.Qxb6600388a.Seq
