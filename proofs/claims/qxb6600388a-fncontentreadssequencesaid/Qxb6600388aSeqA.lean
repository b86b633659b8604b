import Derived.Test.Qxb6600388aCont2
import Derived.Deep.AppendLies
import Derived.Deep.Slices
namespace Go.Proofs.Qxb6600388a.Seq
open Go.RowKit Go.ChangeShapes Go.WideShapes Go.ChangeAt
set_option linter.unusedVariables false

/-- v is a []byte of the call's own (from block B on), or nil; its bytes are zs. -/
def OwnB (B : Nat) (w : World) (v : Value) (zs : List Int) : Prop := w.ownsRow B 5 1 v zs.length (zs.map (Value.int .u8))

theorem OwnB.snoc {B : Nat} {w : World} {v : Value} {zs : List Int} {x : Int} (h : w.ownsRow B 5 1 v (zs.length + 1) (zs.map (Value.int .u8) ++ [.int .u8 x])) : OwnB B w v (zs ++ [x]) := by
  unfold OwnB
  simpa using h

theorem OwnB.view {B : Nat} {w : World} {v : Value} {zs : List Int} (h : OwnB B w v zs) (hr : ∀ z ∈ zs, 0 ≤ z ∧ z ≤ 255) : ∃ a cap, v = .slice a zs.length cap ∧ Bts w a zs.length zs ∧ zs.length ≤ cap ∧ cap ≤ maxLen ∧ (a = none → zs.length = 0 ∧ cap = 0) := by
  have h' := h
  rcases h.2 with ⟨rfl, h0⟩ | ⟨g, cap, cur, rfl, _, hg, h1, h2, _, htake⟩
  · rw [h0]
    exact ⟨none, 0, rfl, ⟨h0, hr, .inl rfl⟩, Nat.le_refl _, by simp, fun _ => ⟨rfl, rfl⟩⟩
  · refine ⟨_, cap, rfl, ⟨rfl, hr, .inr ⟨g, 0, rfl, fun i hi => ?_⟩⟩, h1, h2, fun e => by cases e⟩
    have := World.ownsRow.cells h' (g := g) rfl i (.int .u8 (zs.getD i 0)) (by simp [List.getD, hi])
    rwa [Addr.add_lit] at this

theorem below_grown {B : Nat} {w0 w w1 : World} {v : Value} {e : TypeId} {sz n : Nat} {xs : List Value} {o : Obj} (hb : Below B w0 w) (h : w.ownsRow B e sz v n xs) (hB : B ≤ w.heap.size) (hg : (w.alloc o).grownBy w1 v.ownBlock) : Below B w0 w1 :=
  (hb.alloc hB o).grown hg (by simp; omega) (fun k hk => (h.lt k hk).1)

set_option maxHeartbeats 400000 in
theorem aa_zero (v : Value) (a : Option Addr) (cap : Nat) (w : World) : Calls Try.prog 22 #[v, .slice a 0 cap] w fun e w' => e = .returned v ∧ w = w' := by
  go_enter Try.func22, Try.ntmps22
  go_wp2
  refine wp_loop_rounds 1 ?_
  rw [rounds_succ]
  go_wp2
  go_ret
  exact ⟨rfl, rfl⟩

set_option maxHeartbeats 1000000 in
theorem aa_pos (v : Value) (b o len cap : Nat) (zs ys : List Int) (w : World) (B : Nat) (hB : B ≤ w.heap.size) (hv : OwnB B w v zs) (hyl : ys.length = len) (hlen : len ≤ 4194304) (hzl : zs.length ≤ 16777216) (hbw : b < w.heap.size) (hne : v.ownBlock ≠ some b)
    (hc : ∀ i, i < len → w.cell? ⟨b, o + i, none⟩ = some (.int .u8 (ys.getD i 0))) :
    Calls Try.prog 22 #[v, .slice (some ⟨b, o, none⟩) len cap] w fun e w' => ∃ v', e = .returned v' ∧ OwnB B w' v' (zs ++ ys) ∧ Below B w w' := by
  obtain ⟨i0, hi, hz0, hz1, hz2⟩ := info_parts info5
  have HYL : Hid (ys.length = len) := hyl
  have HC : Hid (∀ i, i < len → w.cell? ⟨b, o + i, none⟩ = some (.int .u8 (ys.getD i 0))) := hc
  have HV : Hid (OwnB B w v zs) := hv
  have HNE : Hid (v.ownBlock ≠ some b) := hne
  clear hyl hc hv hne
  go_enter Try.func22, Try.ntmps22
  go_wp2
  go_loopw [0, 5] (fun a i wr => ∃ (k : Nat) (v : Value), k ≤ len ∧ v = a ∧ i = .int .i64 k ∧ OwnB B wr v (zs ++ ys.take k) ∧ Hid (v.ownBlock ≠ some b) ∧ Below B w wr ∧ Hid (∀ i, i < len → wr.cell? ⟨b, o + i, none⟩ = some (.int .u8 (ys.getD i 0))) ∧ b < wr.heap.size ∧ B ≤ wr.heap.size) (fun _ i _ => len - (intOf i).toNat)
  case atStart => exact ⟨0, v, Nat.zero_le _, rfl, rfl, by simpa using HV.out, HNE, Below.refl _ _, HC, hbw, hB⟩
  case round =>
    obtain ⟨k, v1, hk, rfl, rfl, hown, HN1, hbel, HC1, hb1, hB1⟩ := hrel
    clear HV HNE HC
    by_cases hlt : k < len
    · obtain ⟨x, hxn⟩ : ∃ x, x = ys.getD k 0 := ⟨_, rfl⟩
      have hcx : wr.cell? ⟨b, o + k, none⟩ = some (.int .u8 x) := by rw [hxn]; exact HC1.out k hlt
      obtain ⟨L, hL⟩ : ∃ L, L = zs ++ ys.take k := ⟨_, rfl⟩
      rw [← hL] at hown
      have hll : L.length ≤ 20971520 := by rw [hL]; simp; omega
      have HE : Hid (zs ++ ys.take (k + 1) = L ++ [x]) := by
        show _ = _
        have hk' : k < ys.length := by rw [HYL.out]; exact hlt
        rw [hL, hxn, List.take_succ_eq_append_getElem hk']
        simp [List.getD, hk']
      have HOWN : Hid (OwnB B wr v1 L) := hown
      clear hown hxn hL
      go_wp2_with (at_builtin; refine wpList_append_lies _ rfl _ _ 23 rfl B 5 i0 (.int .u8 0) 1 1 Try.underlying23 hi hz0 hz1 hz2 rfl (by decide) _ _ _ rfl (World.ownsRow.alloc HOWN.out _) ⟨wr.heap.size, 0, none⟩ 1 1 [.int .u8 x] rfl rfl (cell_one_new _ _ _) (ints_oneCell .u8 [x]) (by omega) (by unfold maxLen; omega) (by omega) (by simp; omega) (wr.heap.size + 1) (by simp) ?_)
      intro g cap' w1 hown1 hgrow hat hgl
      have R1 := OwnB.snoc hown1
      have R3 := below_grown hbel HOWN.out hB1 hgrow
      have hgb : g ≠ b := by
        rcases hat with e | e
        · intro e2; subst e2; exact HN1.out e
        · omega
      have RN : Hid ((Value.slice (some ⟨g, 0, none⟩) (L.length + 1) cap').ownBlock ≠ some b) := by
        show _ ≠ _
        simpa [Value.ownBlock] using hgb
      have RC : Hid (∀ i, i < len → w1.cell? ⟨b, o + i, none⟩ = some (.int .u8 (ys.getD i 0))) := fun i hi => by
        rw [World.grownBy.cell_far hgrow _ (by simp; omega) (fun e => HN1.out e.symm), World.cell?_alloc_past _ _ _ (by exact hb1)]
        exact HC1.out i hi
      have Rb : b < w1.heap.size := Nat.lt_of_lt_of_le hb1 (Nat.le_trans (by simp) hgrow.size)
      have RB : B ≤ w1.heap.size := Nat.le_trans hB1 (Nat.le_trans (by simp) hgrow.size)
      clear hown1 hgrow HOWN HC1 HN1 hbel hat hcx
      go_wp2
      go_roundw
      case rel => exact ⟨k + 1, _, by omega, rfl, by go_num, by rw [HE.out]; exact R1, RN, R3, RC, Rb, RB⟩
      case measure => simp [intOf]; omega
    · have HOWN : Hid (OwnB B wr v1 (zs ++ ys)) := by have h := hown; rw [List.take_of_length_le (by rw [HYL.out]; omega)] at h; exact h
      clear hown
      go_wp2
      go_ret
      exact ⟨v1, rfl, HOWN.out, hbel⟩

/-- ldgB1AppendAll. -/
theorem aa_calls {v : Value} {a : Option Addr} {len cap : Nat} {zs ys : List Int} {w : World} {B : Nat} (hB : B ≤ w.heap.size) (hv : OwnB B w v zs) (hs : Bts w a len ys) (hlen : len ≤ 4194304) (hzl : zs.length ≤ 16777216) (hne : 0 < len → ∀ b o, a = some ⟨b, o, none⟩ → v.ownBlock ≠ some b) :
    Calls Try.prog 22 #[v, .slice a len cap] w fun e w' => ∃ v', e = .returned v' ∧ OwnB B w' v' (zs ++ ys) ∧ Below B w w' := by
  obtain ⟨hl, hr, hc⟩ := hs
  by_cases h0 : len = 0
  · subst h0
    obtain rfl := List.eq_nil_of_length_eq_zero hl
    refine (aa_zero v a cap w).mono ?_
    rintro e w' ⟨rfl, rfl⟩
    exact ⟨v, rfl, by simpa using hv, Below.refl _ _⟩
  · rcases hc with hc | ⟨b, o, rfl, hc⟩
    · exact absurd hc h0
    · exact aa_pos v b o len cap zs ys w B hB hv hl hlen hzl (cell_lt (hc 0 (by omega))) (hne (by omega) b o rfl) hc

end Go.Proofs.Qxb6600388a.Seq
