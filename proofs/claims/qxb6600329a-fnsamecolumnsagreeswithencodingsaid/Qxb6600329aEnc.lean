import Derived.Test.Qxb6600329aBase
import Derived.Test.Qxb6600329aCode
import Derived.OneCell
namespace Go.Proofs.Qxb6600329a.Enc
open Go.RowKit Go.ChangeShapes Go.WideShapes Go.ChangeAt

theorem info5 : (Try.prog.info? 5).map (fun i => (i.zero, i.size, i.bytes)) = some (some (.int .u8 0), 1, 1) := by kernel_rfl

/-- v is a []byte of the call's own (from block B on), or nil; its bytes are zs. -/
def OwnB (B : Nat) (w : World) (v : Value) (zs : List Int) : Prop := w.ownsRow B 5 1 v zs.length (zs.map (Value.int .u8))

theorem OwnB.snoc {B : Nat} {w : World} {v : Value} {zs : List Int} {x : Int} (h : w.ownsRow B 5 1 v (zs.length + 1) (zs.map (Value.int .u8) ++ [.int .u8 x])) : OwnB B w v (zs ++ [x]) := by
  unfold OwnB
  simpa using h

theorem OwnB.later {B : Nat} {w w' : World} {v : Value} {zs : List Int} (h : OwnB B w v zs) (hb : Below w.heap.size w w') : OwnB B w' v zs :=
  World.ownsRow.kept (row := none) h ⟨hb.os, hb.tape, hb.output, hb.size, fun k hk _ => hb.block k hk⟩ (by cases hv : v.ownBlock <;> simp)

theorem row_ne {B D : Nat} {w : World} {v : Value} {n : Nat} {xs : List Value} {f : Nat → Value} (h : w.ownsRow B 5 1 v n xs) (hr : w.rowIs D 60 24 f) : some D ≠ v.ownBlock := by
  intro e
  obtain ⟨c, hc, _⟩ := hr
  rcases h.2 with ⟨rfl, _⟩ | ⟨g, cap, cur, rfl, _, hg, _⟩
  · simp [Value.ownBlock] at e
  · simp [Value.ownBlock] at e
    subst e
    rw [hc] at hg
    simp at hg

theorem row_grown {B D : Nat} {w w1 : World} {v : Value} {n : Nat} {xs : List Value} {f : Nat → Value} {o : Obj} (h : w.ownsRow B 5 1 v n xs) (hr : w.rowIs D 60 24 f) (hg : (w.alloc o).grownBy w1 v.ownBlock) : w1.rowIs D 60 24 f :=
  hr.of_block ((hg.block D (by have := hr.lt; simp; omega) (row_ne h hr)).trans (Below.heap_alloc _ _ _ hr.lt))

theorem below_grown {B : Nat} {w0 w w1 : World} {v : Value} {n : Nat} {xs : List Value} {o : Obj} (hb : Below B w0 w) (h : w.ownsRow B 5 1 v n xs) (hB : B ≤ w.heap.size) (hg : (w.alloc o).grownBy w1 v.ownBlock) : Below B w0 w1 :=
  (hb.alloc hB o).grown hg (by simp; omega) (fun k hk => (h.lt k hk).1)

def rowFrom (g : Nat → Int) (j n : Nat) : List Int := (List.range' j n).map g

theorem rowFrom_snoc (g : Nat → Int) (j n : Nat) : rowFrom g j (n + 1) = rowFrom g j n ++ [g (j + n)] := by
  simp [rowFrom, List.range'_concat]

theorem rowFrom_step (g : Nat → Int) (d : Int) (j : Nat) (h : j < 24) : rowFrom (fun i => if i = j then d else g i) j (24 - j) = d :: rowFrom g (j + 1) (24 - (j + 1)) := by
  unfold rowFrom
  rw [show 24 - j = (24 - (j + 1)) + 1 by omega, List.range'_succ]
  simp only [List.map_cons, if_pos]
  congr 1
  apply List.map_congr_left
  intro i hi
  have := (List.mem_range'_1.1 hi).1
  rw [if_neg (by omega)]

theorem digs_step {j t : Nat} (h : t ≠ 0) (acc : List Int) : Code.digsAux (j + 1) t acc = Code.digsAux j (t / 10) ((48 + ((t % 10 : Nat) : Int)) :: acc) := by
  rw [Code.digsAux, if_neg h]

theorem digs_zero (j : Nat) (acc : List Int) : Code.digsAux j 0 acc = acc := by
  cases j <;> simp [Code.digsAux]

theorem row0 (w : World) : (w.alloc (.cells #[.int .u8 0, .int .u8 0, .int .u8 0, .int .u8 0, .int .u8 0, .int .u8 0, .int .u8 0, .int .u8 0, .int .u8 0, .int .u8 0, .int .u8 0, .int .u8 0, .int .u8 0, .int .u8 0, .int .u8 0, .int .u8 0, .int .u8 0, .int .u8 0, .int .u8 0, .int .u8 0, .int .u8 0, .int .u8 0, .int .u8 0, .int .u8 0] 60)).rowIs w.heap.size 60 24 (fun _ => .int .u8 0) := by
  have e : (#[.int .u8 0, .int .u8 0, .int .u8 0, .int .u8 0, .int .u8 0, .int .u8 0, .int .u8 0, .int .u8 0, .int .u8 0, .int .u8 0, .int .u8 0, .int .u8 0, .int .u8 0, .int .u8 0, .int .u8 0, .int .u8 0, .int .u8 0, .int .u8 0, .int .u8 0, .int .u8 0, .int .u8 0, .int .u8 0, .int .u8 0, .int .u8 0] : Array Value) = Array.replicate 24 (.int .u8 0) := rfl
  rw [e]
  have := World.rowIs_alloc w (Array.replicate 24 (.int .u8 0)) 60 (fun _ => .int .u8 0) (by intro i hi; simp at hi; simp [hi])
  simpa using this

set_option maxHeartbeats 1000000 in
theorem ad_pos (n : Nat) (v : Value) (zs : List Int) (w : World) (B : Nat) (hB : B ≤ w.heap.size) (hn : 0 < n) (hn2 : n ≤ 1048576) (hv : OwnB B w v zs) (hm : zs.length ≤ 10000000) :
    Calls Try.prog 30 #[v, .int .i64 n] w fun e w' => ∃ v', e = .returned v' ∧ OwnB B w' v' (zs ++ Code.digits n) ∧ Below B w w' := by
  obtain ⟨i0, hi, hz0, hz1, hz2⟩ := info_parts info5
  have hr0 := row0 w
  have HR0 : Hid _ := hr0
  clear hr0
  go_enter Try.func30, Try.ntmps30
  go_wp2
  go_loopw [1, 6] (fun a b wr => ∃ (t j : Nat) (g : Nat → Int), j ≤ 24 ∧ a = .int .i64 t ∧ b = .int .i64 j ∧ t ≤ 1048576 ∧ wr.rowIs w.heap.size 60 24 (fun i => .int .u8 (g i)) ∧ Below w.heap.size w wr ∧ Hid (t < 10 ^ j) ∧ Hid (Code.digsAux j t (rowFrom g j (24 - j)) = Code.digsAux 24 n [])) (fun a _ _ => (intOf a).toNat)
  case atStart => exact ⟨n, 24, fun _ => 0, Nat.le_refl _, rfl, rfl, hn2, HR0.out, (Below.refl _ _).alloc (Nat.le_refl _) _, by show n < 10 ^ 24; omega, by show _ = _; rfl⟩
  case round =>
    obtain ⟨t, j, g, hj, rfl, rfl, ht, hrow, hbel, HT, HD⟩ := hrel
    clear HR0
    by_cases ht0 : 0 < t
    · obtain ⟨j, rfl⟩ : ∃ j', j = j' + 1 := by
        cases j with
        | zero => have := HT.out; simp at this; omega
        | succ j => exact ⟨j, rfl⟩
      obtain ⟨v0, hv0⟩ : ∃ v0, wr.cell? ⟨w.heap.size, j, none⟩ = some v0 := ⟨_, hrow.cell (by omega)⟩
      have hf0 : wr.frozen? ⟨w.heap.size, j, none⟩ = false := hrow.frozen j
      have HROW : Hid (wr.rowIs w.heap.size 60 24 (fun i => .int .u8 (g i))) := hrow
      clear hrow
      go_wp2
      go_roundw
      case rel =>
        refine ⟨t / 10, j, (fun i => if i = j then (48 + ((t % 10 : Nat) : Int)) else g i), by omega, by go_num, by go_num, by omega, ?_, hbel.setCell (Nat.le_refl _) _, ?_, ?_⟩
        · refine (HROW.out.set j (.int .u8 (48 + ((t % 10 : Nat) : Int)))).congr fun i _ => ?_
          by_cases e : i = j <;> simp [e]
        · have h := HT.out
          rw [Nat.pow_succ] at h
          show t / 10 < 10 ^ j
          omega
        · have h := HD.out
          rw [digs_step (by omega)] at h
          rw [rowFrom_step g _ j (by omega)]
          exact h
      case measure => simp [intOf]; omega
    · have HDG : Hid (rowFrom g j (24 - j) = Code.digits n) := by
        have h := HD.out
        rw [show t = 0 by omega, digs_zero] at h
        show _ = _
        rw [h, Code.digits, if_neg (by omega)]
      have hv1 : OwnB B wr v zs := hv.later hbel
      have hbel1 : Below B w wr := hbel.mono hB
      have HSZ : Hid (B ≤ wr.heap.size) := Nat.le_trans hB hbel.size
      clear HD HT hbel hv
      go_wp2
      obtain ⟨wo, rfl⟩ : ∃ wo : World, wo = wr := ⟨_, rfl⟩
      have hlt0 : w.heap.size < wo.heap.size := hrow.lt
      go_loopw [0, 6] (fun a b wr => ∃ (i : Nat) (v : Value), j ≤ i ∧ i ≤ 24 ∧ v = a ∧ b = .int .i64 i ∧ OwnB B wr v (zs ++ rowFrom g j (i - j)) ∧ wr.rowIs w.heap.size 60 24 (fun i => .int .u8 (g i)) ∧ Below B w wr ∧ B ≤ wr.heap.size) (fun _ b _ => 24 - (intOf b).toNat)
      case atStart => exact ⟨j, v, Nat.le_refl _, hj, rfl, rfl, by simpa [rowFrom] using hv1, hrow, hbel1, HSZ.out⟩
      case round =>
        clear hv1 hrow hbel1 HSZ
        obtain ⟨i, v1, hji, hi24, rfl, rfl, hown, hrow, hbel, hsz⟩ := hrel
        by_cases hlt : i < 24
        · have hci : wr.cell? ⟨w.heap.size, i, none⟩ = some (.int .u8 (g i)) := hrow.cell hlt
          obtain ⟨L, hL⟩ : ∃ L, L = zs ++ rowFrom g j (i - j) := ⟨_, rfl⟩
          have hll : L.length ≤ 10000024 := by rw [hL]; simp [rowFrom]; omega
          have HOWN : Hid (OwnB B wr v1 L) := by rw [hL]; exact hown
          have HL : Hid (L = zs ++ rowFrom g j (i - j)) := hL
          clear hL
          have HROW : Hid (wr.rowIs w.heap.size 60 24 (fun i => .int .u8 (g i))) := hrow
          clear hown hrow
          go_wp2_with (at_builtin; refine wpList_append_own _ rfl _ _ 41 rfl B 5 i0 (.int .u8 0) 1 1 Try.underlying41 hi hz0 hz1 hz2 rfl (by decide) _ _ _ rfl (World.ownsRow.alloc HOWN.out _) ⟨wr.heap.size, 0, none⟩ 1 1 [.int .u8 (g i)] rfl rfl (cell_one_new _ _ _) (ints_oneCell .u8 [g i]) (by unfold maxLen; omega) (by omega) (by simp; omega) ?_)
          intro v' w1 hown' hgrow _
          have R1 := OwnB.snoc hown'
          have R2 := row_grown HOWN.out HROW.out hgrow
          have R3 := below_grown hbel HOWN.out hsz hgrow
          have R4 : B ≤ w1.heap.size := Nat.le_trans hsz (Nat.le_trans (by simp) hgrow.size)
          clear hown' hgrow HOWN HROW hbel
          go_wp2
          go_roundw
          case rel =>
            refine ⟨i + 1, v', by omega, by omega, rfl, by go_num, ?_, R2, R3, R4⟩
            rw [show i + 1 - j = (i - j) + 1 by omega, rowFrom_snoc, ← List.append_assoc, show j + (i - j) = i by omega, ← HL.out]
            exact R1
          case measure => simp [intOf]; omega
        · obtain rfl : i = 24 := by omega
          rw [HDG.out] at hown
          have HOWN : Hid (OwnB B wr v1 (zs ++ Code.digits n)) := hown
          clear hown hrow
          go_wp2
          go_ret
          exact ⟨v1, rfl, HOWN.out, hbel⟩

set_option maxHeartbeats 1000000 in
theorem ad_zero (v : Value) (zs : List Int) (w : World) (B : Nat) (hB : B ≤ w.heap.size) (hv : OwnB B w v zs) (hm : zs.length ≤ 10000000) :
    Calls Try.prog 30 #[v, .int .i64 0] w fun e w' => ∃ v', e = .returned v' ∧ OwnB B w' v' (zs ++ [48]) ∧ Below B w w' := by
  obtain ⟨i0, hi, hz0, hz1, hz2⟩ := info_parts info5
  have HV : Hid (OwnB B w v zs) := hv
  clear hv
  go_enter Try.func30, Try.ntmps30
  go_wp2_with (at_builtin; refine wpList_append_own _ rfl _ _ 41 rfl B 5 i0 (.int .u8 0) 1 1 Try.underlying41 hi hz0 hz1 hz2 rfl (by decide) _ _ _ rfl (World.ownsRow.alloc HV.out _) ⟨w.heap.size, 0, none⟩ 1 1 [.int .u8 48] rfl rfl (cell_one_new _ _ _) (ints_oneCell .u8 [48]) (by unfold maxLen; omega) (by omega) (by simp; omega) ?_)
  intro v' w1 hown' hgrow _
  have R1 := OwnB.snoc hown'
  have R3 := below_grown (Below.refl B w) HV.out hB hgrow
  clear hown' hgrow HV
  go_wp2
  go_ret
  exact ⟨v', rfl, R1, R3⟩

/-- appendDecimal. -/
theorem ad_calls (n : Nat) (v : Value) (zs : List Int) (w : World) (B : Nat) (hB : B ≤ w.heap.size) (hn2 : n ≤ 1048576) (hv : OwnB B w v zs) (hm : zs.length ≤ 10000000) :
    Calls Try.prog 30 #[v, .int .i64 n] w fun e w' => ∃ v', e = .returned v' ∧ OwnB B w' v' (zs ++ Code.digits n) ∧ Below B w w' := by
  by_cases h0 : n = 0
  · subst h0
    exact ad_zero v zs w B hB hv hm
  · exact ad_pos n v zs w B hB (by omega) hn2 hv hm

theorem encode_bound {ss : List ByteArray} {len : Nat} (hl : ss.length = len) (hlen : len ≤ 65536) (ht : total ss ≤ 1048576) (k : Nat) : (Code.encode (ss.take k)).length ≤ 25 * 65536 + 1048576 := by
  have h1 := Code.length_encode (ss.take k)
  have h2 : ((ss.take k).map (·.size)).sum ≤ (ss.map (·.size)).sum := by
    conv => rhs; rw [← List.take_append_drop k ss]
    rw [List.map_append, List.sum_append]
    omega
  have h3 : (ss.take k).length ≤ 65536 := by simp; omega
  unfold total at ht
  omega

theorem size_bound {ss : List ByteArray} {k : Nat} (hk : k < ss.length) (ht : total ss ≤ 1048576) : (ss.getD k ByteArray.empty).size ≤ 1048576 := by
  have h1 := total_snoc ss k hk
  have h2 : total (ss.take (k + 1)) ≤ total ss := by
    unfold total
    conv => rhs; rw [← List.take_append_drop (k + 1) ss]
    rw [List.map_append, List.sum_append]
    omega
  omega

theorem take_bytes_all (s : ByteArray) : (Code.bytes s).take s.size = Code.bytes s := List.take_of_length_le (by rw [Code.length_bytes]; exact Nat.le_refl _)

set_option maxHeartbeats 1000000 in
/-- encodeCols, at a slice that is not empty. -/
theorem ec_pos (b o len cap : Nat) (ss : List ByteArray) (w : World) (hlen : len ≤ 65536) (ht : total ss ≤ 1048576) (hl : ss.length = len) (hbw : b < w.heap.size)
    (hc : ∀ i, i < len → w.cell? ⟨b, o + i, none⟩ = some (.string (ss.getD i ByteArray.empty))) :
    Calls Try.prog 23 #[.slice (some ⟨b, o, none⟩) len cap] w fun e w' => ∃ v', e = .returned v' ∧ OwnB w.heap.size w' v' (Code.encode ss) ∧ Below w.heap.size w w' := by
  obtain ⟨i0, hi, hz0, hz1, hz2⟩ := info_parts info5
  have HL : Hid (ss.length = len) := hl
  have HTT : Hid (total ss ≤ 1048576) := ht
  clear hl ht
  go_enter Try.func23, Try.ntmps23
  go_wp2
  go_loopw [3, 4] (fun a i wr => ∃ (k : Nat) (v : Value), k ≤ len ∧ v = a ∧ i = .int .i64 k ∧ OwnB w.heap.size wr v (Code.encode (ss.take k)) ∧ Below w.heap.size w wr) (fun _ i _ => len - (intOf i).toNat)
  case atStart => exact ⟨0, _, Nat.zero_le _, rfl, rfl, World.ownsRow_nil _ _ _ _, Below.refl _ _⟩
  case round =>
    obtain ⟨k, v, hk, rfl, rfl, hown, hbel⟩ := hrel
    by_cases hlt : k < len
    · obtain ⟨s, hsn⟩ : ∃ s, s = ss.getD k ByteArray.empty := ⟨_, rfl⟩
      have hcx : wr.cell? ⟨b, o + k, none⟩ = some (.string s) := by rw [hsn]; exact (hbel.cell (by exact hbw)).trans (hc k hlt)
      have hsz : s.size ≤ 1048576 := by rw [hsn]; exact size_bound (by rw [HL.out]; exact hlt) HTT.out
      obtain ⟨L, hL⟩ : ∃ L, L = Code.encode (ss.take k) := ⟨_, rfl⟩
      have hll : L.length ≤ 2686976 := by rw [hL]; exact encode_bound HL.out hlen HTT.out k
      rw [← hL] at hown
      have HE : Hid (Code.encode (ss.take (k + 1)) = L ++ Code.enc1 s) := by rw [hsn, hL]; exact Code.encode_snoc ss k (by rw [HL.out]; exact hlt)
      have hws : w.heap.size ≤ wr.heap.size := hbel.size
      clear hsn hL hc
      go_wp2_with fail
      refine (ad_calls s.size v L wr w.heap.size hws hsz hown (by omega)).mono ?_
      rintro e w1 ⟨v1, rfl, hown1, hbel1⟩
      clear hown
      have hcx1 : w1.cell? ⟨b, o + k, none⟩ = some (.string s) := (hbel1.cell (by exact hbw)).trans hcx
      clear hcx
      have hb1 := hbel.trans hbel1
      have hws1 : w.heap.size ≤ w1.heap.size := Nat.le_trans hws hbel1.size
      obtain ⟨L1, hL1⟩ : ∃ L1, L1 = L ++ Code.digits s.size := ⟨_, rfl⟩
      rw [← hL1] at hown1
      have hll1 : L1.length ≤ 2687000 := by rw [hL1]; have := Code.length_digits s.size; simp; omega
      have HL1 : Hid (L1 = L ++ Code.digits s.size) := hL1
      have HOWN : Hid (OwnB w.heap.size w1 v1 L1) := hown1
      clear hL1 hown1 hbel hbel1
      go_wp2_with (at_builtin; refine wpList_append_own _ rfl _ _ 41 rfl w.heap.size 5 i0 (.int .u8 0) 1 1 Try.underlying41 hi hz0 hz1 hz2 rfl (by decide) _ _ _ rfl (World.ownsRow.alloc HOWN.out _) ⟨w1.heap.size, 0, none⟩ 1 1 [.int .u8 58] rfl rfl (cell_one_new _ _ _) (ints_oneCell .u8 [58]) (by unfold maxLen; omega) (by omega) (by simp; omega) ?_)
      intro v2 w2 hown2 hgrow2 _
      have R1 := OwnB.snoc hown2
      have R3 := below_grown hb1 HOWN.out hws1 hgrow2
      have R4 : w.heap.size ≤ w2.heap.size := Nat.le_trans hws1 (Nat.le_trans (by simp) hgrow2.size)
      have hcx2 : w2.cell? ⟨b, o + k, none⟩ = some (.string s) := (((below_grown (Below.refl w.heap.size w1) HOWN.out hws1 hgrow2)).cell (by exact hbw)).trans hcx1
      clear hown2 hgrow2 HOWN hcx1 hb1
      go_wp2
      clear hcx2
      obtain ⟨wo, rfl⟩ : ∃ wo : World, wo = wr := ⟨_, rfl⟩
      obtain ⟨L2, hL2⟩ : ∃ L2, L2 = L1 ++ [58] := ⟨_, rfl⟩
      rw [← hL2] at R1
      have hll2 : L2.length ≤ 2687001 := by rw [hL2]; simp; omega
      have HE2 : Hid (Code.encode (ss.take (k + 1)) = L2 ++ Code.bytes s) := by
        show _ = _
        rw [HE.out, hL2, HL1.out, Code.enc1]
        simp
      clear hL2 HE HL1
      go_loopw [3, 6] (fun a i wr => ∃ (j : Nat) (v : Value), j ≤ s.size ∧ v = a ∧ i = .int .i64 j ∧ OwnB w.heap.size wr v (L2 ++ (Code.bytes s).take j) ∧ Below w.heap.size w wr) (fun _ i _ => s.size - (intOf i).toNat)
      case atStart => exact ⟨0, _, Nat.zero_le _, rfl, rfl, by simpa using R1, R3⟩
      case round =>
        clear R1 R3
        obtain ⟨j, v3, hj, rfl, rfl, hown, hbel⟩ := hrel
        by_cases hjs : j < s.size
        · obtain ⟨L3, hL3⟩ : ∃ L3, L3 = L2 ++ (Code.bytes s).take j := ⟨_, rfl⟩
          rw [← hL3] at hown
          have hll3 : L3.length ≤ 3735577 := by rw [hL3]; simp; omega
          have HB : Hid (L2 ++ (Code.bytes s).take (j + 1) = L3 ++ [(s[j].toNat : Int)]) := by
            show _ = _
            rw [hL3, Code.bytes_snoc s j hjs]
            simp
          have HOWN : Hid (OwnB w.heap.size wr v3 L3) := hown
          have hws3 : w.heap.size ≤ wr.heap.size := hbel.size
          clear hown hL3
          go_wp2_with (at_builtin; refine wpList_append_own _ rfl _ _ 41 rfl w.heap.size 5 i0 (.int .u8 0) 1 1 Try.underlying41 hi hz0 hz1 hz2 rfl (by decide) _ _ _ rfl (World.ownsRow.alloc HOWN.out _) ⟨wr.heap.size, 0, none⟩ 1 1 [.int .u8 (s[j].toNat : Int)] rfl rfl (cell_one_new _ _ _) (ints_oneCell .u8 [(s[j].toNat : Int)]) (by unfold maxLen; omega) (by omega) (by simp; omega) ?_)
          intro v4 w4 hown4 hgrow4 _
          have Q1 := OwnB.snoc hown4
          have Q3 := below_grown hbel HOWN.out hws3 hgrow4
          clear hown4 hgrow4 HOWN hbel
          go_wp2
          go_roundw
          case rel => exact ⟨j + 1, v4, by omega, rfl, by go_num, by rw [HB.out]; exact Q1, Q3⟩
          case measure => simp [intOf]; omega
        · obtain rfl : j = s.size := by omega
          have HOWN : Hid (OwnB w.heap.size wr v3 (Code.encode (ss.take (k + 1)))) := by rw [HE2.out]; have h := hown; rw [take_bytes_all] at h; exact h
          clear hown
          go_wp2
          go_roundw
          case rel => exact ⟨k + 1, v3, by omega, rfl, by go_num, HOWN.out, hbel⟩
          case measure => simp [intOf]; omega
    · clear hc
      have HOWN : Hid (OwnB w.heap.size wr v (Code.encode ss)) := by have h := hown; rw [List.take_of_length_le (by rw [HL.out]; omega)] at h; exact h
      clear hown
      go_wp2
      go_ret
      exact ⟨v, rfl, HOWN.out, hbel⟩

end Go.Proofs.Qxb6600329a.Enc
