import Derived.Test.Qxb6600388aSeqD
namespace Go.Proofs.Qxb6600388a.Seq
open Go.RowKit Go.ChangeShapes Go.WideShapes Go.ChangeAt
set_option linter.unusedVariables false

theorem OwnB.later {B : Nat} {w w' : World} {v : Value} {zs : List Int} (h : OwnB B w v zs) (hb : Below w.heap.size w w') : OwnB B w' v zs :=
  World.ownsRow.kept (row := none) h ⟨hb.os, hb.tape, hb.output, hb.size, fun k hk _ => hb.block k hk⟩ (by cases hv : v.ownBlock <;> simp)

theorem zs_at {rows : List Row} {k : Nat} {r : Row} (h : rows[k]? = some r) : (rows.map (·.zs))[k]? = some r.zs := by
  rw [List.getElem?_map, h]; rfl

theorem bits_and7 (a : Nat) (ha : a ≤ 255) : bits .and .u8 (a : Int) 7 = ((a % 8 : Nat) : Int) := by
  have := u8_and_nat a 7 (by omega) (by omega)
  rw [show a &&& 7 = a % 8 from Nat.and_two_pow_sub_one_eq_mod a 3] at this
  exact this

set_option maxHeartbeats 1000000 in
theorem main7_long (a : Option Addr) (len cap : Nat) (rows : List Row) (major : Nat) (w : World) (h : Pls w a len rows) (hm : len ≤ maxLen) (hl : 65536 < len) :
    Calls Try.prog 7 #[.slice a len cap, .int .u8 major] w fun e w' => e = .returned (.bool true) ∧ Below w.heap.size w w' := by
  have H20 := zb20 a len cap rows major w h hm
  unfold maxLen at hm
  clear h
  go_enter Try.func7, Try.ntmps7
  go_wp2_with fail
  refine H20.mono ?_
  rintro e w' ⟨hs, rfl⟩
  rcases hs with rfl | ⟨rfl, _⟩
  · go_wp2; go_ret; exact ⟨rfl, Below.refl _ _⟩
  · go_wp2; go_ret; exact ⟨rfl, Below.refl _ _⟩

theorem other_ne (major : Nat) : (((major + 1) % 8 : Nat) : Int) ≠ (major : Int) ∨ 7 < major := by omega

theorem headOf_seq {major : Nat} {zs : List Int} (hz : zs.length ≤ 18446744073709551615) (tail : List Int) : Code.headOf (enc1 major zs ++ tail) = ((major : Int), (Code.infoOf (minW zs.length) zs.length : Int), zs.length, 1 + Code.argLen (minW zs.length)) := by
  rw [enc1, List.append_assoc]
  exact Code.headOf_enc (fits_minW _ hz) _

set_option maxHeartbeats 4000000 in
theorem main7_in (a : Option Addr) (len cap : Nat) (rows : List Row) (major : Nat) (w : World) (h : Pls w a len rows) (hnil : a = none → len = 0 ∧ cap = 0) (hlen : len ≤ 65536) (hmj : major ≤ 255) :
    Calls Try.prog 7 #[.slice a len cap, .int .u8 major] w fun e w' => e = .returned (.bool true) ∧ Below w.heap.size w w' := by
  have H20 := zb20 a len cap rows major w h (by unfold maxLen; omega)
  have q23n : ∀ (w : World) (a : Option Addr) (n c n' c' : Nat), (binOp .neq 23 (.slice a n c) (.slice none n' c')).run Try.prog w = .ok (.bool (!a.isNone)) w := fun w a n c n' c' => run_neq_slice_nil_any w 23 5 a n c n' c' Try.underlying23
  have q23e : ∀ (w : World) (a : Option Addr) (n c n' c' : Nat), (binOp .eql 23 (.slice a n c) (.slice none n' c')).run Try.prog w = .ok (.bool a.isNone) w := fun w a n c n' c' => Lib.run_eql_slice_nil w 23 5 a n c n' c' Try.underlying23
  have HL : Hid (rows.length = len) := h.1
  have HNIL : Hid (a = none → len = 0 ∧ cap = 0) := hnil
  clear hnil
  obtain ⟨pl, hpl⟩ : ∃ pl, pl = rows.map (·.zs) := ⟨_, rfl⟩
  have HPL : Hid (pl = rows.map (·.zs)) := hpl
  have HPLL : Hid (pl.length = len) := by rw [hpl, List.length_map]; exact HL
  clear hpl
  go_enter Try.func7, Try.ntmps7
  go_wp2_with fail
  refine H20.mono ?_
  rintro e w' ⟨hs, rfl⟩
  clear H20
  rcases hs with rfl | ⟨rfl, hsh⟩
  · clear h q23n q23e
    go_wp2; go_ret; exact ⟨rfl, Below.refl _ _⟩
  have HSH : Hid (∀ r ∈ rows, r.len ≤ 1048576) := hsh
  clear hsh
  go_wp2_with fail
  go_loop [5, 6] (fun n i => ∃ k m : Nat, k ≤ len ∧ i = .int .i64 k ∧ n = .int .i64 m ∧ m ≤ 2000000 ∧ Hid (m = 24 * len + total (pl.take k)) ∧ (0 < k → m ≤ 1048576)) (fun _ i => len - (intOf i).toNat)
  case atStart => exact ⟨0, 24 * len, Nat.zero_le _, rfl, by go_num, by omega, by simp [Hid, total], by omega⟩
  case round =>
    obtain ⟨k, m, hk, rfl, rfl, hm1, HM, hm2⟩ := hrel
    by_cases hlt : k < len
    · obtain ⟨b, o, r, rfl, hr, hc, hok, hzl⟩ := h.at hlt
      have hsz : r.len ≤ 1048576 := HSH.out r (List.mem_of_getElem? hr)
      have HT : Hid (total (pl.take (k + 1)) = total (pl.take k) + r.len) := by
        rw [HPL.out, ← hzl]
        exact total_snoc (zs_at hr)
      clear h hr hok hzl hm2 q23n q23e
      obtain ⟨ra, rl, rcp, rz⟩ := r
      simp only at hc hsz HT
      go_wp2
      · go_ret
        exact ⟨rfl, Below.refl _ _⟩
      · go_round
        case rel => exact ⟨k + 1, m + rl, by omega, by go_num, by go_num, by omega, by have := HM.out; have := HT.out; show _ = _; omega, by omega⟩
        case measure => simp [intOf]; omega
    · obtain rfl : len = k := by omega
      have htot : 24 * len + total pl ≤ 1048576 := by
        have h1 := HM.out
        rw [List.take_of_length_le (by rw [HPLL.out]; exact Nat.le_refl _)] at h1
        by_cases h0 : 0 < len
        · have := hm2 h0; omega
        · obtain rfl : len = 0 := by omega
          have : pl = [] := List.eq_nil_of_length_eq_zero HPLL.out
          rw [this]
          simp [total]
      clear HM hm2
      by_cases hbig : 7 < major
      · clear h q23n q23e
        go_wp2
        go_ret
        exact ⟨rfl, Below.refl _ _⟩
      have hmaj : major ≤ 7 := by omega
      go_wp2_with fail
      refine (cal_calls h HNIL.out hlen HSH.out).mono ?_
      rintro e w1 ⟨a1, cap1, rows1, rfl, hp1, hmap1, hbel1⟩
      have HPL1 : Hid (pl = rows1.map (·.zs)) := by rw [HPL.out, hmap1]; rfl
      clear h HSH HPL HNIL hmap1
      go_wp2_with fail
      go_loopw [7, 8] (fun v i wr => ∃ (j : Nat) (v' : Value), j ≤ len ∧ v' = v ∧ i = .int .i64 j ∧ OwnB w1.heap.size wr v' (enc major (pl.take j)) ∧ Below w1.heap.size w1 wr) (fun _ i _ => len - (intOf i).toNat)
      case atStart => exact ⟨0, _, Nat.zero_le _, rfl, rfl, World.ownsRow_nil _ _ _ _, Below.refl _ _⟩
      case round =>
        obtain ⟨j, v, hj, rfl, rfl, hown, hbel⟩ := hrel
        by_cases hlt2 : j < len
        · obtain ⟨b, o, r, rfl, hr, hc, hok, hzl⟩ := hp1.at hlt2
          have hcx : wr.cell? ⟨b, o + j, none⟩ = some (.slice r.a r.len r.cap) := (hbel.cell (cell_lt hc)).trans hc
          have hpj : pl[j]? = some r.zs := by rw [HPL1.out]; exact zs_at hr
          have hrl : r.len ≤ 1048576 := by
            have h1 := total_snoc hpj
            have h2 := total_take_le pl (j + 1)
            omega
          have HE : Hid (enc major (pl.take (j + 1)) = enc major (pl.take j) ++ enc1 major r.zs) := enc_snoc hpj
          obtain ⟨L, hL⟩ : ∃ L, L = enc major (pl.take j) := ⟨_, rfl⟩
          have hll : L.length ≤ 2000000 := by
            rw [hL]
            have h1 := length_enc major (pl.take j)
            have h2 := total_take_le pl j
            have h3 : (pl.take j).length ≤ j := List.length_take_le _ _
            omega
          rw [← hL] at hown HE
          have hB : w1.heap.size ≤ wr.heap.size := hbel.size
          have hbt : Bts w1 r.a r.len r.zs := hok.1
          have hnb : 0 < r.len → ∀ b o, r.a = some ⟨b, o, none⟩ → b < w1.heap.size := by
            intro h0 b o e
            obtain ⟨b', o', e', hc', hlt', _⟩ := hbt.at h0
            rw [e] at e'
            cases e'
            exact hlt'
          have HZL : Hid (r.zs.length = r.len) := hzl
          clear hr hc hok hpj hL hzl q23n q23e
          obtain ⟨ra, rl, rcp, rz⟩ := r
          simp only at hcx hrl HE hbt hnb HZL
          have HOWN : Hid (OwnB w1.heap.size wr v L) := hown
          have HBT : Hid (Bts w1 ra rl rz) := hbt
          have HNB : Hid (0 < rl → ∀ b o, ra = some ⟨b, o, none⟩ → b < w1.heap.size) := hnb
          have HFIT : Hid (Code.Fits (minW rl) rl) := fits_minW rl (by omega)
          obtain ⟨A, hA⟩ : ∃ A, A = Code.argLen (minW rl) := ⟨_, rfl⟩
          have hA8 : A ≤ 8 := by rw [hA]; exact argLen_le (minW_le rl)
          have HEH := eh_calls major (minW rl) rl
          rw [← hA] at HEH
          have HEH' : Hid _ := HEH
          clear hown hbt hnb hA HEH
          go_wp2_with fail
          refine (mw_calls rl _ (by omega)).mono ?_
          rintro e w' ⟨rfl, rfl⟩
          go_wp2_with fail
          refine (HEH'.out _ hmaj HFIT.out).mono ?_
          rintro e w2 ⟨rfl, hh2, hbel2⟩
          have hown2 : OwnB w1.heap.size w2 v L := OwnB.later HOWN.out hbel2
          have hne2 : v.ownBlock ≠ some wr.heap.size := by
            intro e
            have := (World.ownsRow.lt HOWN.out _ e).2
            omega
          have hw2 := hbel.trans (hbel2.mono hB)
          clear hcx HOWN hbel hbel2 HEH'
          go_wp2_with fail
          refine (aa_calls (Nat.le_trans hw2.size (Nat.le_refl _)) hown2 hh2 (by omega) (by omega) (fun _ b o e => by cases e; exact hne2)).mono ?_
          rintro e w3 ⟨v3, rfl, hown3, hbel3⟩
          have hw3 := hw2.trans hbel3
          have hbt3 : Bts w3 ra rl rz := HBT.out.later hw3
          have HNE3 : Hid (0 < rl → ∀ b o, ra = some ⟨b, o, none⟩ → v3.ownBlock ≠ some b) := fun h0 b o e e2 => by
            have h1 := HNB.out h0 b o e
            have h2 := (World.ownsRow.lt hown3 _ e2).1
            omega
          obtain ⟨L3, hL3⟩ : ∃ L3, L3 = L ++ Code.encHead major (minW rl) rl := ⟨_, rfl⟩
          rw [← hL3] at hown3
          have hll3 : L3.length ≤ 2000009 := by rw [hL3, List.length_append, hh2.1]; omega
          have HE3 : Hid (enc major (pl.take (j + 1)) = L3 ++ rz) := by
            show _ = _
            rw [HE.out, hL3, enc1, HZL.out, List.append_assoc]
          clear hL3 hown2 hne2 hbel3 hh2 HE hw2 HNB
          go_wp2_with fail
          refine (aa_calls hw3.size hown3 hbt3 (by omega) (by omega) HNE3.out).mono ?_
          rintro e w4 ⟨v4, rfl, hown4, hbel4⟩
          have HO4 : Hid (OwnB w1.heap.size w4 v4 (enc major (pl.take (j + 1)))) := by rw [HE3.out]; exact hown4
          have hw4 := hw3.trans hbel4
          clear hown3 hown4 hbel4 hbt3 hw3 HE3 HNE3 HBT
          go_wp2
          go_roundw
          case rel => exact ⟨j + 1, v4, by omega, rfl, by go_num, HO4.out, hw4⟩
          case measure => simp [intOf]; omega
        · obtain rfl : len = j := by omega
          rw [List.take_of_length_le (by rw [HPLL.out]; exact Nat.le_refl _)] at hown
          have hrg : ∀ z ∈ enc major pl, 0 ≤ z ∧ z ≤ 255 := by
            refine range_enc hmaj (fun zs hz => ?_) (fun zs hz => ?_)
            · obtain ⟨i, hi⟩ := List.getElem?_of_mem hz
              have h1 := total_snoc hi
              have h2 := total_take_le pl (i + 1)
              omega
            · rw [HPL1.out] at hz
              obtain ⟨r, hr, rfl⟩ := List.mem_map.1 hz
              exact (hp1.2.1 r hr).1.2.1
          have hEl : (enc major pl).length ≤ 2000000 := by
            have h1 := length_enc major pl
            have h3 := HPLL.out
            omega
          obtain ⟨ab, capb, hvv, hbt, hcb1, hcb2, _⟩ := OwnB.view hown hrg
          subst hvv
          have HBUF : Hid (Bts wr ab (enc major pl).length (enc major pl)) := hbt
          unfold maxLen at hcb2
          have HP : Hid (Pls wr a1 len rows1) := hp1.later hbel
          have hw1 := hbel1.trans (hbel.mono hbel1.size)
          obtain ⟨n0, hn0⟩ : ∃ n0, n0 = (enc major pl).length := ⟨_, rfl⟩
          rw [← hn0] at HBUF hEl hcb1 ⊢
          have HN0 : Hid (n0 = (enc major pl).length) := hn0
          clear hown hrg hbt hp1 hbel1 hbel hn0
          by_cases hz0 : 0 < len
          · obtain ⟨z0, hz⟩ : ∃ z0, pl[0]? = some z0 := ⟨_, List.getElem?_eq_getElem (by rw [HPLL.out]; exact hz0)⟩
            have hz0l : z0.length ≤ 1048576 := by
              have h1 := total_snoc hz
              have h2 := total_take_le pl (0 + 1)
              omega
            have hE0 : enc major pl = enc1 major z0 ++ enc major (pl.drop 1) := enc_drop (k := 0) hz
            have hH := headOf_seq (major := major) (zs := z0) (by omega) (enc major (pl.drop 1))
            rw [← hE0] at hH
            have HZ1 := zc_no (cap := capb) HBUF.out (by omega) hcb1 hcb2 hH (((major : Int) + 1) % 8) (.inr (by omega))
            clear hz hE0 hH
            go_wp2_with fail
            refine HZ1.mono ?_
            rintro e w5 ⟨rfl, hbel5⟩
            clear HZ1
            have hbuf5 := HBUF.out.later hbel5
            have hp5 := HP.out.later hbel5
            have hw5 := hw1.trans (hbel5.mono hw1.size)
            clear hbel5 HBUF HP hw1
            go_wp2_with fail
            refine (sm_yes hbuf5 hbuf5 (by unfold maxLen; omega) rfl).mono ?_
            rintro e w6 ⟨rfl, k6, rfl⟩
            have HZ2 := zc_failed (cap := capb) (hbuf5.drewN k6) (by omega) hcb1 hcb2 (major : Int)
            go_wp2_with fail
            refine HZ2.mono ?_
            rintro e w7 ⟨rfl, hbel7⟩
            clear HZ2
            have hb65 : Below w5.heap.size w5 w7 := (below_drewN (Below.refl _ _) k6).trans hbel7
            have HBUF : Hid (Bts w7 ab n0 (enc major pl)) := hbuf5.later hb65
            have HP : Hid (Pls w7 a1 len rows1) := hp5.later hb65
            have hw7 := hw5.trans (hb65.mono hw5.size)
            clear hbuf5 hp5 hbel7 hb65 hw5
            go_wp2_with fail
            go_loopw [17, 18, 19] (fun rv fv i wr => ∃ (j : Nat) (ar : Option Addr) (lr cr : Nat), j ≤ len ∧ i = .int .i64 j ∧ rv = .slice ar lr cr ∧ fv = .bool false ∧ Hid (Bts wr ar lr (enc major (pl.drop j))) ∧ lr ≤ 2000000 ∧ lr ≤ cr ∧ cr ≤ 9223372036854775807 ∧ Below w7.heap.size w7 wr) (fun _ _ i _ => len - (intOf i).toNat)
            case atStart => exact ⟨0, ab, n0, capb, Nat.zero_le _, rfl, rfl, rfl, HBUF, hEl, hcb1, hcb2, Below.refl _ _⟩
            case round =>
              obtain ⟨j, ar, lr, cr, hj, rfl, rfl, rfl, HB, hlr, hcr1, hcr2, hbel⟩ := hrel
              clear HBUF
              by_cases hlt3 : j < len
              · obtain ⟨b, o, r, rfl, hr, hc, hok, hzl⟩ := HP.out.at hlt3
                have hpj : pl[j]? = some r.zs := by rw [HPL1.out]; exact zs_at hr
                have hrl : r.zs.length ≤ 1048576 := by
                  have h1 := total_snoc hpj
                  have h2 := total_take_le pl (j + 1)
                  omega
                have hE := enc_drop (major := major) hpj
                have hcx : wr.cell? ⟨b, o + j, none⟩ = some (.slice r.a r.len r.cap) := (hbel.cell (cell_lt hc)).trans hc
                have hbr : Bts wr r.a r.len r.zs := hok.1.later hbel
                have hB1 := HB.out
                rw [hE] at hB1
                have hlen1 : (enc1 major r.zs).length = 1 + Code.argLen (minW r.zs.length) + r.zs.length := by rw [enc1, List.length_append, Code.length_encHead]
                have hlrl := hB1.1
                rw [List.length_append, hlen1] at hlrl
                obtain ⟨bb, oo, rfl, _⟩ := hB1.at (k := 0) (by omega)
                have HZ := zc_ok (cap := cr) hB1 (by omega) hcr1 hcr2 (headOf_seq (by omega) _) (by omega) (by omega) (info_le (fits_minW _ (by omega)))
                have e1 : List.drop (1 + Code.argLen (minW r.zs.length)) (enc1 major r.zs ++ enc major (pl.drop (j + 1))) = r.zs ++ enc major (pl.drop (j + 1)) := by
                  rw [enc1, List.append_assoc]
                  exact drop_head (Code.length_encHead _ _ _)
                have e2 : List.take r.zs.length (r.zs ++ enc major (pl.drop (j + 1))) = r.zs := List.take_left' rfl
                have e3 : List.drop (1 + Code.argLen (minW r.zs.length) + r.zs.length) (enc1 major r.zs ++ enc major (pl.drop (j + 1))) = enc major (pl.drop (j + 1)) := List.drop_left' hlen1
                rw [e1, e2, e3, hzl] at HZ
                rw [hzl] at hlrl
                obtain ⟨A, hA⟩ : ∃ A, A = 1 + Code.argLen (minW r.len) := ⟨_, rfl⟩
                rw [← hA] at HZ hlrl
                have HLR : Hid (A + r.len + (enc major (pl.drop (j + 1))).length = lr) := hlrl
                clear hr hc hok hpj hE hB1 hlen1 hlrl e1 e2 e3 HB hA hzl
                obtain ⟨ra, rl, rcp, rz⟩ := r
                simp only at hcx hbr HZ HLR hrl
                go_wp2_with fail
                refine HZ.mono ?_
                rintro e w8 ⟨o1, o2, rfl, hs8, hr8, hbel8⟩
                clear HZ
                have hcx8 : w8.cell? ⟨b, o + j, none⟩ = some (.slice ra rl rcp) := (hbel8.cell (cell_lt hcx)).trans hcx
                have hbr8 := hbr.later hbel8
                have hw8 := hbel.trans (hbel8.mono hbel.size)
                clear hcx hbr hbel8 hbel
                go_wp2_with fail
                refine (sm_yes hs8 hbr8 (by have := hs8.1; unfold maxLen; omega) rfl).mono ?_
                rintro e w9 ⟨rfl, k9, rfl⟩
                have HB9 : Hid (Bts (w8.drewN k9) (some ⟨bb, o2, none⟩) (lr - A - rl) (enc major (pl.drop (j + 1)))) := hr8
                have hw9 := below_drewN hw8 k9
                clear hs8 hbr8 hr8 hw8 hcx8
                go_wp2
                go_roundw
                case rel => exact ⟨j + 1, _, _, _, by omega, by go_num, rfl, rfl, HB9, by omega, by omega, by omega, hw9⟩
                case measure => simp [intOf]; omega
              · obtain rfl : len = j := by omega
                have hB1 := HB.out
                rw [List.drop_eq_nil_of_le (by rw [HPLL.out]; exact Nat.le_refl _)] at hB1
                obtain rfl : lr = 0 := hB1.1.symm
                have HZ := zc_no (cap := cr) hB1 (by omega) (by omega) hcr2 (show Code.headOf (enc major []) = (0, 0, 0, 0) from rfl) (major : Int) (.inl rfl)
                clear hB1 HB HP
                go_wp2_with fail
                refine HZ.mono ?_
                rintro e w8 ⟨rfl, hbel8⟩
                have hw8 := hw7.trans ((hbel.trans (hbel8.mono hbel.size)).mono hw7.size)
                clear HZ hbel8 hbel
                go_wp2
                go_ret
                exact ⟨rfl, hw8⟩
          · obtain rfl : len = 0 := by omega
            have hpl0 : pl = [] := List.eq_nil_of_length_eq_zero HPLL.out
            obtain rfl : n0 = 0 := by rw [HN0.out, hpl0]; rfl
            have hB1 := HBUF.out
            rw [hpl0] at hB1
            have HZ := zc_no (cap := capb) hB1 (by omega) (by omega) hcb2 (show Code.headOf (enc major []) = (0, 0, 0, 0) from rfl) (major : Int) (.inl rfl)
            clear hB1 HBUF HP hpl0
            go_wp2_with fail
            refine wp_loop_rounds 1 ?_
            rw [rounds_succ]
            go_wp2_with fail
            refine HZ.mono ?_
            rintro e w8 ⟨rfl, hbel8⟩
            have hw8 := hw1.trans (hbel8.mono hw1.size)
            clear HZ hbel8
            go_wp2
            go_ret
            exact ⟨rfl, hw8⟩

end Go.Proofs.Qxb6600388a.Seq
