/-
  THE WALK OF 'FnMovesGroupOverAnyCut'.
-/
import Derived.Test.Qxb6612593aCutLaws
import Derived.Test.Qxb6612593aBytes
import Derived.Deep.DeepCutAuto
import Derived.Deep.CutBlock
import Derived.Deep.RegionWith
namespace Go.Proofs.Qxb6612593a
open Go.RowKit

set_option maxRecDepth 100000 in
set_option maxHeartbeats 16000000 in
theorem cut_main (hold : Bool) (a b : Option Addr) (la ca lb cb : Nat) (k : Int) (typ : ByteArray) (ts ss : List ByteArray) (w : World) (ha : StrRow w a la ts) (hb : StrRow w b lb ss)
    (na : a = none ∧ la = 0 ∧ ca = 0 ∨ ∃ x, a = some x) (nb : b = none ∧ lb = 0 ∧ cb = 0 ∨ ∃ x, b = some x) (ka : la ≤ 65536) (kb : lb ≤ 65536) (kt : typ.size ≤ 65536) :
    Calls Try.prog 4 #[.bool hold, .slice a la ca, .slice b lb cb, .int .i64 k, .string typ] w fun e w' => e = .returned (.bool true) ∧ Below w.heap.size w w' := by
  have HB := bytes_any hold a b la ca lb cb k typ ts ss w ha hb
  have HA : Hid (StrRow w a la ts) := ha
  have HBB : Hid (StrRow w b lb ss) := hb
  have NA : Hid (a = none ∧ la = 0 ∧ ca = 0 ∨ ∃ x, a = some x) := na
  have NB : Hid (b = none ∧ lb = 0 ∧ cb = 0 ∨ ∃ x, b = some x) := nb
  clear ha hb na nb
  have ka' : (la : Int) ≤ 65536 := by omega
  have kb' : (lb : Int) ≤ 65536 := by omega
  have kt' : (typ.size : Int) ≤ 65536 := by omega
  obtain ⟨i0, hi, hz0, hz1, hz2⟩ := info_parts info9
  have hnil := fun (w : World) (a : Option Addr) (n c n' c' : Nat) => run_neq_slice_nil_any (P := Try.prog) w 25 9 a n c n' c' Try.underlying25
  go_enter Try.func4, Try.ntmps4
  go_wp2_with fail
  refine HB.mono ?_
  rintro e w1 ⟨r, rfl, rfl⟩
  clear HB
  cases r
  · go_wp2
    go_ret
    exact ⟨rfl, Below.refl _ _⟩
  go_upto_if 50 with fail
  go_cut [1] (fun t wc => ∃ a', t = .slice a' la la ∧ CopyRow wc a' la ts ∧ Below w.heap.size w wc)
  case first =>
    as_aux_lemma =>
    rcases NA.out with ⟨rfl, rfl, rfl⟩ | ⟨x, rfl⟩
    · go_wp2
      go_meet
      exact ⟨_, rfl, ⟨HA.out, .inl ⟨rfl, rfl⟩⟩, Below.refl _ _⟩
    · go_wp2_with (at_make; refine wpList_make_full _ rfl _ _ 25 rfl w.heap.size 9 i0 _ 1 Try.underlying25 hi hz0 hz1 _ _ _ _ la rfl rfl rfl rfl ?c1 ?c2 ?c3 ?_)
      case c1 => rw [hz2]; omega
      case c2 => unfold maxLen; omega
      case c3 => exact Nat.le_refl _
      intro w2 o2 g2
      have b2 : Below w.heap.size w w2 := (Below.refl _ w).grown g2 (Nat.le_refl _) (fun k hk => by cases hk)
      clear g2
      have HA2 : Hid (StrRow w2 (some x) la ts) := HA.out.later b2
      go_wp2_with ((with_reducible show wpList _ _ _ (Oper.mk _ (Op.call { callee := .builtin .copy, args := #[.tmp 54, .tmp 55], argTypes := #[25, 25] }) _ _ _ _ :: _) _ _); refine wpList_copy_full rfl _ _ 25 25 rfl 9 Try.underlying25 size9 w.heap.size 9 w.heap.size la la _ (some x) ca rfl rfl o2 (strs ts) ?d1 (strRow_src HA2.out) (strs_oneCell ts) ?_)
      case d1 => simpa [strs] using HA.out.1
      intro w3 o3 g3
      have b3 : Below w.heap.size w w3 := b2.grown g3 b2.size (fun k hk => by cases hk; exact Nat.le_refl _)
      clear g3
      go_wp2
      go_meet
      exact ⟨_, rfl, ⟨strRow_of_owns o3, .inr ⟨_, rfl⟩⟩, b3⟩
  case rest =>
    obtain ⟨a', rfl, hca, hbel⟩ := hcut
    have HCA := (show Hid (CopyRow wc a' la ts) from hca)
    clear hca HA NA
    have hsz := hbel.size
    have HB2 : Hid (StrRow wc b lb ss) := HBB.out.later hbel
    clear HBB
    go_upto_if 59 with fail
    go_cut [2] (fun t wd => ∃ b', t = .slice b' lb lb ∧ CopyRow wd b' lb ss ∧ CopyRow wd a' la ts ∧ Below w.heap.size w wd)
    case first =>
      as_aux_lemma =>
      rcases NB.out with ⟨rfl, rfl, rfl⟩ | ⟨x, rfl⟩
      · go_wp2
        go_meet
        exact ⟨_, rfl, ⟨HB2.out, .inl ⟨rfl, rfl⟩⟩, HCA.out, hbel⟩
      · go_wp2_with (at_make; refine wpList_make_full _ rfl _ _ 25 rfl wc.heap.size 9 i0 _ 1 Try.underlying25 hi hz0 hz1 _ _ _ _ lb rfl rfl rfl rfl ?e1 ?e2 ?e3 ?_)
        case e1 => rw [hz2]; omega
        case e2 => unfold maxLen; omega
        case e3 => exact Nat.le_refl _
        intro w2 o2 g2
        have b2 : Below wc.heap.size wc w2 := (Below.refl _ wc).grown g2 (Nat.le_refl _) (fun k hk => by cases hk)
        clear g2
        have HB3 : Hid (StrRow w2 (some x) lb ss) := HB2.out.later b2
        go_wp2_with ((with_reducible show wpList _ _ _ (Oper.mk _ (Op.call { callee := .builtin .copy, args := #[.tmp 63, .tmp 64], argTypes := #[25, 25] }) _ _ _ _ :: _) _ _); refine wpList_copy_full rfl _ _ 25 25 rfl 9 Try.underlying25 size9 wc.heap.size 9 wc.heap.size lb lb _ (some x) cb rfl rfl o2 (strs ss) ?f1 (strRow_src HB3.out) (strs_oneCell ss) ?_)
        case f1 => simpa [strs] using HB2.out.1
        intro w3 o3 g3
        have b3 : Below wc.heap.size wc w3 := b2.grown g3 b2.size (fun k hk => by cases hk; exact Nat.le_refl _)
        clear g3
        go_wp2
        go_meet
        exact ⟨_, rfl, ⟨strRow_of_owns o3, .inr ⟨_, rfl⟩⟩, CopyRow.later HCA.out b3, hbel.trans (b3.mono hsz)⟩
    case rest =>
      clear HB2 NB HCA hbel hsz
      obtain ⟨b', rfl, hcb, hca, hbel⟩ := hcut
      have HCA := (show Hid (CopyRow wc a' la ts) from hca)
      have HCB := (show Hid (CopyRow wc b' lb ss) from hcb)
      clear hca hcb
      have hsz := hbel.size
      go_wp2
      go_loop [13, 14] (fun z i => ∃ (n : Nat) (q : Int), n ≤ la ∧ i = .int .i64 n ∧ z = .int .i64 q) (fun _ i => la - (intOf i).toNat)
      case atStart => exact ⟨0, _, by omega, rfl, rfl⟩
      case round =>
        obtain ⟨n, q, hn, rfl, rfl⟩ := hrel
        by_cases hlt : n < la
        · as_aux_lemma =>
          obtain ⟨_, h0 | ⟨x, rfl, hx⟩⟩ := HCA.out.1
          · omega
          have cx := hx n hlt
          generalize ts.getD n ByteArray.empty = t at *
          clear hx
          go_wp2
          · go_ret
            exact ⟨rfl, hbel⟩
          · go_round
            case rel => exact ⟨n + 1, _, by omega, by go_num, rfl⟩
            case measure => simp [intOf]; omega
        · go_wp2
          go_loop [13, 15] (fun z i => ∃ (n : Nat) (q : Int), n ≤ lb ∧ i = .int .i64 n ∧ z = .int .i64 q) (fun _ i => lb - (intOf i).toNat)
          case atStart => exact ⟨0, _, by omega, rfl, rfl⟩
          case round =>
            obtain ⟨m, q2, hm, rfl, rfl⟩ := hrel
            by_cases hlt2 : m < lb
            · as_aux_lemma =>
              obtain ⟨_, h0 | ⟨x, rfl, hx⟩⟩ := HCB.out.1
              · omega
              have cx := hx m hlt2
              generalize ss.getD m ByteArray.empty = t at *
              clear hx
              go_wp2
              · go_ret
                exact ⟨rfl, hbel⟩
              · go_round
                case rel => exact ⟨m + 1, _, by omega, by go_num, rfl⟩
                case measure => simp [intOf]; omega
            · by_cases hll : la = lb
              · subst hll
                by_cases hk0 : k < 0
                · as_aux_lemma =>
                  go_wp2
                  go_ret
                  exact ⟨rfl, hbel⟩
                by_cases hk1 : (la : Int) < k
                · as_aux_lemma =>
                  go_wp2
                  go_ret
                  exact ⟨rfl, hbel⟩
                obtain ⟨K, rfl⟩ := Int.eq_ofNat_of_zero_le (show 0 ≤ k by omega)
                have hK : K ≤ la := by omega
                clear hlt hn
                generalize hR : (!hold || anyOwn (ts.zip ss)) = R
                have HR := (show Hid ((!hold || anyOwn (ts.zip ss)) = R) from hR)
                clear hR
                go_wp2_with fail
                refine (chain_any hold a' b' la la la ts ss R wc (by omega) HCA.out.1 HCB.out.1 HR.out).mono ?_
                rintro e x1 ⟨v1, rfl, H2⟩
                go_wp2_with fail
                refine H2.out.mono ?_
                rintro e x2 ⟨v2, rfl, H3⟩
                clear H2
                go_wp2_with fail
                refine H3.out.mono ?_
                rintro e x3 ⟨rfl, hb3⟩
                clear H3
                have HC3A : Hid (CopyRow x3 a' la ts) := CopyRow.later HCA.out hb3
                have HC3B : Hid (CopyRow x3 b' la ss) := CopyRow.later HCB.out hb3
                clear HCA HCB
                obtain ⟨L, hL⟩ : ∃ L, (!hold || anyOwn ((ts.take K).zip (ss.take K))) = L := ⟨_, rfl⟩
                have HL := (show Hid ((!hold || anyOwn ((ts.take K).zip (ss.take K))) = L) from hL)
                clear hL
                have y3 : Below x3.heap.size x3 x3.drew := (Below.refl _ x3).drew
                have RA := (show Hid (StrRow x3.drew a' K (ts.take K)) from strRow_take (HC3A.out.1.later y3) hK)
                have RB := (show Hid (StrRow x3.drew b' K (ss.take K)) from strRow_take (HC3B.out.1.later y3) hK)
                have hCL := fun c1 c2 => chain_any hold a' b' K c1 c2 (ts.take K) (ss.take K) L x3.drew (by omega) RA.out RB.out HL.out
                have HCL := (show Hid (∀ c1 c2, Calls Try.prog 6 #[.slice a' K c1, .slice b' K c2] x3.drew (Chain hold x3.drew L)) from hCL)
                clear hCL RA RB y3
                go_upto_region 32 with fail
                go_cut [18] (fun t wx => t = .bool L ∧ Below x3.heap.size x3 wx)
                case first =>
                  have hK' : (K : Int) ≤ la := by omega
                  go_region_with (first | (go_at_call 6; refine (HCL.out _ _).mono ?_; rintro e x4 ⟨v4, rfl, H2⟩) | (go_at_call 9; refine H2.out.mono ?_; rintro e x5 ⟨v5, rfl, H3⟩) | (go_at_call 8; refine H3.out.mono ?_; rintro e x6 ⟨rfl, hb6⟩))
                  go_wp2
                  go_meet
                  exact ⟨rfl, ((Below.refl _ x3).drew).trans hb6⟩
                case rest =>
                  obtain ⟨rfl, hb4⟩ := hcut
                  have HC4A : Hid (CopyRow wc a' la ts) := CopyRow.later HC3A.out hb4
                  have HC4B : Hid (CopyRow wc b' la ss) := CopyRow.later HC3B.out hb4
                  have hb4' : Below w.heap.size w wc := (hbel.trans (hb3.mono hsz)).trans (hb4.mono (Nat.le_trans hsz hb3.size))
                  have hsz4 := hb4'.size
                  clear HC3A HC3B hb3 hb4 hbel hsz HCL
                  obtain ⟨Q, hQ⟩ : ∃ Q, (!hold || anyOwn ((ts.drop K).zip (ss.drop K))) = Q := ⟨_, rfl⟩
                  have HQ := (show Hid ((!hold || anyOwn ((ts.drop K).zip (ss.drop K))) = Q) from hQ)
                  clear hQ
                  go_upto_region 33 with fail
                  go_cut [19] (fun t wx => t = .bool Q ∧ Below wc.heap.size wc wx)
                  case first =>
                    have y4 : Below wc.heap.size wc wc.drew := (Below.refl _ wc).drew
                    by_cases hKl : la = K
                    · subst hKl
                      have RA := (show Hid (StrRow wc.drew a' 0 (ts.drop la)) from strRow_none _ _ (by rw [List.length_drop, HC4A.out.1.1]; omega))
                      have RB := (show Hid (StrRow wc.drew b' 0 (ss.drop la)) from strRow_none _ _ (by rw [List.length_drop, HC4B.out.1.1]; omega))
                      have hCR := fun c1 c2 => chain_any hold a' b' 0 c1 c2 (ts.drop la) (ss.drop la) Q wc.drew (by omega) RA.out RB.out HQ.out
                      have HCR := (show Hid (∀ c1 c2, Calls Try.prog 6 #[.slice a' 0 c1, .slice b' 0 c2] wc.drew (Chain hold wc.drew Q)) from hCR)
                      clear hCR RA RB y4
                      go_region_with (first | (go_at_call 6; refine (HCR.out _ _).mono ?_; rintro e x4 ⟨v4, rfl, H2⟩) | (go_at_call 9; refine H2.out.mono ?_; rintro e x5 ⟨v5, rfl, H3⟩) | (go_at_call 8; refine H3.out.mono ?_; rintro e x6 ⟨rfl, hb6⟩))
                      go_wp2
                      go_meet
                      exact ⟨rfl, ((Below.refl _ wc).drew).trans hb6⟩
                    · obtain ⟨g, rfl⟩ := CopyRow.some HC4A.out (by omega)
                      obtain ⟨g', rfl⟩ := CopyRow.some HC4B.out (by omega)
                      have RA := (show Hid (StrRow wc.drew (some ⟨g, K, none⟩) (la - K) (ts.drop K)) from strRow_drop (HC4A.out.1.later y4) (by omega))
                      have RB := (show Hid (StrRow wc.drew (some ⟨g', K, none⟩) (la - K) (ss.drop K)) from strRow_drop (HC4B.out.1.later y4) (by omega))
                      have hCR := fun c1 c2 => chain_any hold (some ⟨g, K, none⟩) (some ⟨g', K, none⟩) (la - K) c1 c2 (ts.drop K) (ss.drop K) Q wc.drew (by omega) RA.out RB.out HQ.out
                      have HCR := (show Hid (∀ c1 c2, Calls Try.prog 6 #[.slice (some ⟨g, K, none⟩) (la - K) c1, .slice (some ⟨g', K, none⟩) (la - K) c2] wc.drew (Chain hold wc.drew Q)) from hCR)
                      clear hCR RA RB y4
                      have hK' : (K : Int) ≤ la := by omega
                      go_region_with (first | (go_at_call 6; refine (HCR.out _ _).mono ?_; rintro e x4 ⟨v4, rfl, H2⟩) | (go_at_call 9; refine H2.out.mono ?_; rintro e x5 ⟨v5, rfl, H3⟩) | (go_at_call 8; refine H3.out.mono ?_; rintro e x6 ⟨rfl, hb6⟩))
                      go_wp2
                      go_meet
                      exact ⟨rfl, ((Below.refl _ wc).drew).trans hb6⟩
                  case rest =>
                    as_aux_lemma =>
                    obtain ⟨rfl, hb5⟩ := hcut
                    have HC5A : Hid (CopyRow wc a' la ts) := CopyRow.later HC4A.out hb5
                    have HC5B : Hid (CopyRow wc b' la ss) := CopyRow.later HC4B.out hb5
                    have hb5' : Below w.heap.size w wc := hb4'.trans (hb5.mono hsz4)
                    have hsz5 := hb5'.size
                    clear HC4A HC4B hb4' hb5 hsz4
                    -- loose
                    go_wp2_with fail
                    refine (chain_any false a' b' la la la ts ss true wc (by omega) HC5A.out.1 HC5B.out.1 rfl).mono ?_
                    rintro e x1 ⟨v1, rfl, H2⟩
                    go_wp2_with fail
                    refine H2.out.mono ?_
                    rintro e x2 ⟨v2, rfl, H3⟩
                    clear H2
                    go_wp2_with fail
                    refine H3.out.mono ?_
                    rintro e W ⟨rfl, hb6⟩
                    clear H3
                    have HWA : Hid (CopyRow W a' la ts) := CopyRow.later HC5A.out hb6
                    have HWB : Hid (CopyRow W b' la ss) := CopyRow.later HC5B.out hb6
                    have hbW : Below w.heap.size w W := hb5'.trans (hb6.mono hsz5)
                    have hszW := hbW.size
                    clear HC5A HC5B hb5' hb6 hsz5
                    -- the two longer rows
                    go_wp2_with (at_make; refine wpList_make_full _ rfl _ _ 25 rfl W.heap.size 9 i0 _ 1 Try.underlying25 hi hz0 hz1 _ _ _ _ (la + 1) rfl rfl (by omega) (by omega) ?g1 ?g2 ?g3 ?_)
                    case g1 => rw [hz2]; omega
                    case g2 => unfold maxLen; omega
                    case g3 => exact Nat.le_refl _
                    intro x1 o1 gr1
                    have c1 : Below W.heap.size W x1 := (Below.refl _ W).grown gr1 (Nat.le_refl _) (fun k hk => by cases hk)
                    have z1 := c1.size
                    have z1' : W.heap.size < x1.heap.size := (o1.lt _ rfl).2
                    clear gr1
                    go_wp2_with (at_make; refine wpList_make_full _ rfl _ _ 25 rfl x1.heap.size 9 i0 _ 1 Try.underlying25 hi hz0 hz1 _ _ _ _ (la + 1) rfl rfl (by omega) (by omega) ?g4 ?g5 ?g6 ?_)
                    case g4 => rw [hz2]; omega
                    case g5 => unfold maxLen; omega
                    case g6 => exact Nat.le_refl _
                    intro x2 o2 gr2
                    have c2' : Below x1.heap.size x1 x2 := (Below.refl _ x1).grown gr2 (Nat.le_refl _) (fun k hk => by cases hk)
                    have F1 := (show Hid (Filled W.heap.size x2 W.heap.size (la + 1) 0 (ts ++ [typ])) from (filled_made o1 _).later c2')
                    have F2 := (show Hid (Filled W.heap.size x2 x1.heap.size (la + 1) 0 (ss ++ [⟨#[]⟩])) from filled_made (ownsRow_down o2 z1) _)
                    have c2 : Below W.heap.size W x2 := c1.trans (c2'.mono z1)
                    have z2 := c2.size
                    clear gr2 o1 o2 c1 c2'
                    generalize hG2 : x1.heap.size = G2 at *
                    clear hG2
                    go_wp2
                    go_loopw [23] (fun i wr => ∃ j : Nat, j ≤ la ∧ i = .int .i64 j ∧ Filled W.heap.size wr W.heap.size (la + 1) j (ts ++ [typ]) ∧ Filled W.heap.size wr G2 (la + 1) j (ss ++ [⟨#[]⟩]) ∧ Below W.heap.size W wr) (fun i _ => la - (intOf i).toNat)
                    case atStart => exact ⟨0, by omega, rfl, F1.out, F2.out, c2⟩
                    case round =>
                      obtain ⟨j, hj, rfl, f1, f2, hbr⟩ := hrel
                      clear F1 F2 c2 z2
                      have G1 := (show Hid (Filled W.heap.size wr W.heap.size (la + 1) j (ts ++ [typ])) from f1)
                      have G3 := (show Hid (Filled W.heap.size wr G2 (la + 1) j (ss ++ [⟨#[]⟩])) from f2)
                      clear f1 f2
                      have hbrs := hbr.size
                      by_cases hlt3 : j < la
                      · as_aux_lemma =>
                        obtain ⟨_, h0 | ⟨x, rfl, hx⟩⟩ := HWA.out.1
                        · omega
                        obtain ⟨_, h0 | ⟨y, rfl, hy⟩⟩ := HWB.out.1
                        · omega
                        have cx := cell_later hbr (hx j hlt3)
                        have cy0 := cell_later hbr (hy j hlt3)
                        have hyb : (y.add j).block < W.heap.size := World.block_lt_of_cell? _ _ (hy j hlt3)
                        have e1 := getD_left ts typ (show j < ts.length by rw [HWA.out.1.1]; exact hlt3)
                        have e2 := getD_left ss ⟨#[]⟩ (show j < ss.length by rw [HWB.out.1.1]; exact hlt3)
                        have E1 := (show Hid (ts.getD j ByteArray.empty = (ts ++ [typ]).getD j ByteArray.empty) from e1.symm)
                        have E2 := (show Hid (ss.getD j ByteArray.empty = (ss ++ [(⟨#[]⟩ : ByteArray)]).getD j ByteArray.empty) from e2.symm)
                        clear e1 e2 hx hy
                        generalize ts.getD j ByteArray.empty = t at *
                        generalize ss.getD j ByteArray.empty = s at *
                        obtain ⟨v1, d1⟩ := G1.out.cell (show j < la + 1 by omega)
                        have d2 := G1.out.frozen j
                        have G4 := (show Hid (Filled W.heap.size (wr.setCell ⟨W.heap.size, j, none⟩ (.string t)) W.heap.size (la + 1) (j + 1) (ts ++ [typ])) from G1.out.store (by omega) t E1.out)
                        have G5 := (show Hid (Filled W.heap.size (wr.setCell ⟨W.heap.size, j, none⟩ (.string t)) G2 (la + 1) j (ss ++ [⟨#[]⟩])) from G3.out.beside (by omega) _)
                        obtain ⟨v2, d3⟩ := G5.out.cell (show j < la + 1 by omega)
                        have d4 := G5.out.frozen j
                        have hbr1 : Below W.heap.size W (wr.setCell ⟨W.heap.size, j, none⟩ (.string t)) := hbr.setCell (Nat.le_refl _) _
                        have cy : (wr.setCell ⟨W.heap.size, j, none⟩ (.string t)).cell? (y.add j) = some (.string s) := by
                          rw [World.cell?_of_block (w := wr) (Below.heap_setCell wr _ _ _ (by exact Nat.ne_of_lt hyb))]
                          exact cy0
                        have G6 := (show Hid (Filled W.heap.size ((wr.setCell ⟨W.heap.size, j, none⟩ (.string t)).setCell ⟨G2, j, none⟩ (.string s)) W.heap.size (la + 1) (j + 1) (ts ++ [typ])) from G4.out.beside (by omega) _)
                        have G7 := (show Hid (Filled W.heap.size ((wr.setCell ⟨W.heap.size, j, none⟩ (.string t)).setCell ⟨G2, j, none⟩ (.string s)) G2 (la + 1) (j + 1) (ss ++ [⟨#[]⟩])) from G5.out.store (by omega) s E2.out)
                        have hbr2 : Below W.heap.size W ((wr.setCell ⟨W.heap.size, j, none⟩ (.string t)).setCell ⟨G2, j, none⟩ (.string s)) := hbr1.setCell (by exact Nat.le_of_lt z1') _
                        clear G1 G3 G4 G5 cy0 hbr1 hyb E1 E2
                        go_wp2
                        go_roundw
                        case rel => exact ⟨j + 1, by omega, by go_num, G6.out, G7.out, hbr2⟩
                        case measure => simp [intOf]; omega
                      · obtain rfl : j = la := by omega
                        have E1 := (show Hid (typ = (ts ++ [typ]).getD j ByteArray.empty) from getD_last ts typ HWA.out.1.1)
                        have E2 := (show Hid ((⟨#[]⟩ : ByteArray) = (ss ++ [(⟨#[]⟩ : ByteArray)]).getD j ByteArray.empty) from getD_last ss ⟨#[]⟩ HWB.out.1.1)
                        obtain ⟨v1, d1⟩ := G1.out.cell (show j < j + 1 by omega)
                        have d2 := G1.out.frozen j
                        have G4 := (show Hid (Filled W.heap.size (wr.setCell ⟨W.heap.size, j, none⟩ (.string typ)) W.heap.size (j + 1) (j + 1) (ts ++ [typ])) from G1.out.store (by omega) typ E1.out)
                        have G5 := (show Hid (Filled W.heap.size (wr.setCell ⟨W.heap.size, j, none⟩ (.string typ)) G2 (j + 1) j (ss ++ [⟨#[]⟩])) from G3.out.beside (by omega) _)
                        obtain ⟨v2, d3⟩ := G5.out.cell (show j < j + 1 by omega)
                        have d4 := G5.out.frozen j
                        have hbr1 : Below W.heap.size W (wr.setCell ⟨W.heap.size, j, none⟩ (.string typ)) := hbr.setCell (Nat.le_refl _) _
                        have G6 := (show Hid (Filled W.heap.size ((wr.setCell ⟨W.heap.size, j, none⟩ (.string typ)).setCell ⟨G2, j, none⟩ (.string ⟨#[]⟩)) W.heap.size (j + 1) (j + 1) (ts ++ [typ])) from G4.out.beside (by omega) _)
                        have G7 := (show Hid (Filled W.heap.size ((wr.setCell ⟨W.heap.size, j, none⟩ (.string typ)).setCell ⟨G2, j, none⟩ (.string ⟨#[]⟩)) G2 (j + 1) (j + 1) (ss ++ [⟨#[]⟩])) from G5.out.store (by omega) ⟨#[]⟩ E2.out)
                        have hbr2 : Below W.heap.size W ((wr.setCell ⟨W.heap.size, j, none⟩ (.string typ)).setCell ⟨G2, j, none⟩ (.string ⟨#[]⟩)) := hbr1.setCell (by exact Nat.le_of_lt z1') _
                        have HCW := (show Hid (Calls Try.prog 6 #[.slice (some ⟨W.heap.size, 0, none⟩) (j + 1) (j + 1), .slice (some ⟨G2, 0, none⟩) (j + 1) (j + 1)] ((wr.setCell ⟨W.heap.size, j, none⟩ (.string typ)).setCell ⟨G2, j, none⟩ (.string ⟨#[]⟩)) (Chain true _ true)) from
                          chain_any true _ _ (j + 1) (j + 1) (j + 1) (ts ++ [typ]) (ss ++ [⟨#[]⟩]) true _ (by omega) (G6.out.row (by rw [List.length_append, HWA.out.1.1]; rfl)) (G7.out.row (by rw [List.length_append, HWB.out.1.1]; rfl)) (by rw [own_last ts ss typ (by rw [HWA.out.1.1, HWB.out.1.1])]; rfl))
                        clear G1 G3 G4 G5 G6 G7 E1 E2 hbr1 hbr
                        go_wp2_with fail
                        refine HCW.out.mono ?_
                        rintro e x1 ⟨v3, rfl, H2⟩
                        clear HCW
                        go_wp2_with fail
                        refine H2.out.mono ?_
                        rintro e x2 ⟨v4, rfl, H3⟩
                        clear H2
                        go_wp2_with fail
                        refine H3.out.mono ?_
                        rintro e X ⟨rfl, hb7⟩
                        clear H3
                        have hbX : Below W.heap.size W X := hbr2.trans (hb7.mono hbr2.size)
                        have hszX := hbX.size
                        have HXA : Hid (CopyRow X a' j ts) := CopyRow.later HWA.out hbX
                        have HXB : Hid (CopyRow X b' j ss) := CopyRow.later HWB.out hbX
                        have hbX' : Below w.heap.size w X := hbW.trans (hbX.mono hszW)
                        clear HWA HWB hbr2 hb7 hbX hbW d1 d2 d3 d4
                        go_wp2_with (at_make; refine wpList_make_own _ rfl _ _ 25 rfl X.heap.size 9 i0 _ 1 Try.underlying25 hi hz0 hz1 _ _ _ j rfl rfl rfl ?h1 ?h2 ?h3 ?_)
                        case h1 => rw [hz2]; omega
                        case h2 => unfold maxLen; omega
                        case h3 => exact Nat.le_refl _
                        intro x1 o1 gr1
                        have c1 : Below X.heap.size X x1 := (Below.refl _ X).grown gr1 (Nat.le_refl _) (fun k hk => by cases hk)
                        have y1 := c1.size
                        have y1' : X.heap.size < x1.heap.size := (o1.lt _ rfl).2
                        clear gr1
                        go_wp2_with (at_make; refine wpList_make_own _ rfl _ _ 25 rfl x1.heap.size 9 i0 _ 1 Try.underlying25 hi hz0 hz1 _ _ _ j rfl rfl rfl ?h4 ?h5 ?h6 ?_)
                        case h4 => rw [hz2]; omega
                        case h5 => unfold maxLen; omega
                        case h6 => exact Nat.le_refl _
                        intro x2 o2 gr2
                        have c2' : Below x1.heap.size x1 x2 := (Below.refl _ x1).grown gr2 (Nat.le_refl _) (fun k hk => by cases hk)
                        replace o1 := ownsRow_later o1 c2'
                        replace o2 := ownsRow_down o2 y1
                        have c2 : Below X.heap.size X x2 := c1.trans (c2'.mono y1)
                        clear gr2 c1 c2'
                        generalize hG4 : x1.heap.size = G4 at *
                        clear hG4
                        go_wp2
                        go_loopw [25, 26, 27] (fun q1 q2 i wr => ∃ (p m : Nat) (us vs : List ByteArray), p ≤ j ∧ i = .int .i64 p ∧ m ≤ p ∧ q1 = .slice (some ⟨X.heap.size, 0, none⟩) m j ∧ q2 = .slice (some ⟨G4, 0, none⟩) m j ∧
                            wr.ownsRow X.heap.size 9 1 (.slice (some ⟨X.heap.size, 0, none⟩) m j) m (strs us) ∧ wr.ownsRow X.heap.size 9 1 (.slice (some ⟨G4, 0, none⟩) m j) m (strs vs) ∧ Hid (∀ v ∈ vs, v.toList.isEmpty = false) ∧ Below X.heap.size X wr) (fun _ _ i _ => j - (intOf i).toNat)
                        case atStart => exact ⟨0, 0, [], [], by omega, rfl, by omega, rfl, rfl, o1, o2, (fun v hv => by cases hv), c2⟩
                        case round =>
                          obtain ⟨p, m4, us, vs, hp, rfl, hmp, rfl, rfl, q1, q2, HV, hbr⟩ := hrel
                          clear o1 o2 c2
                          have hbrs := hbr.size
                          by_cases hlt4 : p < j
                          · obtain ⟨_, h0 | ⟨x, rfl, hx⟩⟩ := HXA.out.1
                            · omega
                            obtain ⟨_, h0 | ⟨y, rfl, hy⟩⟩ := HXB.out.1
                            · omega
                            have cx := cell_later hbr (hx p hlt4)
                            have cy0 := hy p hlt4
                            have cy := cell_later hbr cy0
                            clear hx hy
                            generalize ts.getD p ByteArray.empty = t at *
                            generalize ss.getD p ByteArray.empty = s at *
                            cases hs : s.toList.isEmpty
                            · as_aux_lemma =>
                              go_wp2_with (at_builtin; refine wpList_append_fits _ rfl (.tmp 197) (.tmp 202) 25 rfl X.heap.size 9 i0 1 Try.underlying25 hi hz1 X.heap.size m4 j (strs us) rfl (q1.alloc _) ⟨wr.heap.size, 0, none⟩ 1 1 [.string t] rfl rfl (cell_one_new _ _ _) (one_cell t) (by omega) ?_)
                              intro x3 p1 gr3
                              have p2 := (q2.alloc (.cells #[.string t] 9)).kept gr3 (.inr (by simp only [Value.ownBlock]; exact fun h => by cases h; omega))
                              have c3 : Below X.heap.size X x3 := (hbr.alloc hbrs _).grown gr3 (le_alloc hbrs _) (fun k hk => by cases hk; exact Nat.le_refl _)
                              have y3 := c3.size
                              have cy3 := cell_later c3 cy0
                              clear gr3 q1 q2 cx cy
                              go_wp2_with (at_builtin; refine wpList_append_fits _ rfl (.tmp 204) (.tmp 209) 25 rfl X.heap.size 9 i0 1 Try.underlying25 hi hz1 G4 m4 j (strs vs) rfl (p2.alloc _) ⟨x3.heap.size, 0, none⟩ 1 1 [.string s] rfl rfl (cell_one_new _ _ _) (one_cell s) (by omega) ?_)
                              intro x4 p4 gr4
                              have p3 := (p1.alloc (.cells #[.string s] 9)).kept gr4 (.inr (by simp only [Value.ownBlock]; exact fun h => by cases h; omega))
                              have c4 : Below X.heap.size X x4 := (c3.alloc y3 _).grown gr4 (le_alloc y3 _) (fun k hk => by cases hk; exact Nat.le_of_lt y1')
                              clear gr4 p1 p2 cy3 c3 y3
                              go_wp2
                              go_roundw
                              case rel => exact ⟨p + 1, m4 + 1, us ++ [t], vs ++ [s], by omega, by go_num, by omega, rfl, rfl, by rw [strs_snoc]; exact p3, by rw [strs_snoc]; exact p4, all_snoc HV.out hs, c4⟩
                              case measure => simp [intOf]; omega
                            · as_aux_lemma =>
                              go_wp2
                              go_roundw
                              case rel => exact ⟨p + 1, m4, us, vs, by omega, by go_num, by omega, rfl, rfl, q1, q2, HV.out, hbr⟩
                              case measure => simp [intOf]; omega
                          · have HCS := (show Hid (Calls Try.prog 6 #[.slice (some ⟨X.heap.size, 0, none⟩) m4 j, .slice (some ⟨G4, 0, none⟩) m4 j] wr (Chain true wr false)) from
                              chain_any true _ _ m4 j j us vs false wr (by omega) (strRow_of_owns q1) (strRow_of_owns q2) (by rw [own_steps us vs HV.out]; rfl))
                            have hRLQ : R = (L || Q) := by
                              rw [← HR.out, ← HL.out, ← HQ.out, own_cut ts ss K]
                              cases hold <;> simp
                            have hbw : Below w.heap.size w wr := hbX'.trans (hbr.mono hbX'.size)
                            have hsw := hbw.size
                            clear q1 q2 HV HXA HXB HR HL HQ hbr
                            go_wp2_with fail
                            refine HCS.out.mono ?_
                            rintro e x3 ⟨v5, rfl, H2⟩
                            clear HCS
                            go_wp2_with fail
                            refine H2.out.mono ?_
                            rintro e x4 ⟨v6, rfl, H3⟩
                            clear H2
                            go_wp2_with fail
                            refine H3.out.mono ?_
                            rintro e x5 ⟨rfl, hb8⟩
                            clear H3
                            subst hRLQ
                            cases L
                            all_goals
                              cases Q
                              all_goals
                                go_wp2
                                go_ret
                                exact ⟨rfl, hbw.trans (hb8.mono hsw)⟩
              · as_aux_lemma =>
                have hne : ((la : Int) != (lb : Int)) = true := by rw [bne_iff_ne]; omega
                go_wp2
                go_ret
                exact ⟨rfl, hbel⟩

set_option maxRecDepth 100000 in
set_option maxHeartbeats 4000000 in
theorem cut_big (hold : Bool) (a b : Option Addr) (la ca lb cb : Nat) (k : Int) (typ : ByteArray) (ts ss : List ByteArray) (w : World) (ha : StrRow w a la ts) (hb : StrRow w b lb ss)
    (h : 65536 < la ∨ (la ≤ 65536 ∧ 65536 < lb) ∨ (la ≤ 65536 ∧ lb ≤ 65536 ∧ 65536 < typ.size)) :
    Calls Try.prog 4 #[.bool hold, .slice a la ca, .slice b lb cb, .int .i64 k, .string typ] w fun e w' => e = .returned (.bool true) ∧ Below w.heap.size w w' := by
  have HB := bytes_any hold a b la ca lb cb k typ ts ss w ha hb
  clear ha hb
  rcases h with h | ⟨h, h2⟩ | ⟨h, h2, h3⟩
  · have j1 : (65536 : Int) < la := by omega
    go_enter Try.func4, Try.ntmps4
    go_wp2_with fail
    refine HB.mono ?_
    rintro e w1 ⟨r, rfl, rfl⟩
    clear HB
    cases r
    all_goals
      go_wp2
      go_ret
      exact ⟨rfl, Below.refl _ _⟩
  · have j1 : (la : Int) ≤ 65536 := by omega
    have j2 : (65536 : Int) < lb := by omega
    go_enter Try.func4, Try.ntmps4
    go_wp2_with fail
    refine HB.mono ?_
    rintro e w1 ⟨r, rfl, rfl⟩
    clear HB
    cases r
    all_goals
      go_wp2
      go_ret
      exact ⟨rfl, Below.refl _ _⟩
  · have j1 : (la : Int) ≤ 65536 := by omega
    have j2 : (lb : Int) ≤ 65536 := by omega
    have j3 : (65536 : Int) < typ.size := by omega
    go_enter Try.func4, Try.ntmps4
    go_wp2_with fail
    refine HB.mono ?_
    rintro e w1 ⟨r, rfl, rfl⟩
    clear HB
    cases r
    all_goals
      go_wp2
      go_ret
      exact ⟨rfl, Below.refl _ _⟩
end Go.Proofs.Qxb6612593a

