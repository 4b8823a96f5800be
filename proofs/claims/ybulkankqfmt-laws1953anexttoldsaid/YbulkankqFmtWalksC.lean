/- The walk of LawS1953ANext. -/
import Derived.Test.YbulkankqFmtFacts
namespace Go.Proofs.YbulkankqFmt.Nx
open Go.RowKit Go.Extern.Stop Go.Stop Go.Extern

set_option maxRecDepth 100000 in
set_option maxHeartbeats 40000000 in
theorem law_any (F : Interp) (read start held limit sel nRaw offRaw : Int) (a : Option Addr) (len cap b o : Nat) (z : Nat → Int) (hasErr : Bool) (w : World) (hF : F.answers w.tape)
    (hsel : 0 ≤ sel ∧ sel ≤ 255) (hnr : 0 ≤ nRaw ∧ nRaw ≤ 65535) (hor : 0 ≤ offRaw ∧ offRaw ≤ 65535) (hfill : IsFill w a len b o z) :
    Calls Ybaf.prog 3 #[.int .u64 read, .int .u64 start, .int .u64 held, .int .u64 limit, .int .u8 sel, .int .u16 nRaw, .int .u16 offRaw, .slice a len cap, .bool hasErr] w fun e w' => e = .returned (.bool true) ∧ Below w.heap.size w w' := by
  have HF := hide hF
  have HFI := hide hfill
  obtain ⟨hs0, hs1⟩ := hsel
  obtain ⟨hn0, hn1⟩ := hnr
  obtain ⟨ho0, ho1⟩ := hor
  clear hF hfill
  go_enter Ybaf.func3, Ybaf.ntmps3
  go_upto_region 1 with fail
  go_cut [19] (fun v wc => ∃ bl : Nat, v = .int .i64 bl ∧ 4096 ≤ bl ∧ bl ≤ 16384 ∧ w = wc)
  case first =>
    as_aux_lemma =>
      rcases (show sel % 3 = 0 ∨ sel % 3 = 1 ∨ sel % 3 = 2 by omega) with hm | hm | hm
      · go_wp2
        go_meet
        case rel => exact ⟨4096, rfl, by omega, by omega, rfl⟩
      · go_wp2
        go_meet
        case rel => exact ⟨8192, rfl, by omega, by omega, rfl⟩
      · go_wp2
        go_meet
        case rel => exact ⟨16384, rfl, by omega, by omega, rfl⟩
  case rest =>
    as_aux_lemma =>
      obtain ⟨bl, rfl, hb0, hb1, rfl⟩ := hcut
      obtain ⟨n, hn⟩ : ∃ n : Nat, nRaw % ((bl : Int) + 1) = (n : Int) := ⟨(nRaw % ((bl : Int) + 1)).toNat, by have := Int.emod_nonneg nRaw (show (bl : Int) + 1 ≠ 0 by omega); omega⟩
      have hnb : n ≤ bl := by have := Int.emod_lt_of_pos nRaw (show 0 < (bl : Int) + 1 by omega); omega
      obtain ⟨off, hoff⟩ : ∃ off : Nat, offRaw % ((bl : Int) - (n : Int) + 1) = (off : Int) := ⟨(offRaw % ((bl : Int) - (n : Int) + 1)).toNat, by have := Int.emod_nonneg offRaw (show (bl : Int) - (n : Int) + 1 ≠ 0 by omega); omega⟩
      have hob : off + n ≤ bl := by have := Int.emod_lt_of_pos offRaw (show 0 < (bl : Int) - (n : Int) + 1 by omega); omega
      obtain ⟨i0, hi, hz0, hz1, hz2⟩ := info_parts info5
      have hnbi : (n : Int) ≤ (bl : Int) := by omega
      have hb1i : (bl : Int) ≤ 16384 := by omega
      go_wp2_with (at_make; refine wpList_make_full _ rfl _ _ 24 rfl w.heap.size 5 i0 (.int .u8 0) 1 Ybaf.underlying24 hi hz0 hz1 _ _ _ _ bl rfl rfl rfl rfl (by rw [hz2]; omega) (by unfold maxLen; omega) (Nat.le_refl _) ?_)
      intro w1 hown hgrow
      have hb1w : Below w.heap.size w w1 := (Below.refl _ _).grown hgrow (Nat.le_refl _) (fun k h => by simp at h)
      have hbuf := Buf.made hown
      clear hown hgrow hn hoff hn0 hn1 ho0 ho1
      have HBUF := hide hbuf
      have HBW := hide hb1w
      clear hbuf hb1w
      go_wp2
      go_loopw [23] (fun i wr => ∃ (k : Nat) (zs : List Int), k ≤ n ∧ i = .int .i64 k ∧ Buf wr w.heap.size bl zs ∧ Below w.heap.size w wr) (fun i _ => n - (intOf i).toNat)
      case atStart => exact ⟨0, _, Nat.zero_le _, rfl, unhide HBUF, unhide HBW⟩
      case round =>
        as_aux_lemma =>
          obtain ⟨k, zs, hk, rfl, hbuf, hbel⟩ := hrel
          clear HBUF HBW
          by_cases hlt : k < n
          · have hkc := hbuf.cell (off + k) (by omega)
            obtain ⟨cB, fB⟩ := hkc
            have HB2 := hide hbuf
            have HL2 := hide hbel
            have hlti : (k : Int) < (n : Int) := by omega
            have hix : (off : Int) + (k : Int) < (bl : Int) := by omega
            by_cases hz : 0 < len
            · obtain rfl := (unhide HFI).2.1 hz
              have hlm := (unhide HFI).1
              unfold maxLen at hlm
              have hzi : (0 : Int) < (len : Int) := by omega
              have hz0' : ((len : Int) == 0) = false := by simp; omega
              obtain ⟨j, hj⟩ : ∃ j : Nat, (k : Int) % (len : Int) = (j : Int) := ⟨k % len, by simp⟩
              have hjl : j < len := by have := Int.emod_lt_of_pos (k : Int) hzi; omega
              have hcj := cell_later hbel ((unhide HFI).2.2 j hjl)
              clear hbuf hbel
              go_wp2
              go_roundw
              case rel => exact ⟨k + 1, _, by omega, by go_num, (unhide HB2).put _ _, (unhide HL2).setCell (p := ⟨w.heap.size, off + k, none⟩) (Nat.le_refl _) _⟩
              case measure => simp [intOf]; omega
            · have hzi : ¬ (0 : Int) < (len : Int) := by omega
              clear hbuf hbel
              go_wp2
              go_roundw
              case rel => exact ⟨k + 1, _, by omega, by go_num, (unhide HB2).put _ _, (unhide HL2).setCell (p := ⟨w.heap.size, off + k, none⟩) (Nat.le_refl _) _⟩
              case measure => simp [intOf]; omega
          · have e : n = k := by omega
            subst e
            have HB2 := hide hbuf
            have HL2 := hide hbel
            clear hbuf hbel HFI hs0 hs1
            go_upto_region 11 with fail
            go_cut [24] (fun v wx => ∃ od : Nat, v = .slice (some ⟨w.heap.size, od, none⟩) n (bl - off) ∧ (0 < n → od = off) ∧ wr = wx)
            case first =>
              as_aux_lemma =>
                by_cases hbo : bl = off
                · go_wp2
                  go_meet
                  case rel => exact ⟨0, congr_slice (by omega) (by omega), by omega, rfl⟩
                · go_wp2
                  go_meet
                  case rel => exact ⟨off, congr_slice (by omega) rfl, fun _ => rfl, rfl⟩
            case rest =>
              as_aux_lemma =>
                obtain ⟨od, rfl, hod, rfl⟩ := hcut
                have HOD := hide hod
                clear hod
                have hwB : w.heap.size ≤ wr.heap.size := (unhide HL2).size
                go_wp2_with (at_make; refine wpList_make_full _ rfl _ _ 24 rfl wr.heap.size 5 i0 (.int .u8 0) 1 Ybaf.underlying24 hi hz0 hz1 _ _ _ _ n rfl rfl rfl rfl (by rw [hz2]; omega) (by unfold maxLen; omega) (Nat.le_refl _) ?_)
                intro w2 hown2 hgrow2
                have hb2 : Below wr.heap.size wr w2 := (Below.refl _ _).grown hgrow2 (Nat.le_refl _) (fun k h => by simp at h)
                obtain ⟨cur, hcl, hxx, hcur⟩ := row_block hown2
                clear hxx
                have HB3 := hide ((unhide HB2).later hb2)
                have HB2' := hide hb2
                have HCL := hide hcl
                have HCUR := hide hcur
                have HSRC := hide ((unhide HB3).src hob (unhide HOD))
                have HLEN := hide (atHand_length (unhide HB2).1 hob)
                clear hown2 hgrow2 hb2 hcl hcur
                go_wp2_with ((refine wpList_copy_splice rfl _ _ 24 24 rfl 5 Ybaf.underlying24 (by kernel_rfl) _ _ _ _ _ _ rfl rfl wr.heap.size 0 cur 5 (unhide HCUR) (atHand zs off n) (by rw [unhide HLEN]; exact (Nat.min_self n).symm) (by intro _; exact ⟨rfl, _, rfl, fun j v hj => by rw [Addr.add_lit]; exact unhide HSRC j v hj⟩) (by rw [unhide HLEN, unhide HCL]; omega) (atHand_one _ _ _) wr.heap.size w2 (by exact Below.refl _ _) (Nat.le_refl _) ?_))
                intro w3 hg3 hb3
                have HP := hide (pre_of_copy (unhide HB2) hob (unhide HB2') (unhide HCL) hb3 (unhide hg3))
                have HW3 := hide ((unhide HL2).trans (((unhide HB2').trans hb3).mono hwB))
                have hO3 : wr.heap.size < w3.heap.size := lt_of_block (unhide HP).old
                clear HB3 HB2' HCL HCUR HSRC HLEN hg3 hb3 HB2 HL2
                go_upto_if 87 with fail
                go_cut [26] (fun v wx => ((hasErr = false ∧ v = .nilIface) ∨ (hasErr = true ∧ ∃ p, v = .iface 38 (.pointer (some p)))) ∧ Pre wx w.heap.size wr.heap.size bl off n zs ∧ Below w.heap.size w wx ∧ F.answers wx.tape)
                case first =>
                  as_aux_lemma =>
                    cases hasErr with
                    | false =>
                      go_wp2_with fail
                      go_meet
                      case rel => exact ⟨.inl ⟨rfl, rfl⟩, unhide HP, unhide HW3, by rw [(unhide HW3).tape]; exact unhide HF⟩
                    | true =>
                      go_wp2_with fail
                      refine (new_any _ _).mono ?_
                      rintro e w4 ⟨rfl, rfl⟩
                      dsimp only
                      go_wp2_with fail
                      go_meet
                      case rel => exact ⟨.inr ⟨rfl, _, rfl⟩, (unhide HP).later ((Below.refl _ _).alloc (Nat.le_refl _) _), (unhide HW3).alloc (by omega) _, by show F.answers w3.tape; rw [(unhide HW3).tape]; exact unhide HF⟩
                case rest =>
                  as_aux_lemma =>
                    obtain ⟨hev, hpre, hbx, hFx⟩ := hcut
                    obtain ⟨ev, hev0⟩ : ∃ ev, ev = u26 := ⟨_, rfl⟩
                    subst hev0
                    obtain ⟨bs, hbs⟩ : ∃ bs, wc.heap.size = bs := ⟨_, rfl⟩
                    have hBs : w.heap.size < bs := by rw [← hbs]; exact lt_of_block hpre.buf.block
                    have hOs : wr.heap.size < bs := by rw [← hbs]; exact lt_of_block hpre.old
                    have HEV := hide hev
                    have HP2 := hide hpre
                    have HBX := hide hbx
                    have HFX := hide hFx
                    clear hev hpre hbx hFx HP HW3 HF hO3
                    go_upto_region 18 with fail
                    go_cut [28] (fun v wx => v = .pointer (some ⟨bs + 1, 0, none⟩) ∧ St wx bs (bs + 1) (.slice (some ⟨w.heap.size, 0, none⟩) bl bl) (.slice (some ⟨w.heap.size, od, none⟩) n (bl - off)) ev limit read start held ∧ Pre wx w.heap.size wr.heap.size bl off n zs ∧ Below w.heap.size w wx ∧ F.answers wx.tape ∧ bs + 1 < wx.heap.size)
                    case first =>
                      as_aux_lemma =>
                        have HSN := hide (St.new wc (.slice (some ⟨w.heap.size, 0, none⟩) bl bl) (.slice (some ⟨w.heap.size, od, none⟩) n (bl - off)) ev limit read start held)
                        rw [hbs] at HSN
                        rcases unhide HEV with ⟨he, hv⟩ | ⟨he, pp, hv⟩
                        all_goals
                          subst hv
                          clear he
                          go_wp2
                          go_meet
                          case rel =>
                            refine ⟨rfl, unhide HSN, (unhide HP2).later (((Below.refl _ _).alloc (Nat.le_refl _) _).alloc (by simp) _), ((unhide HBX).alloc (by omega) _).alloc (by simp; omega) _, unhide HFX, by simp; omega⟩
                    case rest =>
                      as_aux_lemma =>
                        obtain ⟨rfl, hst, hpre, hbx, hFx, hsz⟩ := hcut
                        clear HP2 HBX HFX hbs
                        have HS := hide hst
                        have HP2 := hide hpre
                        have HBX := hide hbx
                        have hev2 : ev = .nilIface ∨ ∃ t v, ev = .iface t v := by
                          rcases unhide HEV with ⟨_, h⟩ | ⟨_, p, h⟩
                          · exact .inl h
                          · exact .inr ⟨_, _, h⟩
                        have HN := hide (next_any F bs (bs + 1) w.heap.size bl od ev n (bl - off) limit read start held wc (atHand zs off n) hFx (by omega) (by omega) (by omega) (by omega) hb1 (atHand_length hpre.buf.1 hob) (atHand_one _ _ _) (hpre.buf.src hob (unhide HOD)) hev2 hst)
                        have hwsz : bs + 1 < wc.heap.size := hsz
                        clear hst hpre hbx hFx hev2 hsz
                        go_wp2_with fail
                        refine (unhide HN).mono ?_
                        clear HN
                        rintro e w5 ⟨rfl, ev', bv', dv', herr, hst', hk, hcase⟩
                        dsimp only
                        have HS5 := hide hst'
                        have HE5 := hide herr
                        have HP5 := hide ((unhide HP2).kept hk (by omega) (by omega) (by omega) (by omega))
                        have HB5 := hide ((unhide HBX).trans (hk.below (by omega) (by omega) (by omega)))
                        have HC5 := hide hcase
                        clear HS HP2 HBX hst' herr hk hcase
                        obtain ⟨x1, x2, x3, x4, x5, x6, x7, x8, y1, y2, y3, y4, y5⟩ := unhide HS5
                        clear y1 y2 y3 y4 y5
                        go_upto_if 111 with fail
                        go_cut [] (fun wx => w5 = wx)
                        case first =>
                          as_aux_lemma =>
                            rcases unhide HEV with ⟨he, hv⟩ | ⟨he, pp, hv⟩
                            · subst he
                              subst hv
                              rcases unhide HE5 with ⟨t, v, h1, _⟩ | ⟨_, ⟨hov, u, h2⟩ | ⟨hov, h2⟩⟩
                              · cases h1
                              · have hd : decide (limit < IntKind.u64.wrap (IntKind.u64.wrap (IntKind.u64.wrap (read - (n : Int)) - start) + held)) = true := by simpa [countedOf, takenOf] using hov
                                subst h2
                                clear hov
                                go_wp2
                                go_meet
                                case rel => rfl
                              · have hd : decide (limit < IntKind.u64.wrap (IntKind.u64.wrap (IntKind.u64.wrap (read - (n : Int)) - start) + held)) = false := by simpa [countedOf, takenOf] using hov
                                subst h2
                                clear hov
                                go_wp2
                                go_meet
                                case rel => rfl
                            · subst he
                              subst hv
                              rcases unhide HE5 with ⟨t, v, _, h2⟩ | ⟨h1, _⟩
                              · subst h2
                                have hq := neq_err pp
                                go_wp2
                                go_meet
                                case rel => rfl
                              · cases h1
                        case rest =>
                          as_aux_lemma =>
                            obtain rfl := hcut
                            clear HEV HE5 x7
                            have hq28 := neq_stream ⟨bs, 0, none⟩
                            have hq36 := neq_byte
                            rcases unhide HC5 with ⟨hng, rfl, rfl⟩ | ⟨⟨hg1, hg2⟩, N, cur, hwN, rfl, rfl, hcur, hcl, htk⟩
                            · go_wp2
                              go_loopw [30] (fun i wy => ∃ j : Nat, j ≤ n ∧ i = .int .i64 j ∧ Below w5.heap.size w5 wy) (fun i _ => n - (intOf i).toNat)
                              case atStart => exact ⟨0, Nat.zero_le _, rfl, Below.refl _ _⟩
                              case round =>
                                as_aux_lemma =>
                                  obtain ⟨j, hj, rfl, hbr⟩ := hrel
                                  have z6 := cell_later hbr x6
                                  by_cases hlt : j < n
                                  · have q1 := cell_later hbr (show w5.cell? ⟨w.heap.size, od + j, none⟩ = some (.int .u8 (zs.getD (off + j) 0)) by rw [unhide HOD (by omega)]; exact ((unhide HP5).buf.cell (off + j) (by omega)).1)
                                    have q2 := cell_later hbr ((unhide HP5).oldCell hob j hlt)
                                    generalize zs.getD (off + j) 0 = x at q1 q2
                                    have hlti : (j : Int) < (n : Int) := by omega
                                    clear x1 x2 x3 x4 x5 x6 x8 hq28 hq36 HC5 hng
                                    go_wp2
                                    go_quiet (fail)
                                    go_wp2
                                    go_roundw
                                    case rel => exact ⟨j + 1, by omega, by go_num, below_drewN hbr _⟩
                                    case measure => simp [intOf]; omega
                                  · have e : n = j := by omega
                                    subst e
                                    have z1 := cell_later hbr x1
                                    have HBF := hide ((unhide HB5).trans (hbr.mono (unhide HB5).size))
                                    have hbl0 : (0 : Int) < (bl : Int) := by omega
                                    clear x1 x2 x3 x4 x5 x6 x8 hq28 HC5 HS5 HP5 HB5 hbr hlt
                                    have key : ∃ t1 t2 : Bool, decide ((4096 : Int) < (bl : Int)) = t1 ∧ decide ((n : Int) ≤ 2048) = t2 ∧ (t1 && t2) = false := by
                                      refine ⟨_, _, rfl, rfl, ?_⟩
                                      by_cases g1 : 4096 < bl
                                      · have : ¬ (n : Int) ≤ 2048 := by omega
                                        simp [this]
                                      · have : ¬ (4096 : Int) < (bl : Int) := by omega
                                        simp [this]
                                    obtain ⟨t1, t2, d1, d2, d3⟩ := key
                                    have HNG := hide hng
                                    clear hng
                                    by_cases hn0 : 0 < n
                                    · obtain rfl := unhide HOD hn0
                                      have hn0i : (0 : Int) < (n : Int) := by omega
                                      have hofi : (od : Int) < (bl : Int) := by omega
                                      have dn : decide ((0 : Int) < (n : Int)) = true := by simpa using hn0i
                                      cases t1 with
                                      | false =>
                                        go_wp2
                                        go_quiet (fail)
                                        go_wp2
                                        go_quiet (fail)
                                        go_wp2
                                        go_ret
                                        exact ⟨rfl, by repeat (first | exact unhide HBF | apply below_drewN)⟩
                                      | true =>
                                        simp only [Bool.true_and] at d3
                                        subst d3
                                        go_wp2
                                        go_quiet (fail)
                                        go_wp2
                                        go_quiet (fail)
                                        go_wp2
                                        go_ret
                                        exact ⟨rfl, by repeat (first | exact unhide HBF | apply below_drewN)⟩
                                    · have dn : decide ((0 : Int) < (n : Int)) = false := by simp; omega
                                      cases t1 with
                                      | false =>
                                        go_wp2
                                        go_quiet (fail)
                                        go_wp2
                                        go_quiet (fail)
                                        go_wp2
                                        go_ret
                                        exact ⟨rfl, by repeat (first | exact unhide HBF | apply below_drewN)⟩
                                      | true =>
                                        simp only [Bool.true_and] at d3
                                        subst d3
                                        go_wp2
                                        go_quiet (fail)
                                        go_wp2
                                        go_quiet (fail)
                                        go_wp2
                                        go_ret
                                        exact ⟨rfl, by repeat (first | exact unhide HBF | apply below_drewN)⟩
                            · have HNH := hide hcur
                              have HTK := hide htk
                              have HNB : Hid (w.heap.size < N) := hide (by omega)
                              clear hcur htk hcl
                              go_wp2
                              go_loopw [30] (fun i wy => ∃ j : Nat, j ≤ n ∧ i = .int .i64 j ∧ Below w5.heap.size w5 wy) (fun i _ => n - (intOf i).toNat)
                              case atStart => exact ⟨0, Nat.zero_le _, rfl, Below.refl _ _⟩
                              case round =>
                                as_aux_lemma =>
                                  obtain ⟨j, hj, rfl, hbr⟩ := hrel
                                  have z6 := cell_later hbr x6
                                  by_cases hlt : j < n
                                  · have q1 := cell_later hbr (grown_cell (unhide HP5).buf.1 hob (unhide HNH) (unhide HTK) j hlt)
                                    have q2 := cell_later hbr ((unhide HP5).oldCell hob j hlt)
                                    generalize zs.getD (off + j) 0 = x at q1 q2
                                    have hlti : (j : Int) < (n : Int) := by omega
                                    clear x1 x2 x3 x4 x5 x6 x8 hq28 hq36 HC5
                                    go_wp2
                                    go_quiet (fail)
                                    go_wp2
                                    go_roundw
                                    case rel => exact ⟨j + 1, by omega, by go_num, below_drewN hbr _⟩
                                    case measure => simp [intOf]; omega
                                  · have e : n = j := by omega
                                    subst e
                                    have z1 := cell_later hbr x1
                                    have HBF := hide ((unhide HB5).trans (hbr.mono (unhide HB5).size))
                                    have hN5 := (hbr.block N (lt_of_block (unhide HNH))).trans (unhide HNH)
                                    have hB5 := (hbr.block w.heap.size (lt_of_block (unhide HP5).buf.block)).trans (unhide HP5).buf.block
                                    have heq := eql_byte_draws N w.heap.size _ _ _ (Nat.ne_of_gt (unhide HNB)) hN5 hB5
                                    have hbl0 : (0 : Int) < (bl : Int) := by omega
                                    have d1 : decide ((4096 : Int) < (bl : Int)) = true := by simp; omega
                                    have d2 : decide ((n : Int) ≤ 2048) = true := by simp; omega
                                    clear x1 x2 x3 x4 x5 x6 x8 hq28 HC5 HS5 HP5 HB5 hbr hlt hN5 hB5 HNH HTK
                                    by_cases hn0 : 0 < n
                                    · have hn0i : (0 : Int) < (n : Int) := by omega
                                      have dn : decide ((0 : Int) < (n : Int)) = true := by simpa using hn0i
                                      go_wp2
                                      go_quiet (fail)
                                      go_wp2
                                      go_quiet (fail)
                                      go_wp2
                                      go_ret
                                      exact ⟨rfl, by repeat (first | exact unhide HBF | apply below_drewN)⟩
                                    · have dn : decide ((0 : Int) < (n : Int)) = false := by simp; omega
                                      go_wp2
                                      go_quiet (fail)
                                      go_wp2
                                      go_quiet (fail)
                                      go_wp2
                                      go_ret
                                      exact ⟨rfl, by repeat (first | exact unhide HBF | apply below_drewN)⟩
end Go.Proofs.YbulkankqFmt.Nx
