import Derived.Test.Qxb6603539aMod0
import Derived.Test.Qxb6603539aWIdx
import Derived.Test.Qxb6603539aWZN
import Derived.Test.Qxb6603539aAny
import Derived.Deep.DeepCutAuto
import Derived.Deep.Cut
import Derived.Deep.CutRange
import Derived.Laws.EntriesVeiled
import Derived.Maps.AppendAt
namespace Go.Proofs.Qxb6603539a.Ds
open Go.RowKit
attribute [local go_sem] Oper.semAt_some
set_option linter.unusedSimpArgs false

def MPost (w : World) (fs : List Fl) (n : Nat) (e : Ending) (w' : World) : Prop := ∃ v, e = .returned v ∧ MS w w.heap.size w' v (modF fs n)

set_option maxHeartbeats 8000000 in
set_option maxRecDepth 100000 in
theorem model_any (fs : List Fl) (fa : Option Addr) (fb n : Nat) (w : World) (hn : fs.length = n) (hF : FilesAt w fa fb fs) (hok : ∀ f ∈ fs, FOk f) (hn1 : n ≤ 1048576) (hlc : lc fs n ≤ 1000000) :
    Calls Try.prog 22 #[.slice fa n n] w fun e w' => MPost w fs n e w' := by
  have HN := hide hn
  have HOK := hide hok
  have HLC := hide hlc
  clear hn hok hlc
  obtain ⟨B, hB⟩ : ∃ B, w.heap.size = B := ⟨_, rfl⟩
  have HFA : Hid (∀ W, Below B w W → FilesAt W fa fb fs) := fun W h => hF.kp (Kp.of_below (by rw [hB]; exact h))
  have HM0 : Hid (MS w B w (.slice none 0 0) (modF fs 0)) := ⟨Rep.nil _ _ _ _, Below.refl _ _⟩
  have HPO : Hid (∀ e w', (∃ v, e = .returned v ∧ MS w B w' v (modF fs n)) → MPost w fs n e w') := fun e w' h => by unfold MPost; rw [hB]; exact h
  have HBL : Hid (∀ W v S, MS w B W v S → B ≤ W.heap.size) := fun W v S h => by have := h.2.size; omega
  have HSB := hide hB
  clear hF hB
  go_enter Try.func22, Try.ntmps22
  go_wp2
  go_loopw [3, 4] (fun t3 t4 wr => ∃ (k : Nat) (v : Value), k ≤ n ∧ v = t3 ∧ t4 = .int .i64 k ∧ Hid (MS w B wr v (modF fs k))) (fun _ t4 _ => n - (intOf t4).toNat)
  case atStart => exact ⟨0, _, Nat.zero_le _, rfl, rfl, HM0⟩
  case round =>
    clear HM0
    obtain ⟨k, v, hkn, rfl, rfl, HM⟩ := hrel
    by_cases hlt : k < n
    · have HKL : Hid (k < fs.length) := by show k < fs.length; rw [HN.out]; exact hlt
      have hcell := (HFA.out wr HM.out.2).cell (fl_some HKL.out)
      have HFO := hide (HOK.out _ (fl_mem HKL.out))
      have HFL : Hid (∀ W, Below B w W → FileAt W (fl fs k)) := fun W h => (HFA.out W h).each _ (fl_mem HKL.out)
      have HWF : Hid (∀ i, i ≤ (fl fs k).ls.length → WF 3000000 (mS (modF fs k) (fl fs k).ls i)) := fun i hi => modF_at hlt hi HLC.out
      have HNX : Hid (modF fs (k + 1) = mS (modF fs k) (fl fs k).ls (fl fs k).ls.length) := rfl
      obtain ⟨⟨m, b, ao, ls⟩, hfl⟩ : ∃ f, fl fs k = f := ⟨_, rfl⟩
      rw [hfl] at hcell HFO HFL HWF HNX
      simp only at hcell HWF HNX
      obtain ⟨rfl, hc⟩ := hcell
      clear hfl HKL
      have hpl := HFO.out.len
      simp only at hpl
      have HS0 : Hid (mS (modF fs k) ls 0 = modF fs k) := rfl
      generalize modF fs k = S0 at HM HWF HNX HS0
      obtain ⟨p, hp⟩ : ∃ p, ls.length = p := ⟨_, rfl⟩
      have HP := hide hp
      rw [hp] at hpl HWF HNX
      clear hp
      have hk1 : (k : Int) < (n : Int) := by omega
      have hk0 : (0 : Int) ≤ (k : Int) := by omega
      go_wp2
      go_loopw [3, 6, 7, 8] (fun t3 t6 t7 t8 wx => ∃ (i : Nat) (cur : ByteArray) (op : Bool) (v : Value), i ≤ p ∧ v = t3 ∧ t8 = .int .i64 i ∧ t6 = .string cur ∧ t7 = .bool op ∧ Hid (op = (stp ls i).2.2 ∧ (op = true → cur = (stp ls i).1)) ∧ Hid (MS w B wx v (mS S0 ls i))) (fun _ _ _ t8 _ => p - (intOf t8).toNat)
      case atStart => exact ⟨0, ByteArray.empty, true, _, Nat.zero_le _, rfl, rfl, rfl, rfl, ⟨rfl, fun _ => rfl⟩, HM⟩
      case round =>
        clear HM
        obtain ⟨i, cur, op, v, hip, rfl, rfl, rfl, rfl, HOP, HM⟩ := hrel
        have hFW := HFL.out wr HM.out.2
        have cm : wr.cell? ⟨m, 1, none⟩ = some (.slice ao p p) := by rw [← HP.out, cell_of_row wr _ 1 _ _ _ hFW.1]; rfl
        by_cases hli : i < p
        · have hLs := hFW.lies
          simp only at hLs
          obtain rfl := hLs.ao (by rw [HP.out]; omega)
          have l0 := hLs.c0 i (by rw [HP.out]; exact hli)
          have l1 := hLs.c1 i (by rw [HP.out]; exact hli)
          have HTX := hide (HFO.out.txt i (by simp only; rw [HP.out]; exact hli))
          have HSD := hide (HFO.out.sound i (by simp only; rw [HP.out]; exact hli))
          simp only at HTX HSD
          obtain ⟨tx, kd, en, hln⟩ : ∃ tx kd en, at' ls i = ⟨tx, kd, en⟩ := ⟨_, _, _, rfl⟩
          have HLN := hide hln
          rw [hln] at l0 l1 HTX HSD
          simp only at l0 l1 HTX HSD
          clear hln hLs hFW
          have hwf := HWF.out i hip
          have HMH := hide (fun h => @mS_head S0 ls i h)
          have HME := hide (fun h h' => @mS_ent S0 ls i h h')
          have HMO := hide (fun h h' => @mS_on S0 ls i h h')
          have HPH := hide (fun h => @stp_head ls i h)
          have HPB := hide (fun h => @stp_bad ls i h)
          have HPN := hide (fun h h' => @stp_on ls i h h')
          rw [HLN.out] at HMH HME HMO HPH HPB HPN
          simp only at HMH HME HMO HPH HPB HPN
          obtain ⟨S, hS⟩ : ∃ S, mS S0 ls i = S := ⟨_, rfl⟩
          rw [hS] at HM hwf HMH HME HMO
          clear hS
          by_cases h2 : kd = 2
          · subst h2
            have HMH2 := hide (HMH.out rfl)
            have HPH2 := hide (HPH.out rfl)
            have HZN := hide (fun w => zz_name tx w (by have := HTX.out; unfold maxLen; omega) (HSD.out rfl))
            clear HMH HME HMO HPH HPB HPN HSD HTX
            obtain ⟨nm, hnm⟩ : ∃ nm, nameOf tx = nm := ⟨_, rfl⟩
            rw [hnm] at HMH2 HPH2 HZN
            clear hnm
            obtain ⟨⟨kv, vv, φk, φv, hR⟩, hbl⟩ := HM.out
            have HSI := secIndex_any B wr v S kv nm hR.row (by have := hwf.len; omega)
            by_cases hf : sidx S nm < S.length
            · rw [if_pos hf] at HSI
              have HSI := hide HSI
              have HOPN : Hid (opn S nm = S) := by unfold Hid opn; rw [if_pos hf]
              go_wp2_with (first | (go_at_call 31; refine (HZN.out _).mono ?_; rintro e w' ⟨rfl, hw⟩; have hw' := hw.symm; subst hw') | (go_at_call 25; refine HSI.out.mono ?_; rintro e w' ⟨rfl, hw⟩; have hw' := hw.symm; subst hw'))
              go_roundw
              case rel => exact ⟨i + 1, nm, true, _, by omega, rfl, by go_num, rfl, rfl, by rw [HPH2.out]; exact ⟨rfl, fun _ => rfl⟩, by rw [HMH2.out, HOPN.out]; exact HM⟩
              case measure => simp [intOf]; omega
            · rw [if_neg hf] at HSI
              have HSI := hide HSI
              have HOPN : Hid (opn S nm = addSec S nm) := by unfold Hid opn; rw [if_neg hf]
              obtain ⟨ao3, cp3, rfl⟩ := own_slice hR.row
              have hlen : S.length ≤ 3000000 := hwf.len
              obtain ⟨i0, hi0, hz0, hz1, hz2⟩ := info_parts Try.info75m
              have ha : Below wr.heap.size wr (wr.alloc (.cells #[.string nm, .slice none 0 0] 75)) := (Below.refl _ _).alloc (Nat.le_refl _) _
              have HO := hide (hR.stay (Stay.below ha)).row
              have hBW : B ≤ wr.heap.size := HBL.out _ _ _ HM.out
              have HSEC := hide (fun W1 v' hg ho => MS.sec (W1 := W1) (v' := v') (nm := nm) hR hbl hBW ha hg ho)
              clear hR ha hwf
              go_wp2_with (first | (go_at_call 31; refine (HZN.out _).mono ?_; rintro e w' ⟨rfl, hw⟩; have hw' := hw.symm; subst hw') | (go_at_call 25; refine HSI.out.mono ?_; rintro e w' ⟨rfl, hw⟩; have hw' := hw.symm; subst hw') | (at_builtin; refine wpList_append_lies _ (by rfl) _ _ _ (by rfl) B 75 i0 (.agg #[.string ⟨#[]⟩, .slice none 0 0]) 2 40 Try.underlying55 hi0 hz0 hz1 hz2 (by rfl) (by omega) _ S.length _ (by rfl) HO.out ⟨wr.heap.size, 0, none⟩ 1 1 [.string nm, .slice none 0 0] (by rfl) (by rfl) (cell_two_new _ _ _ _) (by simp [Value.oneCell']) (by omega) (by unfold maxLen; omega) (by omega) (by simp; omega) (wr.heap.size + 1) (by simp) ?_))
              intro g cap W2 hown hgrow hat hlt2
              have HM2 := hide (HSEC.out W2 _ hgrow hown)
              clear hown hgrow hat hlt2 HSEC HO HSI HM hbl
              go_wp2
              go_roundw
              case rel => exact ⟨i + 1, nm, true, _, by omega, rfl, by go_num, rfl, rfl, by rw [HPH2.out]; exact ⟨rfl, fun _ => rfl⟩, by rw [HMH2.out, HOPN.out]; exact HM2⟩
              case measure => simp [intOf]; omega
          · have k2 : (kd == 2) = false := by simpa using h2
            by_cases h5 : kd = 5
            · subst h5
              have HMO2 := hide (HMO.out (by omega) (by omega))
              have HPB2 := hide (HPB.out rfl)
              clear HMH HME HMO HPH HPB HPN HSD HTX hwf
              go_wp2
              go_roundw
              case rel => exact ⟨i + 1, cur, false, _, by omega, rfl, by go_num, rfl, rfl, by rw [HPB2.out]; exact ⟨rfl, fun h => by cases h⟩, by rw [HMO2.out]; exact HM⟩
              case measure => simp [intOf]; omega
            · have k5 : (kd == 5) = false := by simpa using h5
              have HPN2 := hide (HPN.out h2 h5)
              clear HMH HPH HPB HPN HSD
              by_cases h3 : kd = 3
              · subst h3
                cases op with
                | false =>
                  have HMO2 := hide (HMO.out (by omega) (by rw [← HOP.out.1]; simp))
                  clear HME HMO HTX hwf
                  go_wp2
                  go_roundw
                  case rel => exact ⟨i + 1, cur, false, _, by omega, rfl, by go_num, rfl, rfl, by rw [HPN2.out]; exact HOP, by rw [HMO2.out]; exact HM⟩
                  case measure => simp [intOf]; omega
                | true =>
                  have HME2 := hide (HME.out rfl HOP.out.1.symm)
                  rw [← HOP.out.2 rfl] at HME2
                  have HK3 : Hid ((at' ls i).k = 3) := by unfold Hid; rw [HLN.out]
                  clear HME HMO
                  obtain ⟨⟨kv, vv, φk, φv, hR⟩, hbl⟩ := HM.out
                  have HSI := secIndex_any B wr v S kv cur hR.row (by have := hwf.len; omega)
                  obtain ⟨ix, hix⟩ : ∃ ix : Int, (if sidx S cur < S.length then (sidx S cur : Int) else -1) = ix := ⟨_, rfl⟩
                  rw [hix] at HSI
                  have HSI := hide HSI
                  have HIX := hide hix
                  clear hix
                  go_upto_if 71 with (go_at_call 25; refine HSI.out.mono ?_; rintro e w' ⟨rfl, hw⟩; have hw' := hw.symm; subst hw')
                  go_cut [3, 10] from 23 to 139 (fun s3 s10 wx => ∃ v' : Value, v' = s3 ∧ s10 = .int .i64 (sidx (opn S cur) cur : Nat) ∧ Hid (MS w B wx v' (opn S cur)))
                  case first =>
                    by_cases hf : sidx S cur < S.length
                    · have HOPN : Hid (opn S cur = S) := by unfold Hid opn; rw [if_pos hf]
                      obtain rfl : ix = (sidx S cur : Int) := by rw [← HIX.out, if_pos hf]
                      have hz : decide (((sidx S cur : Nat) : Int) < 0) = false := decide_eq_false (by omega)
                      go_wp2
                      go_meet
                      case rel => exact ⟨v, rfl, by rw [HOPN.out], by rw [HOPN.out]; exact HM⟩
                    · have HOPN : Hid (opn S cur = addSec S cur) := by unfold Hid opn; rw [if_neg hf]
                      obtain rfl : ix = -1 := by rw [← HIX.out, if_neg hf]
                      have HSA := hide (sidx_add hf)
                      obtain ⟨ao3, cp3, rfl⟩ := own_slice hR.row
                      have hlen : S.length ≤ 3000000 := hwf.len
                      obtain ⟨i0, hi0, hz0, hz1, hz2⟩ := info_parts Try.info75m
                      have ha : Below wr.heap.size wr (wr.alloc (.cells #[.string cur, .slice none 0 0] 75)) := (Below.refl _ _).alloc (Nat.le_refl _) _
                      have HO := hide (hR.stay (Stay.below ha)).row
                      have hBW : B ≤ wr.heap.size := HBL.out _ _ _ HM.out
                      have HSEC := hide (fun W1 v' hg ho => MS.sec (W1 := W1) (v' := v') (nm := cur) hR hbl hBW ha hg ho)
                      clear hR ha hwf
                      go_wp2_with (at_builtin; refine wpList_append_lies _ (by rfl) _ _ _ (by rfl) B 75 i0 (.agg #[.string ⟨#[]⟩, .slice none 0 0]) 2 40 Try.underlying55 hi0 hz0 hz1 hz2 (by rfl) (by omega) _ S.length _ (by rfl) HO.out ⟨wr.heap.size, 0, none⟩ 1 1 [.string cur, .slice none 0 0] (by rfl) (by rfl) (cell_two_new _ _ _ _) (by simp [Value.oneCell']) (by omega) (by unfold maxLen; omega) (by omega) (by simp; omega) (wr.heap.size + 1) (by simp) ?_)
                      intro g cap W2 hown hgrow hat hlt2
                      have HM2 := hide (HSEC.out W2 _ hgrow hown)
                      have hwr : IntKind.i64.wrap ((S.length : Int) + 1 - 1) = (S.length : Int) := by rw [IntWalk.i64_in _ (by omega)]; omega
                      clear hown hgrow hat hlt2 HSEC HO HSI HM hbl
                      go_wp2
                      go_meet
                      case rel => exact ⟨_, rfl, by rw [HOPN.out, HSA.out], by rw [HOPN.out]; exact HM2⟩
                  case rest =>
                    obtain ⟨v1, rfl, rfl, HM1⟩ := hcut
                    have hwf1 := hwf.opn cur
                    have HI1 := sidx_opn S cur
                    have HEN : Hid (ent S cur (keyT tx) (EV ls i) = addVal (opk (opn S cur) (sidx (opn S cur) cur) (keyT tx)) (sidx (opn S cur) cur) (kidx (sat (opk (opn S cur) (sidx (opn S cur) cur) (keyT tx)) (sidx (opn S cur) cur)).ks (keyT tx)) (EV ls i)) := rfl
                    clear hR hbl HM HSI HIX hwf cm l0 l1
                    generalize sidx (opn S cur) cur = I at HI1 HEN HM1
                    generalize opn S cur = S1 at HI1 HEN HM1 hwf1
                    obtain ⟨⟨kv1, vv1, φk1, φv1, hR1⟩, hbl1⟩ := HM1.out
                    have hFW1 := HFL.out wc HM1.out.2
                    have cm : wc.cell? ⟨m, 1, none⟩ = some (.slice (some ⟨b, 0, none⟩) p p) := by rw [← HP.out, cell_of_row wc _ 1 _ _ _ hFW1.1]; rfl
                    have l0 : wc.cell? ⟨b, i * 3, none⟩ = some (.string tx) := by have := hFW1.lies.c0 i (by simp only; rw [HP.out]; exact hli); simp only at this; rw [HLN.out] at this; exact this
                    have HZK := hide (fun w => zz_key tx w HTX.out)
                    obtain ⟨key, hkey⟩ : ∃ key, keyT tx = key := ⟨_, rfl⟩
                    rw [hkey] at HZK HEN HME2
                    clear hkey hFW1
                    obtain ⟨g, cpg, rfl, hvg, -, hgl, -, hgc, hgf⟩ := own_at hR1.row (by omega)
                    have r1 : wc.cell? ⟨g, I * 2 + 1, none⟩ = some (kv1 I) := by rw [hgc _ (by omega), pairs_1 _ _ _ _ HI1]
                    have hKI := keyIndex_any B wc (kv1 I) (sat S1 I).ks (vv1 I) key (hR1.keys I HI1) (by have := hwf1.klen I HI1; omega)
                    obtain ⟨ix, hix⟩ : ∃ ix : Int, (if kidx (sat S1 I).ks key < (sat S1 I).ks.length then (kidx (sat S1 I).ks key : Int) else -1) = ix := ⟨_, rfl⟩
                    rw [hix] at hKI
                    have HKI := hide hKI
                    have HIX := hide hix
                    obtain ⟨aok, cpk, hkvs⟩ := own_slice (hR1.keys I HI1)
                    have HKV := hide hkvs
                    have hlen1 : S1.length ≤ 3000001 := hwf1.len
                    have hklen1 : (sat S1 I).ks.length ≤ 3000001 := hwf1.klen I HI1
                    have HBW1 : Hid (B ≤ wc.heap.size) := HBL.out _ _ _ HM1.out
                    rw [hkvs] at r1
                    rw [hkvs] at HKI
                    have hI1 : (I : Int) < (S1.length : Int) := by omega
                    have hI0 : (0 : Int) ≤ (I : Int) := by omega
                    have HR1 := hide hR1
                    have HBL1 := hide hbl1
                    have HGC := hide hgc
                    have HWF1 := hide hwf1
                    clear hix hKI hkvs hR1 hbl1 hgc hgf hwf1
                    go_upto_if 97 with (first | (go_at_call 32; refine (HZK.out _).mono ?_; rintro e w' ⟨rfl, hw⟩; have hw' := hw.symm; subst hw') | (go_at_call 33; refine HKI.out.mono ?_; rintro e w' ⟨rfl, hw⟩; have hw' := hw.symm; subst hw'))
                    go_cut [12] from 23 to 139 (fun s12 wx => s12 = .int .i64 (kidx (sat (opk S1 I key) I).ks key : Nat) ∧ Hid (MS w B wx (.slice (some ⟨g, 0, none⟩) S1.length cpg) (opk S1 I key)))
                    case first =>
                      by_cases hf : kidx (sat S1 I).ks key < (sat S1 I).ks.length
                      · have HOPK : Hid (opk S1 I key = S1) := by unfold Hid opk; rw [if_pos hf]
                        obtain rfl : ix = (kidx (sat S1 I).ks key : Int) := by rw [← HIX.out, if_pos hf]
                        have hz : decide (((kidx (sat S1 I).ks key : Nat) : Int) < 0) = false := decide_eq_false (by omega)
                        go_wp2
                        go_meet
                        case rel => exact ⟨by rw [HOPK.out], by rw [HOPK.out]; exact HM1⟩
                      · have HOPK : Hid (opk S1 I key = addKey S1 I key) := by unfold Hid opk; rw [if_neg hf]
                        obtain rfl : ix = -1 := by rw [← HIX.out, if_neg hf]
                        have HKA := hide (kidx_add HI1 hf)
                        obtain ⟨i0, hi0, hz0, hz1, hz2⟩ := info_parts Try.info80m
                        have ha : Below wc.heap.size wc (wc.alloc (.cells #[.string key, .slice none 0 0] 80)) := (Below.refl _ _).alloc (Nat.le_refl _) _
                        have hO := (HR1.out.stay (Stay.below ha)).keys I HI1
                        rw [HKV.out] at hO
                        have HO := hide hO
                        have hBW : B ≤ wc.heap.size := HBW1.out
                        have HKEY := fun W1 k' hg ho hat => MS.key (W1 := W1) (k' := k') (key := key) HR1.out HBL1.out HBW1.out ha HI1 hvg hg ho hat
                        rw [HKV.out] at HKEY
                        have HKEY := hide HKEY
                        have r1a : (wc.alloc (.cells #[.string key, .slice none 0 0] 80)).cell? ⟨g, I * 2 + 1, none⟩ = some (.slice aok (sat S1 I).ks.length cpk) := (ha.cell hgl).trans r1
                        clear ha hO
                        obtain ⟨q, hq⟩ : ∃ q, (sat S1 I).ks.length = q := ⟨_, rfl⟩
                        rw [hq] at HO HKEY r1 r1a hklen1 HKA hf
                        clear hq
                        go_wp2_with (at_builtin; refine wpList_append_lies _ (by rfl) _ _ _ (by rfl) B 80 i0 (.agg #[.string ⟨#[]⟩, .slice none 0 0]) 2 40 Try.underlying73 hi0 hz0 hz1 hz2 (by rfl) (by omega) _ q _ (by rfl) HO.out ⟨wc.heap.size, 0, none⟩ 1 1 [.string key, .slice none 0 0] (by rfl) (by rfl) (cell_two_new _ _ _ _) (by simp [Value.oneCell']) (by omega) (by unfold maxLen; omega) (by omega) (by simp; omega) (wc.heap.size + 1) (by simp) ?_)
                        intro g6 cap6 W6 hown6 hgr6 hat6 hlt6
                        obtain ⟨hM6, hc6, hf6⟩ := HKEY.out W6 _ hgr6 hown6 (hat6.elim (fun h => .inl h.symm) (fun h => .inr (by rw [h]; simp [Value.ownBlock])))
                        have HM6 := hide hM6
                        have r6 : (W6.setCell ⟨g, I * 2 + 1, none⟩ (.slice (some ⟨g6, 0, none⟩) (q + 1) cap6)).cell? ⟨g, I * 2 + 1, none⟩ = some (.slice (some ⟨g6, 0, none⟩) (q + 1) cap6) := World.cell?_setCell_same _ _ _ (by rw [hc6])
                        have hwr : IntKind.i64.wrap ((q : Int) + 1 - 1) = (q : Int) := by rw [IntWalk.i64_in _ (by omega)]; omega
                        clear hown6 hgr6 hat6 hlt6 HKEY HO HM1 hM6 r1 r1a
                        go_wp2
                        go_meet
                        case rel => exact ⟨by rw [HOPK.out, HKA.out.1], by rw [HOPK.out]; exact HM6⟩
                    case rest =>
                      obtain ⟨rfl, HM2⟩ := hcut
                      have HWF2 := hide (HWF1.out.opk HI1 key)
                      have HJ := kidx_opk (key := key) HI1
                      have hI2 : I < (opk S1 I key).length := by rw [opk_len]; exact HI1
                      have hL2 : (opk S1 I key).length = S1.length := opk_len _ _ _
                      clear HM1 HR1 HBL1 HGC HKV HIX HKI HZK r1 cm l0 HBW1 hgl
                      generalize kidx (sat (opk S1 I key) I).ks key = J at HJ HEN ⊢
                      generalize opk S1 I key = S2 at HJ HEN HM2 HWF2 hI2 hL2
                      obtain ⟨⟨kv, vv, φk, φv, hR⟩, hbl⟩ := HM2.out
                      have HBW : Hid (B ≤ wc.heap.size) := HBL.out _ _ _ HM2.out
                      obtain ⟨gk, cpk, hkvs, hgk, -, hgkl, -, hgkc, -⟩ := own_at (hR.keys I hI2) (by omega)
                      obtain ⟨ga, cpa, -, hga, -, hgal, -, hgac, -⟩ := own_at hR.row (by omega)
                      obtain rfl : g = ga := by rw [hga] at hvg; exact (Option.some.inj hvg).symm
                      obtain ⟨aov, cpv, hvvs⟩ := own_slice (hR.vals I J hI2 HJ)
                      have r1 : wc.cell? ⟨g, I * 2 + 1, none⟩ = some (kv I) := by rw [hgac _ (by omega), pairs_1 _ _ _ _ hI2]
                      have r2 : wc.cell? ⟨gk, J * 2 + 1, none⟩ = some (vv I J) := by rw [hgkc _ (by omega), pairs_1 _ _ _ _ HJ]
                      have HEV := hide (ev_any ⟨m, b, some ⟨b, 0, none⟩, ls⟩ i wc.drew (HFL.out _ (hbl.trans ((Below.refl _ _).drew))) HFO.out (by simp only; rw [HP.out]; exact hli) HK3.out)
                      simp only at HEV
                      have HVAL := hide (fun Wa W1 x' ha => MS.val (Wa := Wa) (W1 := W1) (x' := x') (x := EV ls i) hR hbl HBW.out ha hI2 HJ hgk)
                      have hvn : (kat (sat S2 I).ks J).vs.length ≤ 3000002 := HWF2.out.vlen I J hI2 HJ
                      have hkn : (sat S2 I).ks.length ≤ 3000002 := HWF2.out.klen I hI2
                      have HRV := hide (fun Wa (ha : Below wc.heap.size wc Wa) => (hR.stay (Stay.below ha)).vals I J hI2 HJ)
                      obtain ⟨i9, hi9, hz90, hz91, hz92⟩ := info_parts Try.info9m
                      rw [hkvs] at r1
                      rw [hvvs] at r2 HVAL HRV
                      rw [hkvs] at HVAL
                      have hjb : (J : Int) < ((sat S2 I).ks.length : Int) := by omega
                      have hjb0 : (0 : Int) ≤ (J : Int) := by omega
                      have hBWn : B ≤ wc.heap.size := HBW.out
                      generalize hkl1 : (sat S2 I).ks.length = klen at hkvs hjb r1 hkn
                      generalize hvl1 : (kat (sat S2 I).ks J).vs.length = vlen at hvvs hvn r2 HVAL HRV
                      clear hgac hgkc hR hbl HM2 HWF2 HWF1
                      go_wp2
                      refine wp_region_L (S := fun w' => w'.cell? ⟨g, I * 2 + 1, none⟩ = some (.slice (some ⟨gk, 0, none⟩) klen cpk) ∧ w'.cell? ⟨gk, J * 2 + 1, none⟩ = some (.slice aov vlen cpv)) 22 23 (by rfl) (by kernel_rfl) ⟨r1, r2⟩ (fun hS => ?_)
                      refine anyL_takeD (some 118) (i := 0) (v := .slice (some ⟨g, 0, none⟩) S1.length cpg) (by kernel_rfl) (by kernel_rfl) (by kernel_rfl) (by kernel_rfl) (fun o ho => ?_) (fun _ _ _ h => h) hS ?_
                      · simp only [List.getElem?_toArray, List.getElem?_cons_succ, List.getElem?_cons_zero, Option.some.injEq] at ho; subst ho; refine ⟨rfl, Or.inl ⟨by rfl, ?_⟩⟩; intro w' hw'; obtain ⟨q1, q2⟩ := hw'; go_simp
                      simp only [Act.put, List.setIfInBounds_toArray, List.set_cons_zero, List.set_cons_succ]
                      refine anyL_takeD (some 119) (i := 1) (v := .int .i64 I) (by kernel_rfl) (by kernel_rfl) (by kernel_rfl) (by kernel_rfl) (fun o ho => ?_) (fun _ _ _ h => h) hS ?_
                      · simp only [List.getElem?_toArray, List.getElem?_cons_succ, List.getElem?_cons_zero, Option.some.injEq] at ho; subst ho; refine ⟨rfl, Or.inl ⟨by rfl, ?_⟩⟩; intro w' hw'; obtain ⟨q1, q2⟩ := hw'; go_simp
                      simp only [Act.put, List.setIfInBounds_toArray, List.set_cons_zero, List.set_cons_succ]
                      refine anyL_takeD (some 120) (i := 2) (v := .pointer (some ⟨g, I * 2, none⟩)) (by kernel_rfl) (by kernel_rfl) (by kernel_rfl) (by kernel_rfl) (fun o ho => ?_) (fun _ _ _ h => h) hS ?_
                      · simp only [List.getElem?_toArray, List.getElem?_cons_succ, List.getElem?_cons_zero, Option.some.injEq] at ho; subst ho; refine ⟨rfl, Or.inl ⟨by rfl, ?_⟩⟩; intro w' hw'; obtain ⟨q1, q2⟩ := hw'; go_simp
                      simp only [Act.put, List.setIfInBounds_toArray, List.set_cons_zero, List.set_cons_succ]
                      refine anyL_takeD (some 121) (i := 3) (v := .pointer (some ⟨g, I * 2 + 1, none⟩)) (by kernel_rfl) (by kernel_rfl) (by kernel_rfl) (by kernel_rfl) (fun o ho => ?_) (fun _ _ _ h => h) hS ?_
                      · simp only [List.getElem?_toArray, List.getElem?_cons_succ, List.getElem?_cons_zero, Option.some.injEq] at ho; subst ho; refine ⟨rfl, Or.inl ⟨by rfl, ?_⟩⟩; intro w' hw'; obtain ⟨q1, q2⟩ := hw'; go_simp
                      simp only [Act.put, List.setIfInBounds_toArray, List.set_cons_zero, List.set_cons_succ]
                      refine anyL_takeD (some 122) (i := 4) (v := .slice (some ⟨gk, 0, none⟩) klen cpk) (by kernel_rfl) (by kernel_rfl) (by kernel_rfl) (by kernel_rfl) (fun o ho => ?_) (fun _ _ _ h => h) hS ?_
                      · simp only [List.getElem?_toArray, List.getElem?_cons_succ, List.getElem?_cons_zero, Option.some.injEq] at ho; subst ho; refine ⟨rfl, Or.inl ⟨by rfl, ?_⟩⟩; intro w' hw'; obtain ⟨q1, q2⟩ := hw'; go_simp
                      simp only [Act.put, List.setIfInBounds_toArray, List.set_cons_zero, List.set_cons_succ]
                      refine anyL_takeD (some 123) (i := 5) (v := .int .i64 J) (by kernel_rfl) (by kernel_rfl) (by kernel_rfl) (by kernel_rfl) (fun o ho => ?_) (fun _ _ _ h => h) hS ?_
                      · simp only [List.getElem?_toArray, List.getElem?_cons_succ, List.getElem?_cons_zero, Option.some.injEq] at ho; subst ho; refine ⟨rfl, Or.inl ⟨by rfl, ?_⟩⟩; intro w' hw'; obtain ⟨q1, q2⟩ := hw'; go_simp
                      simp only [Act.put, List.setIfInBounds_toArray, List.set_cons_zero, List.set_cons_succ]
                      refine anyL_takeD (some 124) (i := 6) (v := .slice (some ⟨g, 0, none⟩) S1.length cpg) (by kernel_rfl) (by kernel_rfl) (by kernel_rfl) (by kernel_rfl) (fun o ho => ?_) (fun _ _ _ h => h) hS ?_
                      · simp only [List.getElem?_toArray, List.getElem?_cons_succ, List.getElem?_cons_zero, Option.some.injEq] at ho; subst ho; refine ⟨rfl, Or.inl ⟨by rfl, ?_⟩⟩; intro w' hw'; obtain ⟨q1, q2⟩ := hw'; go_simp
                      simp only [Act.put, List.setIfInBounds_toArray, List.set_cons_zero, List.set_cons_succ]
                      refine anyL_takeD (some 125) (i := 7) (v := .int .i64 I) (by kernel_rfl) (by kernel_rfl) (by kernel_rfl) (by kernel_rfl) (fun o ho => ?_) (fun _ _ _ h => h) hS ?_
                      · simp only [List.getElem?_toArray, List.getElem?_cons_succ, List.getElem?_cons_zero, Option.some.injEq] at ho; subst ho; refine ⟨rfl, Or.inl ⟨by rfl, ?_⟩⟩; intro w' hw'; obtain ⟨q1, q2⟩ := hw'; go_simp
                      simp only [Act.put, List.setIfInBounds_toArray, List.set_cons_zero, List.set_cons_succ]
                      refine anyL_takeD (some 126) (i := 8) (v := .pointer (some ⟨g, I * 2, none⟩)) (by kernel_rfl) (by kernel_rfl) (by kernel_rfl) (by kernel_rfl) (fun o ho => ?_) (fun _ _ _ h => h) hS ?_
                      · simp only [List.getElem?_toArray, List.getElem?_cons_succ, List.getElem?_cons_zero, Option.some.injEq] at ho; subst ho; refine ⟨rfl, Or.inl ⟨by rfl, ?_⟩⟩; intro w' hw'; obtain ⟨q1, q2⟩ := hw'; go_simp
                      simp only [Act.put, List.setIfInBounds_toArray, List.set_cons_zero, List.set_cons_succ]
                      refine anyL_takeD (some 127) (i := 9) (v := .pointer (some ⟨g, I * 2 + 1, none⟩)) (by kernel_rfl) (by kernel_rfl) (by kernel_rfl) (by kernel_rfl) (fun o ho => ?_) (fun _ _ _ h => h) hS ?_
                      · simp only [List.getElem?_toArray, List.getElem?_cons_succ, List.getElem?_cons_zero, Option.some.injEq] at ho; subst ho; refine ⟨rfl, Or.inl ⟨by rfl, ?_⟩⟩; intro w' hw'; obtain ⟨q1, q2⟩ := hw'; go_simp
                      simp only [Act.put, List.setIfInBounds_toArray, List.set_cons_zero, List.set_cons_succ]
                      refine anyL_takeD (some 128) (i := 10) (v := .slice (some ⟨gk, 0, none⟩) klen cpk) (by kernel_rfl) (by kernel_rfl) (by kernel_rfl) (by kernel_rfl) (fun o ho => ?_) (fun _ _ _ h => h) hS ?_
                      · simp only [List.getElem?_toArray, List.getElem?_cons_succ, List.getElem?_cons_zero, Option.some.injEq] at ho; subst ho; refine ⟨rfl, Or.inl ⟨by rfl, ?_⟩⟩; intro w' hw'; obtain ⟨q1, q2⟩ := hw'; go_simp
                      simp only [Act.put, List.setIfInBounds_toArray, List.set_cons_zero, List.set_cons_succ]
                      refine anyL_takeD (some 129) (i := 11) (v := .int .i64 J) (by kernel_rfl) (by kernel_rfl) (by kernel_rfl) (by kernel_rfl) (fun o ho => ?_) (fun _ _ _ h => h) hS ?_
                      · simp only [List.getElem?_toArray, List.getElem?_cons_succ, List.getElem?_cons_zero, Option.some.injEq] at ho; subst ho; refine ⟨rfl, Or.inl ⟨by rfl, ?_⟩⟩; intro w' hw'; obtain ⟨q1, q2⟩ := hw'; go_simp
                      simp only [Act.put, List.setIfInBounds_toArray, List.set_cons_zero, List.set_cons_succ]
                      refine anyL_takeD (some 130) (i := 12) (v := .pointer (some ⟨gk, J * 2, none⟩)) (by kernel_rfl) (by kernel_rfl) (by kernel_rfl) (by kernel_rfl) (fun o ho => ?_) (fun _ _ _ h => h) hS ?_
                      · simp only [List.getElem?_toArray, List.getElem?_cons_succ, List.getElem?_cons_zero, Option.some.injEq] at ho; subst ho; refine ⟨rfl, Or.inl ⟨by rfl, ?_⟩⟩; intro w' hw'; obtain ⟨q1, q2⟩ := hw'; go_simp
                      simp only [Act.put, List.setIfInBounds_toArray, List.set_cons_zero, List.set_cons_succ]
                      refine anyL_takeD (some 131) (i := 13) (v := .pointer (some ⟨gk, J * 2 + 1, none⟩)) (by kernel_rfl) (by kernel_rfl) (by kernel_rfl) (by kernel_rfl) (fun o ho => ?_) (fun _ _ _ h => h) hS ?_
                      · simp only [List.getElem?_toArray, List.getElem?_cons_succ, List.getElem?_cons_zero, Option.some.injEq] at ho; subst ho; refine ⟨rfl, Or.inl ⟨by rfl, ?_⟩⟩; intro w' hw'; obtain ⟨q1, q2⟩ := hw'; go_simp
                      simp only [Act.put, List.setIfInBounds_toArray, List.set_cons_zero, List.set_cons_succ]
                      refine anyL_takeD (some 132) (i := 14) (v := .slice aov vlen cpv) (by kernel_rfl) (by kernel_rfl) (by kernel_rfl) (by kernel_rfl) (fun o ho => ?_) (fun _ _ _ h => h) hS ?_
                      · simp only [List.getElem?_toArray, List.getElem?_cons_succ, List.getElem?_cons_zero, Option.some.injEq] at ho; subst ho; refine ⟨rfl, Or.inl ⟨by rfl, ?_⟩⟩; intro w' hw'; obtain ⟨q1, q2⟩ := hw'; go_simp
                      simp only [Act.put, List.setIfInBounds_toArray, List.set_cons_zero, List.set_cons_succ]
                      refine anyL_takeD (some 133) (i := 15) (v := .pointer (some ⟨m, 0, none⟩)) (by kernel_rfl) (by kernel_rfl) (by kernel_rfl) (by kernel_rfl) (fun o ho => ?_) (fun _ _ _ h => h) hS ?_
                      · simp only [List.getElem?_toArray, List.getElem?_cons_succ, List.getElem?_cons_zero, Option.some.injEq] at ho; subst ho; refine ⟨rfl, Or.inl ⟨by rfl, ?_⟩⟩; intro w' hw'; obtain ⟨q1, q2⟩ := hw'; go_simp
                      simp only [Act.put, List.setIfInBounds_toArray, List.set_cons_zero, List.set_cons_succ]
                      refine anyL_takeD (some 134) (i := 16) (v := .int .i64 i) (by kernel_rfl) (by kernel_rfl) (by kernel_rfl) (by kernel_rfl) (fun o ho => ?_) (fun _ _ _ h => h) hS ?_
                      · simp only [List.getElem?_toArray, List.getElem?_cons_succ, List.getElem?_cons_zero, Option.some.injEq] at ho; subst ho; refine ⟨rfl, Or.inl ⟨by rfl, ?_⟩⟩; intro w' hw'; obtain ⟨q1, q2⟩ := hw'; go_simp
                      simp only [Act.put, List.setIfInBounds_toArray, List.set_cons_zero, List.set_cons_succ]
                      refine anyL_oneD (i := 17) (by kernel_rfl) (of_decide_eq_true (by kernel_rfl)) (fun o ho K hK => ?_)
                      simp only [List.getElem?_toArray, List.getElem?_cons_succ, List.getElem?_cons_zero, Option.some.injEq] at ho; subst ho
                      rw [if_pos (by rfl)]
                      go_simp
                      refine HEV.out.mono ?_
                      rintro e W8 ⟨rfl, hb8⟩
                      have hb8' : Below wc.heap.size wc W8 := ((Below.refl _ wc).drew).trans hb8
                      have hS8 : W8.cell? ⟨g, I * 2 + 1, none⟩ = some (.slice (some ⟨gk, 0, none⟩) klen cpk) ∧ W8.cell? ⟨gk, J * 2 + 1, none⟩ = some (.slice aov vlen cpv) := ⟨(hb8'.cell hgal).trans r1, (hb8'.cell hgkl).trans r2⟩
                      refine hK.out _ _ (fun _ => hS8) ?_
                      try simp only [Act.put, List.setIfInBounds_toArray, List.set_cons_zero, List.set_cons_succ]
                      have hWa : Below wc.heap.size wc (W8.alloc (.cells #[.string (EV ls i)] 9)) := hb8'.alloc hb8'.size _
                      have hSa : (W8.alloc (.cells #[.string (EV ls i)] 9)).cell? ⟨g, I * 2 + 1, none⟩ = some (.slice (some ⟨gk, 0, none⟩) klen cpk) ∧ (W8.alloc (.cells #[.string (EV ls i)] 9)).cell? ⟨gk, J * 2 + 1, none⟩ = some (.slice aov vlen cpv) := ⟨(hWa.cell hgal).trans r1, (hWa.cell hgkl).trans r2⟩
                      refine anyL_oneD (i := 18) (by kernel_rfl) (of_decide_eq_true (by kernel_rfl)) (fun o ho K hK => ?_)
                      simp only [List.getElem?_toArray, List.getElem?_cons_succ, List.getElem?_cons_zero, Option.some.injEq] at ho; subst ho
                      rw [if_pos (by rfl)]
                      go_simp
                      refine hK.out _ _ (fun _ => hSa) ?_
                      try simp only [Act.put, List.setIfInBounds_toArray, List.set_cons_zero, List.set_cons_succ]
                      have hown8 := HRV.out _ hWa
                      refine anyL_oneD (i := 19) (by kernel_rfl) (of_decide_eq_true (by kernel_rfl)) (fun o ho K hK => ?_)
                      simp only [List.getElem?_toArray, List.getElem?_cons_succ, List.getElem?_cons_zero, Option.some.injEq] at ho; subst ho
                      refine step_append_lies _ (by rfl) _ _ _ (by rfl) B 9 i9 (.string ⟨#[]⟩) 1 16 Try.underlying76 hi9 hz90 hz91 hz92 (by rfl) (by omega) (.slice aov vlen cpv) vlen _ (by rfl) hown8 ⟨W8.heap.size, 0, none⟩ 1 1 [.string (EV ls i)] (by rfl) (by rfl) (cell_one_new _ _ _) (by simp [Value.oneCell']) (by omega) (by unfold maxLen; omega) (by omega) (by have := hWa.size; omega) (W8.heap.size + 1) (by simp) ?_
                      intro g6 cap6 W6 hown6 hgr6 hat6 hlt6
                      have hfin := HVAL.out (W8.alloc (.cells #[.string (EV ls i)] 9)) W6 (.slice (some ⟨g6, 0, none⟩) (vlen + 1) cap6) hWa hgr6 hown6 (hat6.elim (fun h => .inl h.symm) (fun h => .inr (by rw [h]; simp [Value.ownBlock])))
                      obtain ⟨z1, z2, z3, z4⟩ := hfin
                      have z5 := z4 g rfl
                      rw [hkl1] at z5
                      refine hK.out _ _ (fun _ => ⟨z5, z2⟩) ?_
                      try simp only [Act.put, List.setIfInBounds_toArray, List.set_cons_zero, List.set_cons_succ]
                      refine anyL_oneD (i := 20) (by kernel_rfl) (of_decide_eq_true (by kernel_rfl)) (fun o ho K hK => ?_)
                      simp only [List.getElem?_toArray, List.getElem?_cons_succ, List.getElem?_cons_zero, Option.some.injEq] at ho; subst ho
                      rw [if_pos (by rfl)]
                      go_simp
                      refine hK.out _ _ (fun _ => ⟨z5, z2⟩) ?_
                      try simp only [Act.put, List.setIfInBounds_toArray, List.set_cons_zero, List.set_cons_succ]
                      refine anyL_takeD (some 139) (i := 21) (v := .pointer (some ⟨gk, J * 2 + 1, none⟩)) (by kernel_rfl) (by kernel_rfl) (by kernel_rfl) (by kernel_rfl) (fun o ho => ?_) (fun _ _ _ h => h) ⟨z5, z2⟩ ?_
                      · simp only [List.getElem?_toArray, List.getElem?_cons_succ, List.getElem?_cons_zero, Option.some.injEq] at ho; subst ho; refine ⟨rfl, Or.inl ⟨by rfl, ?_⟩⟩; intro w' hw'; obtain ⟨q1, q2⟩ := hw'; go_simp
                      simp only [Act.put, List.setIfInBounds_toArray, List.set_cons_zero, List.set_cons_succ]
                      refine anyL_oneD (i := 22) (by kernel_rfl) (of_decide_eq_true (by kernel_rfl)) (fun o ho K hK => ?_)
                      simp only [List.getElem?_toArray, List.getElem?_cons_succ, List.getElem?_cons_zero, Option.some.injEq] at ho; subst ho
                      rw [if_pos (by rfl)]
                      go_simp
                      refine hK.out _ _ (fun h => absurd rfl h) ?_
                      try simp only [Act.put, List.setIfInBounds_toArray, List.set_cons_zero, List.set_cons_succ]
                      have HM7 := hide z1
                      generalize W6.setCell ⟨gk, J * 2 + 1, none⟩ (.slice (some ⟨g6, 0, none⟩) (vlen + 1) cap6) = X at HM7 ⊢
                      clear z1 z2 z3 z4 z5 hown6 hgr6 hat6 hlt6 hown8 hWa hSa hS8 hb8 hb8' hS hK HVAL HRV HEV
                      refine anyL_done (by kernel_rfl) ?_ _
                      go_wp2
                      go_roundw
                      case rel => exact ⟨i + 1, cur, true, _, by omega, rfl, by go_num, rfl, rfl, by rw [HPN2.out]; exact ⟨HOP.out.1, fun _ => HOP.out.2 trivial⟩, by rw [HME2.out, HEN.out]; exact HM7⟩
                      case measure => simp [intOf]; omega
              · have k3 : (kd == 3) = false := by simpa using h3
                have HMO2 := hide (HMO.out h2 (by omega))
                clear HME HMO HTX hwf
                go_wp2
                go_roundw
                case rel => exact ⟨i + 1, cur, op, _, by omega, rfl, by go_num, rfl, rfl, by rw [HPN2.out]; exact HOP, by rw [HMO2.out]; exact HM⟩
                case measure => simp [intOf]; omega
        · obtain rfl : i = p := by omega
          go_wp2
          go_roundw
          case rel => exact ⟨k + 1, _, by omega, rfl, by go_num, by rw [HNX.out]; exact HM⟩
          case measure => simp [intOf]; omega
    · obtain rfl : k = n := by omega
      go_wp2
      go_ret
      exact HPO.out _ _ ⟨_, rfl, HM.out⟩
end Go.Proofs.Qxb6603539a.Ds
