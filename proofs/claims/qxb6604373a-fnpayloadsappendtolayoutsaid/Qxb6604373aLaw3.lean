/-
  SEAT b6604373a. THE WALK OF FnPayloadsAppendToLayout (9).
-/
import Derived.Test.Qxb6604373aLaw2
import Derived.Test.Qxb6604373aSize
namespace Go.Proofs.Qxb6604373a
open Go.RowKit
set_option linter.unusedVariables false

set_option maxHeartbeats 4000000 in
set_option maxRecDepth 100000 in
theorem law3 (a0 a1 : Int) (a2 : Option Addr) (g2 o2 n cap2 : Nat) (D0 : Nat → Item) (a3 : Option Addr) (len3 cap3 : Nat) (w : World) (w0 : (Lit.int .i64 a0).wf = true) (w1 : (Lit.int .u64 a1).wf = true)
    (hL : Lists w a2 g2 o2 n D0) (hn : n ≤ 9223372036854775807) (hD : ∀ j, j < n → (D0 j).n ≤ 9223372036854775807) (g3 o3 : Nat) (l3 : List UInt8) (hb3 : Bytes w a3 g3 o3 len3 l3) (hm3 : len3 ≤ 9223372036854775807) :
    Calls Try.prog 9 #[.int .i64 a0, .int .u64 a1, .slice a2 n cap2, .slice a3 len3 cap3] w fun e w' => e = .returned (.bool true) ∧ Below w.heap.size w w' := by
  have hq := u64_bd a1 w1
  have HB : Hid (IntKind.i64.wrap ((IntKind.u64.wrap a0).toNat : Int) = a0) := i64_back a0 w0
  have hx0 : (IntKind.u64.wrap a0).toNat < 18446744073709551616 := by have := u64_hi a0; have := u64_lo a0; omega
  have HL : Hid (Lists w a2 g2 o2 n D0) := hL
  have HD : Hid (∀ j, j < n → (D0 j).n ≤ 9223372036854775807) := hD
  have H3 : Hid (Bytes w a3 g3 o3 len3 l3) := hb3
  have hz := zb3_any (.int .i64 a0) (.int .u64 a1) a2 g2 o2 n cap2 D0 a3 len3 cap3 w hL hn hD hm3
  clear hL hD hb3 w0 w1
  by_cases c3 : len3 ≤ 524288
  · by_cases c2 : n ≤ 16384
    · go_enter Try.func9, Try.ntmps9
      go_wp2_with fail
      refine hz.mono ?_
      rintro e wz ⟨⟨bz, rfl⟩, hwz⟩; subst wz
      clear hz
      cases bz with
      | false =>
        go_wp2
        go_ret
        exact ⟨rfl, Below.refl _ _⟩
      | true =>
        go_wp2
        go_loop [9, 10] (fun vt vi => ∃ k t : Nat, k ≤ n ∧ vi = .int .i64 k ∧ vt = .int .i64 t ∧ t = len3 + 24 * n + sumN D0 k ∧ (t ≤ 1048576 ∨ k = 0)) (fun _ vi => n - (intOf vi).toNat)
        case atStart => exact ⟨0, len3 + 24 * n, by omega, rfl, by go_num, rfl, .inr rfl⟩
        case round =>
          obtain ⟨k, t, hk, rfl, rfl, ht, hto⟩ := hrel
          have HT : Hid (t = len3 + 24 * n + sumN D0 k) := ht
          have htb : t ≤ 1048576 := by
            rcases hto with h | h
            · exact h
            · subst h; rw [ht]; show len3 + 24 * n + 0 ≤ _; omega
          clear ht hto
          by_cases hlt : k < n
          · have hl := HL.out
            obtain rfl := hl.addr (by omega)
            have hc := hl.cell k hlt
            have hdk := HD.out k hlt
            clear hl
            by_cases d1 : (D0 k).n ≤ 1048576
            · by_cases d2 : t + (D0 k).n ≤ 1048576
              · go_wp2
                go_round
                case rel => exact ⟨k + 1, t + (D0 k).n, by omega, by go_num, by go_num, by rw [HT.out]; show _ = len3 + 24 * n + (sumN D0 k + (D0 k).n); omega, .inl d2⟩
                case measure => simp [intOf]; omega
              · go_wp2
                go_ret
                exact ⟨rfl, Below.refl _ _⟩
            · go_wp2
              go_ret
              exact ⟨rfl, Below.refl _ _⟩
          · obtain rfl : k = n := by omega
            go_wp2_with fail
            have htot : len3 + 24 * k + sumN D0 k ≤ 1048576 := by have := HT.out; omega
            have hsm : ∀ j, j < k → (D0 j).n ≤ 1048576 := fun j hj => by
              have a := sumN_mono D0 (j + 1) k (by omega)
              have b : sumN D0 (j + 1) = sumN D0 j + (D0 j).n := rfl
              omega
            have HSM : Hid (∀ j, j < k → (D0 j).n ≤ 1048576) := hsm
            clear hsm HT htb HD
            -- b = zzCloneBytes(b)
            refine (clone_any a3 g3 o3 len3 cap3 l3 w H3.out (by omega)).mono ?_
            rintro e w1 ⟨vb, rfl, ob, bb⟩
            obtain ⟨ab, gb, cb, rfl, yb, lob, ncb⟩ := Bytes.own ob
            have z1 := bb.size
            have tb : 0 < len3 → gb < w1.heap.size := fun h => yb.lt h
            have HL1 : Hid (Lists w1 a2 g2 o2 k D0) := HL.out.below bb (Nat.le_refl _)
            have YB : Hid (Bytes w1 ab gb 0 len3 l3) := yb
            clear ob yb HL H3
            go_wp2_with fail
            -- data = zzCloneList(data)
            refine (clist_any a2 g2 o2 k cap2 D0 w1 HL1.out (by omega) HSM.out).mono ?_
            rintro e w2 ⟨ad, gd, cd, D, rfl, yd, same, bd⟩
            have z2 := bd.size
            have YB2 : Hid (Bytes w2 ab gb 0 len3 l3) := YB.out.below bd tb
            have YD2 : Hid (Lists w2 ad gd 0 k D) := yd
            have hs2 : sumN D k = sumN D0 k := sumN_congr D0 D k (fun j hj => (same j hj).1)
            have hsmD : Hid (∀ j, j < k → (D j).n ≤ 1048576) := fun j hj => by rw [(same j hj).1]; exact HSM.out j hj
            have htot2 : len3 + 24 * k + sumN D k ≤ 1048576 := by omega
            clear yd HL1 YB same hs2 HSM htot
            go_wp2_with fail
            -- work := zzCloneBytes(b)
            refine (clone_any ab gb 0 len3 cb l3 w2 YB2.out (by omega)).mono ?_
            rintro e w3 ⟨vw, rfl, ow, bw⟩
            have z3 := bw.size
            have tb2 : 0 < len3 → gb < w2.heap.size := fun h => by have := tb h; omega
            have YB3 : Hid (Bytes w3 ab gb 0 len3 l3) := YB2.out.below bw tb2
            clear YB2
            go_wp2_with fail
            -- got := ZZPayloadsAppendTo(sender, seq, data, work)
            refine (zzpays_any w2.heap.size len3 a0 a1 hq.1 hq.2 ad gd 0 k cd D (by omega) vw l3 w2 w3 YD2 rfl bw ow z3 htot2).mono ?_
            rintro e w4 ⟨vg, rfl, og, kg⟩
            obtain ⟨ag, gg, cg, rfl, yg, log, ncg⟩ := Bytes.own og
            have z4 := kg.below.size
            have YB4 : Hid (Bytes w4 ab gb 0 len3 l3) := YB3.out.below kg.below tb2
            have YD4 : Hid (Lists w4 ad gd 0 k D) := YD2.out.below (bw.trans kg.below) (Nat.le_refl _)
            have bel : Below w.heap.size w w4 := bb.trans ((bd.mono z1).trans ((bw.mono (by omega)).trans (kg.below.mono (by omega))))
            have hNb : len3 + (headBytes a0 a1 k ++ body D k).length ≤ 3000000 := by
              have a := headBytes_len a0 a1 hq.1 hq.2 k (by omega)
              have b := body_len D k (fun j hj => ⟨hsmD.out j hj, (YD2.out.item j hj).len⟩)
              rw [List.length_append]
              omega
            obtain ⟨N, hN⟩ : ∃ N, N = len3 + (headBytes a0 a1 k ++ body D k).length := ⟨_, rfl⟩
            rw [← hN] at yg hNb ⊢
            have YG : Hid (Bytes w4 ag gg 0 N (l3 ++ (headBytes a0 a1 k ++ body D k))) := yg
            clear og kg yg YB3 ow bb bd bw log ncg YD2 hN
            have hP0 : l3.length = len3 := YB4.out.len
            have hhl : (headBytes a0 a1 k).length = (Lib.uvarint (IntKind.u64.wrap a0).toNat).length + (Lib.uvarint a1.toNat).length + (Lib.uvarint k).length := by
              unfold headBytes payBytes idBytes; rw [List.length_append, List.length_append]
            have hoff0 : len3 + (Lib.uvarint (IntKind.u64.wrap a0).toNat).length + (Lib.uvarint a1.toNat).length + (Lib.uvarint k).length = offs l3 (headBytes a0 a1 k) D 0 := by
              unfold offs
              show _ = l3.length + _ + 0
              omega
            have HO0 : Hid (len3 + (Lib.uvarint (IntKind.u64.wrap a0).toNat).length + (Lib.uvarint a1.toNat).length + (Lib.uvarint k).length = offs l3 (headBytes a0 a1 k) D 0) := hoff0
            clear hoff0 hhl HB
            have u1 := uvl _ (u64_lo a0) (u64_hi a0)
            have u2 := uvl a1 hq.1 hq.2
            have u3 := Lib.uvarint_length64 (x := k) (by omega)
            have hgl : Hid ((l3 ++ (headBytes a0 a1 k ++ body D k)).length = N) := YG.out.len
            have S1 := us_any _ (u64_lo a0) (u64_hi a0) w4
            have S2 := us_any a1 hq.1 hq.2 w4
            have S3 := us_any (k : Int) (by omega) (by omega) w4
            rw [Int.toNat_natCast] at S3
            obtain ⟨L1, hL1⟩ : ∃ L, L = (Lib.uvarint (IntKind.u64.wrap a0).toNat).length := ⟨_, rfl⟩
            obtain ⟨L2, hL2⟩ : ∃ L, L = (Lib.uvarint a1.toNat).length := ⟨_, rfl⟩
            obtain ⟨L3, hL3⟩ : ∃ L, L = (Lib.uvarint k).length := ⟨_, rfl⟩
            rw [← hL1] at u1 S1 HO0
            rw [← hL2] at u2 S2 HO0
            rw [← hL3] at u3 S3 HO0
            clear hL1 hL2 hL3 hP0
            go_wp2_with fail
            refine S1.mono ?_
            rintro e w5 ⟨rfl, hw5⟩; subst w5
            clear S1
            go_wp2_with fail
            refine S2.mono ?_
            rintro e w5 ⟨rfl, hw5⟩; subst w5
            clear S2
            go_wp2_with fail
            refine S3.mono ?_
            rintro e w5 ⟨rfl, hw5⟩; subst w5
            clear S3
            obtain ⟨O0, hO0⟩ : ∃ O, O = len3 + L1 + L2 + L3 := ⟨_, rfl⟩
            rw [← hO0] at HO0
            have hO0i : (len3 : Int) + (L1 : Int) + (L2 : Int) + (L3 : Int) = (O0 : Int) := by omega
            have hO0b : O0 ≤ 1100000 := by omega
            clear hO0
            go_wp2_with fail
            go_loopw [15, 16] (fun vw vi wr => ∃ r W m : Nat, r ≤ k ∧ vi = .int .i64 r ∧ vw = .int .i64 W ∧ Hid (W = offs l3 (headBytes a0 a1 k) D r) ∧ wr = w4.drewN m) (fun _ vi _ => k - (intOf vi).toNat)
            case atStart => exact ⟨0, O0, 0, by omega, rfl, by go_num, HO0, rfl⟩
            case round =>
              obtain ⟨r, W, m, hr, rfl, rfl, HI, hwr⟩ := hrel
              by_cases hrk : r < k
              · have hl := YD4.out
                obtain rfl := hl.addr (by omega)
                have hcd : wr.cell? ⟨gd, r, none⟩ = some (.slice (D r).ao (D r).n (D r).cap) := by rw [hwr]; have := hl.cell r hrk; rwa [Nat.zero_add] at this
                have HWR : Hid (wr = w4.drewN m) := hwr
                clear hwr
                have hdn := hsmD.out r hrk
                have hrk' : (r : Int) < (k : Int) := by omega
                have hle := offs_le l3 (headBytes a0 a1 k) D r k hrk (hl.item r hrk).len
                have HNX : Hid (offs l3 (headBytes a0 a1 k) D (r + 1) = W + (Lib.uvarint (D r).n).length + (D r).n) := by
                  show _ = _
                  rw [HI.out]; exact offs_succ l3 _ D r (hl.item r hrk).len
                rw [← HI.out, hgl.out] at hle
                have S4 : ∀ wx, Calls Try.prog 26 #[.int .u64 ((D r).n : Int)] wx fun e w' => e = .returned (.int .i64 ((Lib.uvarint (D r).n).length : Int)) ∧ w' = wx := fun wx => by
                  have h := us_any ((D r).n : Int) (by omega) (by omega) wx
                  rwa [Int.toNat_natCast] at h
                clear hl HI
                obtain ⟨Ln, hLn⟩ : ∃ L, L = (Lib.uvarint (D r).n).length := ⟨_, rfl⟩
                rw [← hLn] at hle HNX
                simp only [← hLn] at S4
                clear hLn
                obtain ⟨d, hd⟩ : ∃ d, d = D r := ⟨_, rfl⟩
                rw [← hd] at hle HNX hcd hdn
                simp only [← hd] at S4
                clear hd
                obtain ⟨dao, dg, dof, dn, dcap, dl⟩ := d
                dsimp only at S4 hle HNX hcd hdn
                have hle' : (W : Int) + (Ln : Int) + (dn : Int) ≤ 3000000 := by omega
                have hin : (dn : Int) ≤ 1048576 := by omega
                have HS4 : Hid (∀ wx, Calls Try.prog 26 #[.int .u64 (dn : Int)] wx fun e w' => e = .returned (.int .i64 (Ln : Int)) ∧ w' = wx) := S4
                clear S4
                go_wp2_with fail
                go_quiet ((go_at_call 26; exact Calls.quiet_of_same (HS4.out _)))
                go_wp2_with fail
                go_roundw
                case rel => exact ⟨r + 1, W + (Ln + dn), m + nq, by omega, by go_num, by go_num, by show _ = _; rw [HNX.out]; omega, by rw [HWR.out, World.drewN_drewN]⟩
                case measure => simp [intOf]; omega
              · subst hwr
                obtain rfl : r = k := by omega
                have hWN : W = N := by
                  have a := HI.out
                  have b := hgl.out
                  rw [offs_last] at a
                  omega
                subst hWN
                clear HI
                go_wp2_with fail
                refine (pre_any ag gg 0 _ cg _ ab gb 0 len3 cb l3 (w4.drewN m) (YG.out.drewN m) (YB4.out.drewN m) (by omega) (headBytes a0 a1 r ++ body D r) rfl).mono ?_
                rintro e w5 ⟨rfl, nq, rfl⟩
                go_wp2_with fail
                go_loopw [14, 17] (fun vi vk wr => ∃ t i m : Nat, t ≤ r ∧ vk = .int .i64 t ∧ vi = .int .i64 i ∧ Hid (i = offs l3 (headBytes a0 a1 r) D t) ∧ wr = w4.drewN m) (fun _ vk _ => r - (intOf vk).toNat)
                case atStart => exact ⟨0, O0, _, by omega, rfl, by go_num, HO0, rfl⟩
                case round =>
                  obtain ⟨t, i, m3, hr3, rfl, rfl, HI, rfl⟩ := hrel
                  by_cases hrk : t < r
                  · have hl := YD4.out
                    obtain rfl := hl.addr (by omega)
                    have hcd : w4.cell? ⟨gd, t, none⟩ = some (.slice (D t).ao (D t).n (D t).cap) := by have := hl.cell t hrk; rwa [Nat.zero_add] at this
                    have hit : Hid (Bytes w4 (D t).ao (D t).g (D t).o (D t).n (D t).l) := hl.item t hrk
                    have hdn := hsmD.out t hrk
                    have hrk' : (t : Int) < (r : Int) := by omega
                    have hle := offs_le l3 (headBytes a0 a1 r) D t r hrk (hl.item t hrk).len
                    have HBY : Hid (∀ j (hj : j < (D t).l.length), ∀ J, J = i + (Lib.uvarint (D t).n).length + j → ∀ hb : J < (l3 ++ (headBytes a0 a1 r ++ body D r)).length, (l3 ++ (headBytes a0 a1 r ++ body D r))[J] = (D t).l[j]) := by
                      intro j hj J hJ hb
                      have e := HI.out
                      subst e
                      subst hJ
                      exact offs_byte l3 (headBytes a0 a1 r) D t r hrk j hj hb
                    have HNX : Hid (offs l3 (headBytes a0 a1 r) D (t + 1) = i + (Lib.uvarint (D t).n).length + (D t).n) := by
                      show _ = _
                      rw [HI.out]; exact offs_succ l3 _ D t (hl.item t hrk).len
                    rw [← HI.out, hgl.out] at hle
                    have S4 := us_any ((D t).n : Int) (by omega) (by omega) (w4.drewN m3)
                    rw [Int.toNat_natCast] at S4
                    clear hl HI
                    obtain ⟨Ln, hLn⟩ : ∃ L, L = (Lib.uvarint (D t).n).length := ⟨_, rfl⟩
                    rw [← hLn] at hle HNX S4 HBY
                    clear hLn
                    obtain ⟨d, hd⟩ : ∃ d, d = D t := ⟨_, rfl⟩
                    rw [← hd] at hle HNX hcd hdn S4 HBY hit
                    clear hd
                    obtain ⟨dao, dg, dof, dn, dcap, dl⟩ := d
                    dsimp only at S4 hle HNX hcd hdn HBY hit
                    have hle' : (i : Int) + (Ln : Int) + (dn : Int) ≤ 3000000 := by omega
                    have hin : (dn : Int) ≤ 1048576 := by omega
                    go_wp2_with fail
                    refine S4.mono ?_
                    rintro e w6 ⟨rfl, hw6⟩; subst w6
                    clear S4 hcd
                    obtain ⟨I, hI⟩ : ∃ I, I = i + Ln := ⟨_, rfl⟩
                    rw [← hI] at hle HNX HBY
                    have hIi : (i : Int) + (Ln : Int) = (I : Int) := by omega
                    clear hI hle'
                    have hle' : (I : Int) + (dn : Int) ≤ 3000000 := by omega
                    go_wp2_with fail
                    go_loopw [19] (fun vj wr => ∃ j m2 : Nat, j ≤ dn ∧ vj = .int .i64 j ∧ wr = w4.drewN m2) (fun vj _ => dn - (intOf vj).toNat)
                    case atStart => exact ⟨0, _, by omega, rfl, rfl⟩
                    case round =>
                      obtain ⟨j, m2, hj, rfl, rfl⟩ := hrel
                      by_cases hjd : j < dn
                      · have hy := hit.out
                        have hlen := hy.len
                        obtain rfl := hy.addr (by omega)
                        obtain rfl := YG.out.addr (by omega)
                        obtain ⟨c, hcv⟩ : ∃ c : Int, c = (dl[j]).toNat := ⟨_, rfl⟩
                        have hc2 : w4.cell? ⟨dg, dof + j, none⟩ = some (.int .u8 c) := by rw [hcv]; exact hy.cell j (by omega)
                        have hc1 : w4.cell? ⟨gg, I + j, none⟩ = some (.int .u8 c) := by
                          have hg := hgl.out
                          have h := YG.out.cell (I + j) (by omega)
                          rw [HBY.out j (by omega) (I + j) rfl (by omega), Nat.zero_add] at h
                          rw [hcv]; exact h
                        have hjN : (I : Int) + (j : Int) < (W : Int) := by omega
                        have hjd' : (j : Int) < (dn : Int) := by omega
                        clear hy hlen hcv
                        go_wp2_with fail
                        go_quiet (fail)
                        go_wp2_with fail
                        go_roundw
                        case rel => exact ⟨j + 1, _, by omega, by go_num, rfl⟩
                        case measure => simp [intOf]; omega
                      · obtain rfl : j = dn := by omega
                        go_wp2_with fail
                        go_roundw
                        case rel => exact ⟨t + 1, I + j, m2, by omega, by go_num, by go_num, HNX.out.symm, rfl⟩
                        case measure => simp [intOf]; omega
                  · obtain rfl : t = r := by omega
                    have hiN : i = W := by
                      have a := HI.out
                      have b := hgl.out
                      rw [offs_last] at a
                      omega
                    subst hiN
                    go_wp2_with fail
                    go_ret
                    exact ⟨by simp, below_drewN bel _⟩
    · go_enter Try.func9, Try.ntmps9
      go_wp2_with fail
      refine hz.mono ?_
      rintro e wz ⟨⟨bz, rfl⟩, hwz⟩; subst wz
      clear hz
      cases bz with
      | false =>
        go_wp2
        go_ret
        exact ⟨rfl, Below.refl _ _⟩
      | true =>
        go_wp2
        go_ret
        exact ⟨rfl, Below.refl _ _⟩
  · go_enter Try.func9, Try.ntmps9
    go_wp2_with fail
    refine hz.mono ?_
    rintro e wz ⟨⟨bz, rfl⟩, hwz⟩; subst wz
    clear hz
    cases bz with
    | false =>
      go_wp2
      go_ret
      exact ⟨rfl, Below.refl _ _⟩
    | true =>
      go_wp2
      go_ret
      exact ⟨rfl, Below.refl _ _⟩

#print axioms law3
end Go.Proofs.Qxb6604373a
