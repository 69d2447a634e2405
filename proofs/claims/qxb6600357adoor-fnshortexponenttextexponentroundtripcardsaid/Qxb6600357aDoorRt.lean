/-
  THE WALK of FnShortExponentTextExponentRoundTrip (function 4).
-/
import Derived.Test.Qxb6600357aDoorText
import Derived.Test.Qxb6600357aDoorDigits
import Derived.Deep.DeepCutAuto
import Derived.WalkSmall
import Derived.BigQuiet
import Derived.Deep.QuietTactic
namespace Go.Proofs.Qxb6600357aDoor.Walks
open Go.Shelf Go.RowKit
open Go.Proofs.Qxb6600357aDoor.Plain

theorem int_val {k : IntKind} {x y : Int} (h : x = y) : Value.int k x = Value.int k y := by rw [h]
theorem wmag_neg (x : Int) (h : x < 0) (h0 : -9223372036854775808 ≤ x) : IntKind.u64.wrap (-IntKind.u64.wrap x) = (x.natAbs : Int) := by
  simp [IntKind.wrap, IntKind.signed, IntKind.bits]; omega
theorem wmag_pos (x : Int) (h : ¬ x < 0) (h0 : x ≤ 9223372036854775807) : IntKind.u64.wrap x = (x.natAbs : Int) := by
  simp [IntKind.wrap, IntKind.signed, IntKind.bits]; omega

set_option maxHeartbeats 1000000 in
set_option maxRecDepth 100000 in
theorem rt_long (ao : Option Addr) (n cap : Nat) (p q : Int) (w : World) (hn : n ≤ maxLen) (hbig : 1048576 < n) :
    Calls Tryd.prog 4 #[.slice ao n cap, .int .i64 p, .int .i64 q] w fun e w' => e = .returned (.bool true) ∧ Below w.heap.size w w' := by
  unfold maxLen at hn
  go_enter Tryd.func4, Tryd.ntmps4
  go_wp2
  go_ret
  exact ⟨rfl, Below.refl _ _⟩

set_option maxHeartbeats 3000000 in
set_option maxRecDepth 100000 in
theorem rt_short (ao : Option Addr) (n cap : Nat) (l : List UInt8) (p q : Int) (w : World) (hl : TextIs w ao n cap l) (hn : n ≤ 1048576)
    (htab : Lib.TabIs Tryd.prog w powName .u64 Lib.pow10Tab) :
    Calls Tryd.prog 4 #[.slice ao n cap, .int .i64 p, .int .i64 q] w fun e w' => e = .returned (.bool true) ∧ Below w.heap.size w w' := by
  obtain ⟨i0, hi, hz0, hz1, hz2⟩ := info_parts infoByte
  have hT := Lib.tabBelow_of_tabIs htab
  obtain ⟨rfl, hl⟩ := hl
  have hnn := fun wx => run_neq_slice_nil_any (P := Tryd.prog) wx 22 5 ao l.length cap 0 0 Tryd.underlying22
  have HL := Lib.hid hl
  clear hl
  go_enter Tryd.func4, Tryd.ntmps4
  go_upto_if 27 with go_in
  go_cut [0] (fun v wc => ∃ ao' cap', v = .slice ao' l.length cap' ∧ Copy wc ao' cap' l ∧ Below w.heap.size w wc)
  case first =>
    rcases HL.out with ⟨rfl, rfl, rfl⟩ | ⟨x, rfl, hc⟩
    · go_wp2
      go_meet
      case rel => exact ⟨none, 0, rfl, .inl ⟨rfl, rfl, rfl⟩, Below.refl _ _⟩
    · have hown0 : (w.alloc (.cells #[] 5)).ownsRow w.heap.size 5 1 (.slice (some ⟨w.heap.size, 0, none⟩) 0 0) 0 [] := World.ownsRow_lit w #[] 0 (Nat.le_refl _) (by decide) rfl
      go_wp2_with (at_builtin; refine wpList_append_own _ rfl _ _ 22 rfl w.heap.size 5 i0 (.int .u8 0) 1 1 Tryd.underlying22 hi hz0 hz1 hz2 rfl (by decide) _ _ _ rfl hown0 x l.length cap (Lib.byteCells l) rfl (by simp [Lib.byteCells]) (news_of (text_later hc _)) (byteCells_one l) (by unfold maxLen; omega) (by omega) (by simp) ?_; rintro v3 w3 hown3 hgrow3 -; refine Hid.out ?_)
      refine Lib.hid ?_
      have hb3 : Below w.heap.size w w3 := ((Below.refl _ _).alloc (Nat.le_refl _) _).grown hgrow3 (by simp) (fun k hk => (hown0.lt k hk).1)
      obtain ⟨ao3, c3, hv3⟩ := own_any hown3
      rw [Nat.zero_add] at hv3
      rw [hv3, Nat.zero_add] at hown3
      rw [hv3]
      clear hv3 hgrow3
      go_wp2
      go_meet
      case rel => exact ⟨ao3, c3, rfl, Copy.of_own hown3, hb3⟩
  case rest =>
    obtain ⟨ao', cap', rfl, hcp, hb⟩ := hcut
    have hsz := hb.size
    go_wp2_with fail
    refine (zzshort_copy ao' cap' l p _ hcp hn (hT.on hb).here).mono ?_
    rintro e w1 ⟨rfl, hb1⟩
    have hcp1 := hcp.on hb1
    have hbb1 : Below w.heap.size w w1 := hb.trans (hb1.mono hsz)
    clear hcp hb hb1
    go_wp2_with fail
    refine (zzshort_copy ao' cap' l q _ hcp1 hn (hT.on hbb1).here).mono ?_
    rintro e w2 ⟨rfl, hb2⟩
    have hcp2 := hcp1.on hb2
    have hbb2 : Below w.heap.size w w2 := hbb1.trans (hb2.mono hbb1.size)
    clear hcp1 hbb1 hb2
    obtain ⟨n, hN⟩ : ∃ n : Int, n = wrap64 (p + 1) := ⟨_, rfl⟩
    obtain ⟨S, hS⟩ : ∃ S : ByteArray, S = ⟨(short l n).toArray⟩ := ⟨_, rfl⟩
    obtain ⟨T, hT'⟩ : ∃ T : ByteArray, T = ⟨(short l (wrap64 (q + 1))).toArray⟩ := ⟨_, rfl⟩
    rw [← hN, ← hS, ← hT']
    obtain ⟨s1, s2, s3, s4, s5, s6, s7⟩ := short_facts l n S hS
    obtain ⟨t1, -⟩ := short_facts l _ T hT'
    have hpre := short_prefix l _ _ S T hS hT'
    have hcnt := sig_cnt false l
    obtain ⟨d, hd⟩ : ∃ d, d = (sig false l).length := ⟨_, rfl⟩
    rw [← hd] at s1 s4 s5 s6 s7 t1 hpre hcnt
    have hn1 : 1 ≤ (Lib.itoa n).length := itoa_pos_len n
    have hn2 : (Lib.itoa n).length ≤ 21 := Lib.itoa_length_le n (by rw [hN]; unfold wrap64; omega) (by rw [hN]; unfold wrap64; omega)
    have hn3 : 1 ≤ (Lib.itoa (wrap64 (q + 1))).length := itoa_pos_len _
    have hp0 : 0 < S.size := by omega
    have hp1 : 1 < S.size := by omega
    have h4 : 4 ≤ S.size := by omega
    have hcl := cnt_le l
    have hS0 : S.size ≤ 2000000 := by omega
    have e0 := s2 hp0
    have e1 := s3 hp1
    have hde : 2 + d < S.size := by omega
    have e2 := s5 hde
    have H4 := Lib.hid s4
    have H6 := Lib.hid s6
    have H7 := Lib.hid s7
    have HN := Lib.hid hN
    have HPRE := Lib.hid hpre
    have HS1 := Lib.hid s1
    have HT1 := Lib.hid t1
    have HCP := Lib.hid hcp2
    clear s1 t1 s2 s3 s4 s5 s6 s7 hS hT' hN hpre hd hcp2
    go_wp2_with fail
    go_loop [9] (fun i => ∃ k : Nat, k ≤ d ∧ i = .int .i64 ((2 + k : Nat) : Int)) (fun i => 2 + d - (intOf i).toNat)
    case atStart => exact ⟨0, Nat.zero_le _, rfl⟩
    case round =>
      obtain ⟨k, hk, rfl⟩ := hrel
      by_cases hlt : k < d
      · have hk2 : 2 + k < S.size := by omega
        obtain ⟨g1, g2⟩ := H4.out k hk2 hlt
        go_wp2
        go_round
        case rel => exact ⟨k + 1, by omega, by go_num⟩
        case measure => simp [intOf]; omega
      · obtain rfl : d = k := by omega
        go_upto_region 16 with go_in
        go_cut [78] (fun v wc => v = .bool false ∧ wc = w2)
        case first =>
          by_cases hd : 0 < d
          · have h2s : 2 < S.size := by omega
            have e6 : ((S[2].toNat : Int) == 48) = false := by
              have := H6.out hd h2s
              exact beq_eq_false_iff_ne.2 (by omega)
            go_wp2
            go_meet
            case rel => exact ⟨rfl, rfl⟩
          · go_wp2
            go_meet
            case rel => exact ⟨rfl, rfl⟩
        case rest =>
          obtain ⟨rfl, hw⟩ := hcut
          obtain rfl := hw
          go_wp2_with fail
          go_loop [10, 11] (fun c i => ∃ k : Nat, k ≤ l.length ∧ i = .int .i64 k ∧ c = .int .i64 (cnt (l.take k))) (fun _ i => l.length - (intOf i).toNat)
          case atStart => exact ⟨0, Nat.zero_le _, rfl, rfl⟩
          case round =>
            obtain ⟨k, hk, rfl, rfl⟩ := hrel
            have hck := cnt_le (l.take k)
            have hlk : (l.take k).length ≤ k := List.length_take_le _ _
            by_cases hlt : k < l.length
            · obtain ⟨g, rfl, hg, hcx⟩ := HCP.out.at hlt
              have HS := Lib.hid (cnt_snoc l k hlt)
              by_cases hdg : 48 ≤ l[k].toNat ∧ l[k].toNat ≤ 57
              · obtain ⟨g1, g2⟩ := hdg
                go_wp2
                go_round
                case rel => exact ⟨k + 1, by omega, by go_num, by rw [HS.out, if_pos ⟨g1, g2⟩]; go_num⟩
                case measure => simp [intOf]; omega
              · go_wp2
                all_goals
                  go_round
                  case rel => exact ⟨k + 1, by omega, by go_num, by rw [HS.out, if_neg hdg]; go_num⟩
                  case measure => simp [intOf]; omega
            · obtain rfl : l.length = k := by omega
              have hck2 : cnt (l.take l.length) = cnt l := by rw [List.take_length]
              have hT2 : 2 + d < T.size := by have := HT1.out; omega
              have hdT : decide ((T.size : Int) ≤ 2 + (d : Int)) = false := decide_eq_false (by omega)
              have hEq : ((T.extract 0 (2 + d + 1)).toList == (S.extract 0 (2 + d + 1)).toList) = true := by
                have := HPRE.out
                rw [show 3 + d = 2 + d + 1 by omega] at this
                rw [this]; simp
              have hS1 := HS1.out
              have h7 := H7.out
              have hnb : n.natAbs ≤ 9223372036854775808 := by rw [HN.out]; unfold wrap64; omega
              obtain ⟨m1, m2, m3, m4⟩ := numeral_facts n.natAbs hnb
              have m5 := dec_val n.natAbs
              clear hn1 hn2 hck hlk hk hlt HS1 H7 HPRE HT1 H4 H6
              go_wp2_with fail
              go_quiet (fail)
              by_cases hneg : n < 0
              · obtain ⟨r1, r2, r3⟩ := tail_neg n S d hneg hS1 h7
                clear hS1 h7
                obtain ⟨M, hM⟩ : ∃ M, M = Lib.decDigits n.natAbs := ⟨_, rfl⟩
                rw [← hM] at r1 r3 m1 m2 m3 m4 m5
                clear hM
                obtain ⟨m, hm⟩ : ∃ m, m = M.length := ⟨_, rfl⟩
                rw [← hm] at m1 m2 r1
                have HM := Lib.hid hm
                have H3 := Lib.hid m3
                have H4' := Lib.hid m4
                have H5 := Lib.hid m5
                have HR := Lib.hid r3
                clear hm m3 m4 m5 r3
                have hJ : 2 + d + 1 + 1 < S.size := by omega
                have hJ2 : S.size ≤ 2 + d + 1 + 1 + 19 := by omega
                have HR1 := Lib.hid r1
                have hJ0 : 2 + d + 1 < S.size := by omega
                have e45 := r2 hJ0
                clear r2
                clear r1
                go_upto_region 35 with go_in
                go_cut [146] (fun v wx => v = .bool false ∧ wx = wc.drewN nq)
                case first =>
                  have hb0 : 2 + d + 1 + 1 + 0 < S.size := by omega
                  have f0 := HR.out 0 hb0 (by rw [← HM.out]; omega)
                  simp only [Nat.add_zero] at f0
                  by_cases hz : S[2 + d + 1 + 1].toNat = 48
                  · have hm1 : S.size ≤ 2 + d + 1 + 1 + 1 := by
                      have := H4'.out (by rw [← HM.out]; omega) (by rw [← f0]; exact hz)
                      have := HM.out
                      have := HR1.out
                      omega
                    have hz' : ((S[2 + d + 1 + 1].toNat : Int) == 48) = true := beq_iff_eq.2 (by omega)
                    have hz2 : decide (2 + (d : Int) + 1 + 1 + 1 < (S.size : Int)) = false := decide_eq_false (by omega)
                    clear f0 hz
                    go_wp2
                    go_meet
                    case rel => exact ⟨rfl, rfl⟩
                  · have hz' : ((S[2 + d + 1 + 1].toNat : Int) == 48) = false := beq_eq_false_iff_ne.2 (by omega)
                    clear f0 hz
                    go_wp2
                    go_meet
                    case rel => exact ⟨rfl, rfl⟩
                case rest =>
                  obtain ⟨rfl, rfl⟩ := hcut
                  go_wp2_with fail
                  go_loop [12, 14] (fun j t => ∃ k a : Nat, k ≤ m ∧ j = .int .i64 ((2 + d + 1 + 1 + k : Nat) : Int) ∧ t = .int .u64 (a : Int) ∧ dval a (M.drop k) = n.natAbs) (fun j _ => S.size - (intOf j).toNat)
                  case atStart => exact ⟨0, 0, Nat.zero_le _, by go_num, rfl, by rw [List.drop_zero]; exact H5.out⟩
                  case round =>
                    obtain ⟨k, a, hk, rfl, rfl, hv⟩ := hrel
                    have ha := dval_bound hv
                    by_cases hlt : k < m
                    · have hkM : k < M.length := by rw [← HM.out]; exact hlt
                      have hkS : 2 + d + 1 + 1 + k < S.size := by have := HR1.out; omega
                      have hv' := dval_step hv hkM
                      have ha' := dval_bound hv'
                      have f := HR.out k hkS hkM
                      obtain ⟨g1, g2⟩ := H3.out k hkM
                      rw [← f] at hv' ha' g1 g2
                      have gb : decide ((S[2 + d + 1 + 1 + k].toNat : Int) ≤ 57) = true := decide_eq_true (by omega)
                      have HV := Lib.hid hv'
                      clear hv hv' f
                      go_wp2
                      go_round
                      case rel => exact ⟨k + 1, a * 10 + (S[2 + d + 1 + 1 + k].toNat - 48), by omega, by go_num, int_val (by omega), HV.out⟩
                      case measure => simp [intOf]; omega
                    · have hae : a = n.natAbs := dval_end hv (by rw [← HM.out]; exact hlt)
                      have HA := Lib.hid hae
                      clear hv hae
                      obtain rfl : m = k := by omega
                      have hkS : S.size ≤ 2 + d + 1 + 1 + m := by have := HR1.out; omega
                      have hw0 : wrap64 (p + 1) < 0 := by rw [← HN.out]; omega
                      have ha0 : ((a : Int) == 0) = false := beq_eq_false_iff_ne.2 (by have := HA.out; omega)
                      have hfin : ((a : Int) == IntKind.u64.wrap (-IntKind.u64.wrap (wrap64 (p + 1)))) = true := by rw [wmag_neg _ hw0 (by unfold wrap64; omega), HA.out, HN.out]; simp
                      go_wp2
                      go_ret
                      exact ⟨rfl, below_drewN hbb2 nq⟩
              · obtain ⟨r1, r2⟩ := tail_pos n S d hneg hS1 h7
                clear hS1 h7
                obtain ⟨M, hM⟩ : ∃ M, M = Lib.decDigits n.natAbs := ⟨_, rfl⟩
                rw [← hM] at r1 r2 m1 m2 m3 m4 m5
                clear hM
                obtain ⟨m, hm⟩ : ∃ m, m = M.length := ⟨_, rfl⟩
                rw [← hm] at m1 m2 r1
                have HM := Lib.hid hm
                have H3 := Lib.hid m3
                have H4' := Lib.hid m4
                have H5 := Lib.hid m5
                have HR := Lib.hid r2
                clear hm m3 m4 m5 r2
                have hJ : 2 + d + 1 < S.size := by omega
                have hJ2 : S.size ≤ 2 + d + 1 + 19 := by omega
                have HR1 := Lib.hid r1
                have e45 : ((S[2 + d + 1].toNat : Int) == 45) = false := by
                  have f0 := HR.out 0 (by omega) (by rw [← HM.out]; omega)
                  have := H3.out 0 (by rw [← HM.out]; omega)
                  simp only [Nat.add_zero] at f0
                  rw [← f0] at this
                  exact beq_eq_false_iff_ne.2 (by omega)
                clear r1
                go_upto_region 35 with go_in
                go_cut [146] (fun v wx => v = .bool false ∧ wx = wc.drewN nq)
                case first =>
                  have hb0 : 2 + d + 1 + 0 < S.size := by omega
                  have f0 := HR.out 0 hb0 (by rw [← HM.out]; omega)
                  simp only [Nat.add_zero] at f0
                  by_cases hz : S[2 + d + 1].toNat = 48
                  · have hm1 : S.size ≤ 2 + d + 1 + 1 := by
                      have := H4'.out (by rw [← HM.out]; omega) (by rw [← f0]; exact hz)
                      have := HM.out
                      have := HR1.out
                      omega
                    have hz' : ((S[2 + d + 1].toNat : Int) == 48) = true := beq_iff_eq.2 (by omega)
                    have hz2 : decide (2 + (d : Int) + 1 + 1 < (S.size : Int)) = false := decide_eq_false (by omega)
                    clear f0 hz
                    go_wp2
                    go_meet
                    case rel => exact ⟨rfl, rfl⟩
                  · have hz' : ((S[2 + d + 1].toNat : Int) == 48) = false := beq_eq_false_iff_ne.2 (by omega)
                    clear f0 hz
                    go_wp2
                    go_meet
                    case rel => exact ⟨rfl, rfl⟩
                case rest =>
                  obtain ⟨rfl, rfl⟩ := hcut
                  go_wp2_with fail
                  go_loop [12, 14] (fun j t => ∃ k a : Nat, k ≤ m ∧ j = .int .i64 ((2 + d + 1 + k : Nat) : Int) ∧ t = .int .u64 (a : Int) ∧ dval a (M.drop k) = n.natAbs) (fun j _ => S.size - (intOf j).toNat)
                  case atStart => exact ⟨0, 0, Nat.zero_le _, by go_num, rfl, by rw [List.drop_zero]; exact H5.out⟩
                  case round =>
                    obtain ⟨k, a, hk, rfl, rfl, hv⟩ := hrel
                    have ha := dval_bound hv
                    by_cases hlt : k < m
                    · have hkM : k < M.length := by rw [← HM.out]; exact hlt
                      have hkS : 2 + d + 1 + k < S.size := by have := HR1.out; omega
                      have hv' := dval_step hv hkM
                      have ha' := dval_bound hv'
                      have f := HR.out k hkS hkM
                      obtain ⟨g1, g2⟩ := H3.out k hkM
                      rw [← f] at hv' ha' g1 g2
                      have gb : decide ((S[2 + d + 1 + k].toNat : Int) ≤ 57) = true := decide_eq_true (by omega)
                      have HV := Lib.hid hv'
                      clear hv hv' f
                      go_wp2
                      go_round
                      case rel => exact ⟨k + 1, a * 10 + (S[2 + d + 1 + k].toNat - 48), by omega, by go_num, int_val (by omega), HV.out⟩
                      case measure => simp [intOf]; omega
                    · have hae : a = n.natAbs := dval_end hv (by rw [← HM.out]; exact hlt)
                      have HA := Lib.hid hae
                      clear hv hae
                      obtain rfl : m = k := by omega
                      have hkS : S.size ≤ 2 + d + 1 + m := by have := HR1.out; omega
                      have hw0 : ¬ wrap64 (p + 1) < 0 := by rw [← HN.out]; omega
                      have hfin : ((a : Int) == IntKind.u64.wrap (wrap64 (p + 1))) = true := by rw [wmag_pos _ hw0 (by unfold wrap64; omega), HA.out, HN.out]; simp
                      go_wp2
                      go_ret
                      exact ⟨rfl, below_drewN hbb2 nq⟩
end Go.Proofs.Qxb6600357aDoor.Walks
