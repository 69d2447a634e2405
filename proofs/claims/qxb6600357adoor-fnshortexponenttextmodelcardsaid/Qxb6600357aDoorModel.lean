/-
  THE WALK of modelShortExponent (function 8).
-/
import Derived.Test.Qxb6600357aDoorAppend
import Derived.Test.Qxb6600357aDoorModelPlain
import Derived.WalkSmall
import Derived.Deep.CutBlock
import Derived.Deep.DeepCutAuto
namespace Go.Proofs.Qxb6600357aDoor.Walks
open Go.Shelf Go.RowKit
open Go.Proofs.Qxb6600357aDoor.Plain

theorem own_cap {w : World} {B e g n c : Nat} {xs : List Value} (h : w.ownsRow B e 1 (.slice (some ⟨g, 0, none⟩) n c) n xs) : n ≤ c := by
  rcases h.2 with ⟨hv, _⟩ | ⟨g', cap, cur, hv, _, _, hc, _⟩
  · simp at hv
  · simp only [Value.slice.injEq] at hv
    omega

theorem elemS (w : World) : (sizeOf (Tryd.prog.elem 22)).run Tryd.prog w = .ok 1 w := by kernel_rfl
theorem elemU : Tryd.prog.underlying 22 = some (.slice (Tryd.prog.elem 22)) := by kernel_rfl
/-- 'digits[q:]'. -/
theorem slice_from (g n c q : Nat) (hq : q ≤ n) (hc : n ≤ c) : ∃ X : Addr, (q < n → X = ⟨g, q, none⟩) ∧
    ∀ w, (Instr.slice 22 (.slice (some ⟨g, 0, none⟩) n c) (some (.int .i64 (q : Int))) none none).run Tryd.prog w = .ok (.slice (some X) (n - q) (c - q)) w := by
  refine ⟨if c = q then ⟨g, 0, none⟩ else ⟨g, q, none⟩, fun h => if_neg (by omega), fun w => ?_⟩
  rw [run_slice_l w 22 (some ⟨g, 0, none⟩) n c elemU .i64 (q : Int) (by omega) (by omega), elemS]
  by_cases h : c = q
  · simp [sliced, h]
  · simp [sliced, Addr.add, h]
    omega

theorem drop_news {w : World} {B g c n q : Nat} {D : List UInt8} {X : Addr} (h : w.ownsRow B 5 1 (.slice (some ⟨g, 0, none⟩) D.length c) n (Lib.byteCells D)) (hX : q < D.length → X = ⟨g, q, none⟩) :
    ∀ (i : Nat) (u : Value), (Lib.byteCells (D.drop q))[i]? = some u → w.cell? (X.add i) = some u := by
  intro i u hu
  have hn : D.length = n := by have := h.1; rw [Lib.byteCells_length] at this; omega
  subst hn
  have hi : i < (D.drop q).length := by
    have := (List.getElem?_eq_some_iff.1 hu).1
    simpa [Lib.byteCells] using this
  rw [List.length_drop] at hi
  rw [hX (by omega), show (⟨g, q, none⟩ : Addr).add i = ⟨g, q + i, none⟩ by simp [Addr.add], h.cellAt (q + i) (by omega), ← hu]
  simp [Lib.byteCells]

set_option maxHeartbeats 3000000 in
set_option maxRecDepth 100000 in
theorem model_any (ao : Option Addr) (cap : Nat) (l : List UInt8) (point : Int) (w : World) (hcp : Copy w ao cap l) (hlen : l.length ≤ 1048576) :
    Calls Tryd.prog 8 #[.slice ao l.length cap, .int .i64 point] w fun e w' => e = .returned (.string ⟨(short l (wrap64 (point + 1))).toArray⟩) ∧ Below w.heap.size w w' := by
  obtain ⟨i0, hi, hz0, hz1, hz2⟩ := info_parts infoByte
  obtain ⟨wr0, wr1⟩ : -9223372036854775808 ≤ wrap64 (point + 1) ∧ wrap64 (point + 1) ≤ 9223372036854775807 := by unfold wrap64; omega
  have lw := Lib.itoa_length_le (wrap64 (point + 1)) wr0 wr1
  have HCP := Lib.hid hcp
  clear hcp
  go_enter Tryd.func8, Tryd.ntmps8
  go_upto_block 0 with fail
  go_cut [5] (fun i wc => ∃ e : Nat, e ≤ l.length ∧ i = .int .i64 e ∧ l.takeWhile okc = l.take e ∧ w = wc)
  case first =>
    go_wp2_with fail
    go_loop [5] (fun i => ∃ k : Nat, k ≤ l.length ∧ i = .int .i64 k ∧ Pre l k) (fun i => l.length - (intOf i).toNat)
    case atStart => exact ⟨0, Nat.zero_le _, rfl, Pre.start l⟩
    case round =>
      obtain ⟨k, hk, rfl, hpre⟩ := hrel
      have hstep : Hid (∀ hk : k < l.length, okc l[k] = true → Pre l (k + 1)) := fun hk hc => hpre.step hk hc
      have hstop : Hid ((∀ hk : k < l.length, okc l[k] = false) → l.takeWhile okc = l.take k) := fun hc => hpre.stop hc
      clear hpre
      by_cases hlt : k < l.length
      · obtain ⟨g, rfl, hg, hcx⟩ := HCP.out.at hlt
        have hxn : l[k].toNat < 256 := l[k].toNat_lt
        obtain ⟨x, hx⟩ : ∃ x : Nat, x = l[k].toNat := ⟨_, rfl⟩
        rw [← hx] at hcx hxn
        have HX : Hid (x = l[k].toNat) := hx
        clear hx
        rcases (show (48 ≤ x ∧ x ≤ 57) ∨ (45 ≤ x ∧ x ≤ 45) ∨ (46 ≤ x ∧ x ≤ 46) ∨ (x < 45) ∨ (47 ≤ x ∧ x ≤ 47) ∨ (57 < x) by omega) with ⟨h1, h2⟩ | ⟨h1, h2⟩ | ⟨h1, h2⟩ | h1 | ⟨h1, h2⟩ | h1
        · have HC := hstep.out hlt (okc_dig (by rw [← HX.out]; omega))
          go_wp2
          go_round
          case rel => exact ⟨k + 1, by omega, by go_num, HC⟩
          case measure => simp [intOf]; omega
        · have HC := hstep.out hlt (okc_mark (by rw [← HX.out]; omega))
          have q1 : ((x : Int) == 45) = true := beq_iff_eq.2 (by omega)
          go_wp2
          go_round
          case rel => exact ⟨k + 1, by omega, by go_num, HC⟩
          case measure => simp [intOf]; omega
        · have HC := hstep.out hlt (okc_mark (by rw [← HX.out]; omega))
          have q1 : ((x : Int) == 45) = false := beq_eq_false_iff_ne.2 (by omega)
          have q2 : ((x : Int) == 46) = true := beq_iff_eq.2 (by omega)
          go_wp2
          go_round
          case rel => exact ⟨k + 1, by omega, by go_num, HC⟩
          case measure => simp [intOf]; omega
        · have HE : l.takeWhile okc = l.take k := hstop.out (fun _ => okc_no (by rw [← HX.out]; omega) (by rw [← HX.out]; omega) (by rw [← HX.out]; omega))
          have q1 : ((x : Int) == 45) = false := beq_eq_false_iff_ne.2 (by omega)
          have q2 : ((x : Int) == 46) = false := beq_eq_false_iff_ne.2 (by omega)
          have HE' := Lib.hid HE
          clear HE
          go_wp2
          go_meet
          case rel => exact ⟨k, hk, rfl, HE'.out, rfl⟩
        · have HE : l.takeWhile okc = l.take k := hstop.out (fun _ => okc_no (by rw [← HX.out]; omega) (by rw [← HX.out]; omega) (by rw [← HX.out]; omega))
          have q1 : ((x : Int) == 45) = false := beq_eq_false_iff_ne.2 (by omega)
          have q2 : ((x : Int) == 46) = false := beq_eq_false_iff_ne.2 (by omega)
          have HE' := Lib.hid HE
          clear HE
          go_wp2
          go_meet
          case rel => exact ⟨k, hk, rfl, HE'.out, rfl⟩
        · have HE : l.takeWhile okc = l.take k := hstop.out (fun _ => okc_no (by rw [← HX.out]; omega) (by rw [← HX.out]; omega) (by rw [← HX.out]; omega))
          have q1 : ((x : Int) == 45) = false := beq_eq_false_iff_ne.2 (by omega)
          have q2 : ((x : Int) == 46) = false := beq_eq_false_iff_ne.2 (by omega)
          have HE' := Lib.hid HE
          clear HE
          go_wp2
          go_meet
          case rel => exact ⟨k, hk, rfl, HE'.out, rfl⟩
      · have HE' : Hid (l.takeWhile okc = l.take k) := hstop.out (fun h => absurd h hlt)
        go_wp2
        go_meet
        case rel => exact ⟨k, hk, rfl, HE'.out, rfl⟩
  case rest =>
    obtain ⟨e, he, rfl, hE, hw⟩ := hcut
    obtain rfl := hw
    have HE := Lib.hid hE
    clear hE
    go_wp2_with (at_make; refine wpList_make_own _ rfl _ _ 22 rfl w.heap.size 5 i0 (.int .u8 0) 1 Tryd.underlying22 hi hz0 hz1 _ _ _ e rfl rfl rfl (by rw [hz2]; omega) (by unfold maxLen; omega) (Nat.le_refl _) ?_; intro w1 hown1 hgrow1; refine Hid.out ?_)
    refine Lib.hid ?_
    have hb1 : Below w.heap.size w w1 := (Below.refl _ _).grown hgrow1 (Nat.le_refl _) (fun k h => by cases h)
    clear hgrow1
    go_wp2_with fail
    go_loopw [6, 7] (fun v i wr => ∃ (k g3 c3 : Nat), k ≤ e ∧ i = .int .i64 k ∧ v = .slice (some ⟨g3, 0, none⟩) (dgs l k).length c3 ∧
        wr.ownsRow w.heap.size 5 1 (.slice (some ⟨g3, 0, none⟩) (dgs l k).length c3) (dgs l k).length (Lib.byteCells (dgs l k)) ∧ Below w.heap.size w wr) (fun _ i _ => e - (intOf i).toNat)
    case atStart => exact ⟨0, w.heap.size, e, Nat.zero_le _, rfl, by rw [dgs_zero]; rfl, by rw [dgs_zero]; exact hown1, hb1⟩
    case round =>
      obtain ⟨k, g3, c3, hk, rfl, rfl, hown, hbl⟩ := hrel
      have hdl := dgs_le l k
      have hsz := hbl.size
      by_cases hlt : k < e
      · have hkl : k < l.length := by omega
        obtain ⟨g, rfl, hg, hcx0⟩ := HCP.out.at hkl
        have hcx : wr.cell? ⟨g, k, none⟩ = some (.int .u8 (l[k].toNat : Int)) := (hbl.cell (by exact hg)).trans hcx0
        clear hcx0
        have hxn : l[k].toNat < 256 := l[k].toNat_lt
        have hyes : Hid (48 ≤ l[k].toNat ∧ l[k].toNat ≤ 57 → dgs l (k + 1) = dgs l k ++ [l[k]]) := fun h => dgs_yes hkl (isDig_yes h)
        have hno : Hid (¬ (48 ≤ l[k].toNat ∧ l[k].toNat ≤ 57) → dgs l (k + 1) = dgs l k) := fun h => dgs_no hkl (isDig_no h)
        obtain ⟨x, hx⟩ : ∃ x : Nat, x = l[k].toNat := ⟨_, rfl⟩
        rw [← hx] at hcx hxn hyes hno
        have HX : Hid (x = l[k].toNat) := hx
        clear hx
        by_cases hdg : 48 ≤ x ∧ x ≤ 57
        · obtain ⟨h1, h2⟩ := hdg
          have HD := Lib.hid (hyes.out ⟨h1, h2⟩)
          go_wp2_with (first | (at_builtin; refine wpList_append_own _ rfl _ _ 22 rfl w.heap.size 5 i0 (.int .u8 0) 1 1 Tryd.underlying22 hi hz0 hz1 hz2 rfl (by decide) _ _ _ rfl (hown.alloc _) ⟨wr.heap.size, 0, none⟩ 1 1 [Value.int .u8 (x : Int)] rfl rfl (cell_one_new _ _ _) (by intro u' hu'; simp at hu'; subst hu'; rfl) (by unfold maxLen; omega) (by omega) (by simp; omega) ?_; rintro v3 w3 hown3 hgrow3 -; refine Hid.out ?_) | go_in)
          refine Lib.hid ?_
          have hb3 : Below w.heap.size w w3 := (hbl.alloc hsz _).grown hgrow3 (by simp; omega) (fun k hk => (hown.lt k hk).1)
          obtain ⟨g4, c4, hv4⟩ := own_shape hown3 (by omega)
          rw [hv4] at hown3
          rw [hv4]
          have hown4 : w3.ownsRow w.heap.size 5 1 (.slice (some ⟨g4, 0, none⟩) (dgs l (k + 1)).length c4) (dgs l (k + 1)).length (Lib.byteCells (dgs l (k + 1))) := by
            have e1 : (dgs l (k + 1)).length = (dgs l k).length + 1 := by rw [HD.out]; simp
            have e2 : Lib.byteCells (dgs l (k + 1)) = Lib.byteCells (dgs l k) ++ [Value.int .u8 (x : Int)] := by rw [HD.out, HX.out]; simp [Lib.byteCells]
            rw [e1, e2]; exact hown3
          clear hown3 hv4 hgrow3 hown hbl
          go_wp2
          go_roundw
          case rel => exact ⟨k + 1, g4, c4, by omega, by go_num, by rw [HD.out]; simp, hown4, hb3⟩
          case measure => simp [intOf]; omega
        · have HD := Lib.hid (hno.out hdg)
          go_wp2
          all_goals
            go_roundw
            case rel => exact ⟨k + 1, g3, c3, by omega, by go_num, by rw [HD.out], by rw [HD.out]; exact hown, hbl⟩
            case measure => simp [intOf]; omega
      · obtain rfl : e = k := by omega
        obtain ⟨D, hD⟩ : ∃ D, D = dgs l e := ⟨_, rfl⟩
        rw [← hD] at hown hdl
        rw [← hD]
        have HD := Lib.hid hD
        clear hD
        go_upto_block 4 with go_in
        go_cut [8] (fun i wx => ∃ k : Nat, k ≤ D.length ∧ i = .int .i64 k ∧ D.dropWhile isZero = D.drop k ∧ wr = wx)
        case first =>
          go_wp2_with fail
          go_loop [8] (fun i => ∃ k : Nat, k ≤ D.length ∧ i = .int .i64 k ∧ Lead D k) (fun i => D.length - (intOf i).toNat)
          case atStart => exact ⟨0, Nat.zero_le _, rfl, Lead.start D⟩
          case round =>
            obtain ⟨k, hk, rfl, hld⟩ := hrel
            have hstep : Hid (∀ hk : k < D.length, D[k].toNat = 48 → Lead D (k + 1)) := fun hk hc => hld.step hk hc
            have hstop : Hid ((∀ hk : k < D.length, D[k].toNat ≠ 48) → D.dropWhile isZero = D.drop k) := fun hc => hld.stop hc
            clear hld
            by_cases hlt : k < D.length
            · have hcx : wr.cell? ⟨g3, k, none⟩ = some (.int .u8 (D[k].toNat : Int)) := by rw [hown.cellAt k (by omega)]; simp [Lib.byteCells, hlt]
              by_cases hz : D[k].toNat = 48
              · have HC := hstep.out hlt hz
                have q : ((D[k].toNat : Int) == 48) = true := beq_iff_eq.2 (by omega)
                clear hz
                go_wp2
                go_round
                case rel => exact ⟨k + 1, by omega, by go_num, HC⟩
                case measure => simp [intOf]; omega
              · have HC := Lib.hid (hstop.out (fun _ => hz))
                have q : ((D[k].toNat : Int) == 48) = false := beq_eq_false_iff_ne.2 (by omega)
                clear hz
                go_wp2
                go_meet
                case rel => exact ⟨k, hk, rfl, HC.out, rfl⟩
            · have HC := Lib.hid (hstop.out (fun h => absurd h hlt))
              go_wp2
              go_meet
              case rel => exact ⟨k, hk, rfl, HC.out, rfl⟩
        case rest =>
          obtain ⟨q, hq, rfl, hdr, hw⟩ := hcut
          obtain rfl := hw
          have HDR := Lib.hid hdr
          clear hdr
          go_wp2_with (at_make; refine wpList_make_own _ rfl _ _ 22 rfl w.heap.size 5 i0 (.int .u8 0) 1 Tryd.underlying22 hi hz0 hz1 _ _ _ (D.length + 24) rfl rfl (by omega) (by rw [hz2]; omega) (by unfold maxLen; omega) hsz ?_; intro w5 hown5 hgrow5; refine Hid.out ?_)
          refine Lib.hid ?_
          have hg3 := hown.lt g3 rfl
          have hD5 := hown.kept hgrow5 (Or.inr (by simp [Value.ownBlock]))
          have hb5 : Below w.heap.size w w5 := hbl.grown hgrow5 hsz (fun k h => by cases h)
          have hs5 := hgrow5.size
          clear hgrow5 hown hown1 hb1 w1
          go_wp2_with (at_builtin; refine wpList_append_own _ rfl (.tmp 73) (.tmp 74) 22 rfl w.heap.size 5 i0 (.int .u8 0) 1 1 Tryd.underlying22 hi hz0 hz1 hz2 rfl (by decide) _ _ _ rfl (hown5.alloc _) ⟨w5.heap.size, 0, none⟩ 2 2 [Value.int .u8 48, Value.int .u8 46] rfl rfl (cell_two_new _ _ _ _) (by intro u' hu'; simp at hu'; rcases hu' with rfl | rfl <;> rfl) (by decide) (by decide) (by simp; omega) ?_; rintro v6 w6 hown6 hgrow6 -; refine Hid.out ?_)
          refine Lib.hid ?_
          have hD6 := (hD5.alloc (.cells #[.int .u8 48, .int .u8 46] 5)).kept hgrow6 (Or.inr (by show some g3 ≠ some wr.heap.size; simp; omega))
          have hb6 : Below w.heap.size w w6 := (hb5.alloc (by omega) _).grown hgrow6 (by simp; omega) (fun k hk => (hown5.lt k hk).1)
          have hs6 := hb6.size
          obtain ⟨g6, c6, hv6⟩ := own_shape hown6 (by decide)
          rw [hv6] at hown6
          rw [hv6]
          clear hgrow6 hown5 hD5 hv6
          have hcap := own_cap hD6
          obtain ⟨X, hX, hsl⟩ := slice_from g3 D.length c3 q hq hcap
          go_wp2_with (at_builtin; refine wpList_append_own _ rfl (.tmp 76) (.tmp 79) 22 rfl w.heap.size 5 i0 (.int .u8 0) 1 1 Tryd.underlying22 hi hz0 hz1 hz2 rfl (by decide) _ _ _ rfl hown6 X (D.length - q) (c3 - q) (Lib.byteCells (D.drop q)) rfl (by simp [Lib.byteCells]) (drop_news hD6 hX) (byteCells_one _) (by unfold maxLen; omega) (by omega) (by omega) ?_; rintro v7 w7 hown7 hgrow7 -; refine Hid.out ?_)
          refine Lib.hid ?_
          have hb7 : Below w.heap.size w w7 := hb6.grown hgrow7 (by omega) (fun k hk => (hown6.lt k hk).1)
          have hs7 := hb7.size
          obtain ⟨g7, c7, hv7⟩ := own_shape hown7 (by omega)
          rw [hv7] at hown7
          rw [hv7]
          clear hgrow7 hown6 hD6 hv7 hsl hX hcap
          go_wp2_with (at_builtin; refine wpList_append_own _ rfl (.tmp 81) (.tmp 82) 22 rfl w.heap.size 5 i0 (.int .u8 0) 1 1 Tryd.underlying22 hi hz0 hz1 hz2 rfl (by decide) _ _ _ rfl (hown7.alloc _) ⟨w7.heap.size, 0, none⟩ 1 1 [Value.int .u8 101] rfl rfl (cell_one_new _ _ _) (by intro u' hu'; simp at hu'; subst hu'; rfl) (by unfold maxLen; omega) (by omega) (by simp; omega) ?_; rintro v8 w8 hown8 hgrow8 -; refine Hid.out ?_)
          refine Lib.hid ?_
          have hb8 : Below w.heap.size w w8 := (hb7.alloc (by omega) _).grown hgrow8 (by simp; omega) (fun k hk => (hown7.lt k hk).1)
          have hs8 := hb8.size
          obtain ⟨g8, c8, hv8⟩ := own_shape hown8 (by omega)
          rw [hv8] at hown8
          rw [hv8]
          clear hgrow8 hown7 hv8
          go_wp2_with (go_at_call 13; refine (appendInt w.heap.size _ _ _ (wrap64 (point + 1)) wr0 wr1 w8 hown8 hs8 (by omega)).mono ?_; rintro e w9 ⟨v9, rfl, hown9, hb9⟩; refine Hid.out ?_)
          refine Lib.hid ?_
          obtain ⟨L, hL⟩ : ∃ L, L = short l (wrap64 (point + 1)) := ⟨_, rfl⟩
          obtain ⟨g10, c10, hv10, hcv⟩ := own_string L hown9 (by
            have hs := model_sig HE.out (k := q) (by rw [← HD.out]; exact HDR.out)
            rw [← HD.out] at hs
            rw [hL, short, ← hs]; simp [Lib.byteCells]) (by omega)
          have HL : Hid (L = short l (wrap64 (point + 1))) := hL
          clear hL hown9 hown8
          rw [hv10]
          go_wp2
          go_ret
          exact ⟨ret_str HL.out, hb8.trans hb9⟩
end Go.Proofs.Qxb6600357aDoor.Walks
