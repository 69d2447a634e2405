/-
  THE WALK of appendInt64 (function 13).
-/
import Derived.Test.Qxb6600357aDoorText
import Derived.Test.Qxb6600357aDoorDigits
namespace Go.Proofs.Qxb6600357aDoor.Walks
open Go.Shelf Go.RowKit
open Go.Proofs.Qxb6600357aDoor.Plain

def zeros20 : Array Value := #[.int .u8 0, .int .u8 0, .int .u8 0, .int .u8 0, .int .u8 0, .int .u8 0, .int .u8 0, .int .u8 0, .int .u8 0, .int .u8 0, .int .u8 0, .int .u8 0, .int .u8 0, .int .u8 0, .int .u8 0, .int .u8 0, .int .u8 0, .int .u8 0, .int .u8 0, .int .u8 0]
theorem wmag_neg (x : Int) (h : x < 0) (h0 : -9223372036854775808 ≤ x) : IntKind.u64.wrap (-IntKind.u64.wrap x) = (x.natAbs : Int) := by
  simp [IntKind.wrap, IntKind.signed, IntKind.bits]; omega
theorem wmag_pos (x : Int) (h : ¬ x < 0) (h0 : x ≤ 9223372036854775807) : IntKind.u64.wrap x = (x.natAbs : Int) := by
  simp [IntKind.wrap, IntKind.signed, IntKind.bits]; omega

theorem drop_set (ys : List Value) (j : Nat) (x : Value) (h : j < ys.length) : (ys.set j x).drop j = x :: ys.drop (j + 1) := by
  rw [List.drop_eq_getElem_cons (by simpa using h), List.drop_set_of_lt (by omega)]
  simp

/-- The cell of a digit. -/
theorem byte_dig (u : Nat) (h : u < 10) {D : List UInt8} : Lib.byteCells (UInt8.ofNat (48 + u) :: D) = .int .u8 (48 + (u : Int)) :: Lib.byteCells D := by
  simp [Lib.byteCells]
  omega

/-- What is owned stays owned where nothing that was there has turned. -/
theorem own_below {w w' : World} {B e : Nat} {v : Value} {n : Nat} {xs : List Value} (h : w.ownsRow B e 1 v n xs) (hb : Below w.heap.size w w') : w'.ownsRow B e 1 v n xs := by
  refine ⟨h.1, ?_⟩
  rcases h.2 with h2 | ⟨g, cap, cur, hv, hg, hh, r⟩
  · exact .inl h2
  · exact .inr ⟨g, cap, cur, hv, hg, by rw [hb.block g (Array.getElem?_eq_some_iff.1 hh).1]; exact hh, r⟩

theorem arr20 : Tryd.prog.arrayLen 31 = 20 := by kernel_rfl
theorem arrU : Tryd.prog.underlying 31 = some (.array (Tryd.prog.arrayLen 31) (Tryd.prog.elem 31)) := by kernel_rfl
theorem arrS (w : World) : (sizeOf (Tryd.prog.elem 31)).run Tryd.prog w = .ok 1 w := by kernel_rfl
/-- 'tmp[j:]', tmp an array of twenty bytes. -/
theorem slice_tmp (w : World) (g j : Nat) (hj : j < 20) : (Instr.sliceAt 31 (.pointer (some ⟨g, 0, none⟩)) (some (.int .i64 (j : Int))) none none).run Tryd.prog w = .ok (.slice (some ⟨g, j, none⟩) (20 - j) (20 - j)) w := by
  rw [run_sliceAt_array_l w 31 ⟨g, 0, none⟩ arrU .i64 (j : Int) (by omega) (by rw [arr20]; omega), arrS, arr20]
  have hne : ¬ 20 = j := by omega
  simp [slicedAt, Addr.add, hne]
  omega

/-- The last cells of an array of the call's own, as what is appended. -/
theorem row_news {w : World} {B g j : Nat} {zs : List Value} {L : List UInt8} (h : w.ownsRow B 31 1 (.slice (some ⟨g, 0, none⟩) 20 20) 20 zs) (hz : zs.drop j = Lib.byteCells L) (hl : L.length = 20 - j) :
    ∀ (i : Nat) (u : Value), (Lib.byteCells L)[i]? = some u → w.cell? ((⟨g, j, none⟩ : Addr).add i) = some u := by
  intro i u hu
  have hi : i < L.length := by
    have := (List.getElem?_eq_some_iff.1 hu).1
    simpa [Lib.byteCells] using this
  have := h.cellAt (j + i) (by omega)
  rw [show (⟨g, j, none⟩ : Addr).add i = ⟨g, j + i, none⟩ by simp [Addr.add], this, ← hu, ← hz, List.getElem?_drop]

set_option maxHeartbeats 1000000 in
set_option maxRecDepth 100000 in
theorem appendInt (B n : Nat) (sv : Value) (xs : List Value) (v : Int) (v0 : -9223372036854775808 ≤ v) (v1 : v ≤ 9223372036854775807) (w : World) (hown : w.ownsRow B 5 1 sv n xs) (hB : B ≤ w.heap.size) (hlim : n ≤ 140737488300000) :
    Calls Tryd.prog 13 #[sv, .int .i64 v] w fun e w' => ∃ v', e = .returned v' ∧ w'.ownsRow B 5 1 v' (n + (Lib.itoa v).length) (xs ++ Lib.byteCells (Lib.itoa v)) ∧ Below B w w' := by
  obtain ⟨i0, hi, hz0, hz1, hz2⟩ := info_parts infoByte
  obtain ⟨U, hU⟩ : ∃ U, U = v.natAbs := ⟨_, rfl⟩
  have hUb : U ≤ 9223372036854775808 := by omega
  by_cases hneg : v < 0
  · have hw : IntKind.u64.wrap (-IntKind.u64.wrap v) = (U : Int) := by rw [hU]; exact wmag_neg v hneg v0
    have HU := Lib.hid hU
    clear hU
    have hrow0 := World.ownsRow_lit (base := w.heap.size) (e := 31) (size := 1) w zeros20 20 (Nat.le_refl _) (by decide) rfl
    go_enter Tryd.func13, Tryd.ntmps13
    go_wp2_with fail
    go_loopw [5, 8] (fun t i wr => ∃ (u k : Nat) (D : List UInt8) (ys : List Value), t = .int .u64 u ∧ i = .int .i64 k ∧ k + D.length = 20 ∧ u ≤ 9223372036854775808 ∧ Split U u D ∧ ys.drop k = Lib.byteCells D ∧ ys.length = 20 ∧
        wr.ownsRow w.heap.size 31 1 (.slice (some ⟨w.heap.size, 0, none⟩) 20 20) 20 ys ∧ Below w.heap.size w wr) (fun t _ _ => (intOf t).toNat)
    case atStart => exact ⟨U, 20, [], _, rfl, rfl, rfl, hUb, Split.start U, rfl, rfl, hrow0, (Below.refl _ _).alloc (Nat.le_refl _) _⟩
    case round =>
      obtain ⟨u, k, D, ys, rfl, rfl, hk, hu, hsp, hys, hyl, hrow, hbl⟩ := hrel
      have hD := hsp.len hUb
      obtain ⟨j, rfl⟩ : ∃ j, k = j + 1 := ⟨k - 1, by omega⟩
      have hfz := hrow.frozenAt j
      have hcj : wr.cell? ⟨w.heap.size, j, none⟩ = some (ys[j]'(by omega)) := by rw [hrow.cellAt j (by omega)]; simp
      by_cases h10 : 10 ≤ u
      · have hst := (hrow.stored j (.int .u8 (48 + (u : Int) % 10))).1
        have HS := hsp.step (by omega)
        go_wp2
        go_roundw
        case rel => exact ⟨u / 10, j, _, _, by go_num, rfl, by simp; omega, by omega, HS, by rw [drop_set _ _ _ (by omega), hys, byte_dig (u % 10) (by omega)]; simp, by simpa using hyl, hst, hbl.setCell (Nat.le_refl _) _⟩
        case measure => simp [intOf]; omega
      · obtain ⟨w4, hw4⟩ : ∃ w4, wr.setCell ⟨w.heap.size, j, none⟩ (.int .u8 (48 + (u : Int))) = w4 := ⟨_, rfl⟩
        have hst : w4.ownsRow w.heap.size 31 1 (.slice (some ⟨w.heap.size, 0, none⟩) 20 20) 20 (ys.set j (.int .u8 (48 + (u : Int)))) := by rw [← hw4]; exact (hrow.stored j (.int .u8 (48 + (u : Int)))).1
        have hb4 : Below w.heap.size w w4 := by rw [← hw4]; exact hbl.setCell (Nat.le_refl _) _
        have hlist : (ys.set j (.int .u8 (48 + (u : Int)))).drop j = Lib.byteCells (Lib.decDigits U) := by
          rw [drop_set _ _ _ (by omega), hys, hsp.fin (by omega), byte_dig u (by omega)]
        have hlen : (Lib.decDigits U).length = 20 - j := by rw [hsp.fin (by omega), List.length_cons]; omega
        have hzl : (ys.set j (.int .u8 (48 + (u : Int)))).length = 20 := by simpa using hyl
        generalize ys.set j (.int .u8 (48 + (u : Int))) = zs at hst hlist hzl
        have HL := Lib.hid hlist
        have HN := Lib.hid hlen
        have hown4 := own_below hown hb4
        clear hlist hlen hsp hys hrow hbl
        have hsz4 := hb4.size
        have htmp : ∀ k, sv.ownBlock = some k → k < w.heap.size := fun k hk => (hown.lt k hk).2
        go_wp2_with (at_builtin; refine wpList_append_own _ rfl (.tmp 37) (.tmp 38) 22 rfl B 5 i0 (.int .u8 0) 1 1 Tryd.underlying22 hi hz0 hz1 hz2 rfl (by decide) sv n xs rfl (hown4.alloc _) ⟨w4.heap.size, 0, none⟩ 1 1 [Value.int .u8 45] rfl rfl (cell_one_new _ _ _) (by intro u' hu'; simp at hu'; subst hu'; rfl) (by unfold maxLen; omega) (by omega) (by simp; omega) ?_; rintro v5 w5 hown5 hgrow5 -; refine Hid.out ?_)
        refine Lib.hid ?_
        have hst5 := (hst.alloc (.cells #[.int .u8 45] 5)).kept hgrow5 (Or.inr (by intro e; have := htmp _ e.symm; simp at this))
        have hb5 : Below B w w5 := ((hb4.mono hB).alloc (by omega) _).grown hgrow5 (by simp; omega) (fun k hk => (hown.lt k hk).1)
        have hsz5 := hgrow5.size
        clear hgrow5 hown4 hw4 hcj hfz hst
        have hsl := slice_tmp w5 w.heap.size j (by omega)
        go_wp2_with (at_builtin; refine wpList_append_own _ rfl (.tmp 40) (.tmp 42) 22 rfl B 5 i0 (.int .u8 0) 1 1 Tryd.underlying22 hi hz0 hz1 hz2 rfl (by decide) v5 (n + 1) _ rfl hown5 ⟨w.heap.size, j, none⟩ (20 - j) (20 - j) (Lib.byteCells (Lib.decDigits U)) rfl (by rw [Lib.byteCells_length, HN.out]; omega) (row_news hst5 HL.out HN.out) (byteCells_one _) (by unfold maxLen; omega) (by omega) (by simp at hsz5; omega) ?_; rintro v6 w6 hown6 hgrow6 -; refine Hid.out ?_)
        refine Lib.hid ?_
        have hb6 : Below B w w6 := hb5.grown hgrow6 (by have := hb5.size; omega) (fun k hk => (hown5.lt k hk).1)
        go_wp2
        go_ret
        refine ⟨v6, rfl, ?_, hb6⟩
        have e := HU.out
        rw [itoa_neg' hneg, ← e]
        have e2 : n + 1 + (20 - j) = n + (45 :: Lib.decDigits U).length := by rw [List.length_cons, HN.out]; omega
        rw [e2] at hown6
        simpa [Lib.byteCells] using hown6
  · have hw : IntKind.u64.wrap v = (U : Int) := by rw [hU]; exact wmag_pos v hneg v1
    have HU := Lib.hid hU
    clear hU
    have hrow0 := World.ownsRow_lit (base := w.heap.size) (e := 31) (size := 1) w zeros20 20 (Nat.le_refl _) (by decide) rfl
    go_enter Tryd.func13, Tryd.ntmps13
    go_wp2_with fail
    go_loopw [5, 8] (fun t i wr => ∃ (u k : Nat) (D : List UInt8) (ys : List Value), t = .int .u64 u ∧ i = .int .i64 k ∧ k + D.length = 20 ∧ u ≤ 9223372036854775808 ∧ Split U u D ∧ ys.drop k = Lib.byteCells D ∧ ys.length = 20 ∧
        wr.ownsRow w.heap.size 31 1 (.slice (some ⟨w.heap.size, 0, none⟩) 20 20) 20 ys ∧ Below w.heap.size w wr) (fun t _ _ => (intOf t).toNat)
    case atStart => exact ⟨U, 20, [], _, rfl, rfl, rfl, hUb, Split.start U, rfl, rfl, hrow0, (Below.refl _ _).alloc (Nat.le_refl _) _⟩
    case round =>
      obtain ⟨u, k, D, ys, rfl, rfl, hk, hu, hsp, hys, hyl, hrow, hbl⟩ := hrel
      have hD := hsp.len hUb
      obtain ⟨j, rfl⟩ : ∃ j, k = j + 1 := ⟨k - 1, by omega⟩
      have hfz := hrow.frozenAt j
      have hcj : wr.cell? ⟨w.heap.size, j, none⟩ = some (ys[j]'(by omega)) := by rw [hrow.cellAt j (by omega)]; simp
      by_cases h10 : 10 ≤ u
      · have hst := (hrow.stored j (.int .u8 (48 + (u : Int) % 10))).1
        have HS := hsp.step (by omega)
        go_wp2
        go_roundw
        case rel => exact ⟨u / 10, j, _, _, by go_num, rfl, by simp; omega, by omega, HS, by rw [drop_set _ _ _ (by omega), hys, byte_dig (u % 10) (by omega)]; simp, by simpa using hyl, hst, hbl.setCell (Nat.le_refl _) _⟩
        case measure => simp [intOf]; omega
      · obtain ⟨w4, hw4⟩ : ∃ w4, wr.setCell ⟨w.heap.size, j, none⟩ (.int .u8 (48 + (u : Int))) = w4 := ⟨_, rfl⟩
        have hst : w4.ownsRow w.heap.size 31 1 (.slice (some ⟨w.heap.size, 0, none⟩) 20 20) 20 (ys.set j (.int .u8 (48 + (u : Int)))) := by rw [← hw4]; exact (hrow.stored j (.int .u8 (48 + (u : Int)))).1
        have hb4 : Below w.heap.size w w4 := by rw [← hw4]; exact hbl.setCell (Nat.le_refl _) _
        have hlist : (ys.set j (.int .u8 (48 + (u : Int)))).drop j = Lib.byteCells (Lib.decDigits U) := by
          rw [drop_set _ _ _ (by omega), hys, hsp.fin (by omega), byte_dig u (by omega)]
        have hlen : (Lib.decDigits U).length = 20 - j := by rw [hsp.fin (by omega), List.length_cons]; omega
        have hzl : (ys.set j (.int .u8 (48 + (u : Int)))).length = 20 := by simpa using hyl
        generalize ys.set j (.int .u8 (48 + (u : Int))) = zs at hst hlist hzl
        have HL := Lib.hid hlist
        have HN := Lib.hid hlen
        have hown4 := own_below hown hb4
        clear hlist hlen hsp hys hrow hbl
        have hsz4 := hb4.size
        have hsl := slice_tmp w4 w.heap.size j (by omega)
        go_wp2_with (at_builtin; refine wpList_append_own _ rfl (.tmp 40) (.tmp 42) 22 rfl B 5 i0 (.int .u8 0) 1 1 Tryd.underlying22 hi hz0 hz1 hz2 rfl (by decide) sv n _ rfl hown4 ⟨w.heap.size, j, none⟩ (20 - j) (20 - j) (Lib.byteCells (Lib.decDigits U)) rfl (by rw [Lib.byteCells_length, HN.out]; omega) (row_news hst HL.out HN.out) (byteCells_one _) (by unfold maxLen; omega) (by omega) (by omega) ?_; rintro v6 w6 hown6 hgrow6 -; refine Hid.out ?_)
        refine Lib.hid ?_
        have hb6 : Below B w w6 := (hb4.mono hB).grown hgrow6 (by omega) (fun k hk => (hown4.lt k hk).1)
        go_wp2
        go_ret
        refine ⟨v6, rfl, ?_, hb6⟩
        have e := HU.out
        rw [itoa_pos' (by omega), ← e]
        have e2 : n + (20 - j) = n + (Lib.decDigits U).length := by rw [HN.out]
        rw [e2] at hown6
        exact hown6
end Go.Proofs.Qxb6600357aDoor.Walks
