/-
  THE WALK of shortExponentText (function 12) and its shim (function 7).
-/
import Derived.Test.Qxb6600357aDoorRows
import Derived.Test.Qxb6600357aDoorShelf
import Derived.Test.Qxb6600357aDoorPlain
import Derived.Lib.AppendIntMem
import Derived.Lib.ItoaLen
import Derived.Lib.AppendStr
import Derived.Lib.Slices
import Derived.Lib.Hide
import Derived.Laws.IdiomStrings
import Derived.OwnWalk
import Derived.WalkKit
import Derived.BigCall
import Derived.WalkSpells
namespace Go.Proofs.Qxb6600357aDoor.Walks
open Go.Shelf Go.RowKit
open Go.Proofs.Qxb6600357aDoor.Plain

theorem infoByte : (Tryd.prog.info? 5).map (fun i => (i.zero, i.size, i.bytes)) = some (some (.int .u8 0), 1, 1) := by kernel_rfl

theorem own_shape {w : World} {B e : Nat} {v : Value} {n : Nat} {xs : List Value} (h : w.ownsRow B e 1 v n xs) (hn : 0 < n) : ∃ g c, v = .slice (some ⟨g, 0, none⟩) n c := by
  rcases h.2 with ⟨_, h0⟩ | ⟨g, cap, cur, hv, _⟩
  · omega
  · exact ⟨g, cap, hv⟩

theorem ret_str {a b : List UInt8} (h : a = b) : Ending.returned (.string ⟨a.toArray⟩) = .returned (.string ⟨b.toArray⟩) := by rw [h]

/-- 'string(b)', b an owned row of bytes. -/
theorem own_string {w : World} {B : Nat} {v : Value} {n : Nat} {xs : List Value} (L : List UInt8) (h : w.ownsRow B 5 1 v n xs) (hx : xs = Lib.byteCells L) (hn : 0 < n) :
    ∃ g c, v = .slice (some ⟨g, 0, none⟩) L.length c ∧ (convert 22 9 (.slice (some ⟨g, 0, none⟩) L.length c)).run Tryd.prog w = .ok (.string ⟨L.toArray⟩) w := by
  obtain ⟨g, c, rfl⟩ := own_shape h hn
  have hl := h.1
  rw [hx, Lib.byteCells_length] at hl
  obtain rfl : L.length = n := by omega
  refine ⟨g, c, rfl, ?_⟩
  exact run_convert_bytes_back (P := Tryd.prog) w 22 9 5 ⟨g, 0, none⟩ c L Tryd.underlying22 Tryd.underlying5 Tryd.underlying9 (fun j hj => h.cells (g := g) rfl j _ (by rw [hx]; simp [Lib.byteCells, hj]))

set_option maxHeartbeats 1000000 in
set_option maxRecDepth 100000 in
theorem short_any (g o cap : Nat) (l : List UInt8) (point : Int) (w : World)
    (hcell : ∀ j (hj : j < l.length), w.cell? ⟨g, o + j, none⟩ = some (.int .u8 (l[j].toNat : Int))) (hg : g < w.heap.size) (hlen : l.length ≤ 1048576)
    (htab : Lib.TabIs Tryd.prog w powName .u64 Lib.pow10Tab) :
    Calls Tryd.prog 12 #[.slice (some ⟨g, o, none⟩) l.length cap, .int .i64 point] w fun e w' => e = .returned (.string ⟨(short l (wrap64 (point + 1))).toArray⟩) ∧ Below w.heap.size w w' := by
  obtain ⟨i0, hi, hz0, hz1, hz2⟩ := info_parts infoByte
  have hT := Lib.tabBelow_of_tabIs htab
  obtain ⟨wr0, wr1⟩ : -9223372036854775808 ≤ wrap64 (point + 1) ∧ wrap64 (point + 1) ≤ 9223372036854775807 := by unfold wrap64; omega
  have lw := Lib.itoa_length_le (wrap64 (point + 1)) wr0 wr1
  go_enter Tryd.func12, Tryd.ntmps12
  go_wp2_with (at_make; refine wpList_make_own _ rfl _ _ 22 rfl w.heap.size 5 i0 (.int .u8 0) 1 Tryd.underlying22 hi hz0 hz1 _ _ _ 32 rfl rfl rfl (by rw [hz2]; decide) (by decide) (Nat.le_refl _) ?_; intro w1 hown1 hgrow1; refine Hid.out ?_)
  refine Lib.hid ?_
  have hb1 : Below w.heap.size w w1 := (Below.refl _ _).grown hgrow1 (Nat.le_refl _) (fun k h => by cases h)
  go_wp2_with (at_builtin; refine Lib.wpList_append_own_string _ rfl _ _ 22 9 rfl w.heap.size 5 i0 Tryd.underlying22 Tryd.underlying9 hi hz0 hz1 hz2 _ _ _ rfl hown1 ⟨#[48, 46]⟩ rfl (by decide) (by decide) (by have := hb1.size; omega) ?_; rintro v2 w2 hown2 hgrow2 -; refine Hid.out ?_)
  refine Lib.hid ?_
  have hb2 : Below w.heap.size w w2 := hb1.grown hgrow2 (by have := hb1.size; omega) (fun k hk => (hown1.lt k hk).1)
  have hown2' : w2.ownsRow w.heap.size 5 1 v2 2 (Lib.byteCells [48, 46]) := hown2
  clear hown2 hgrow2 hgrow1 hown1 hb1 w1
  obtain ⟨g2, c2, hv2⟩ := own_shape hown2' (by decide)
  rw [hv2] at hown2'
  rw [hv2]
  clear hv2
  go_wp2_with fail
  go_loopw [5, 13] (fun v i wr => ∃ (k : Nat) (acc : List UInt8) (gb cb : Nat), k ≤ l.length ∧ i = .int .i64 k ∧ v = .slice (some ⟨gb, 0, none⟩) (2 + acc.length) cb ∧ acc.length ≤ k ∧ wr.ownsRow w.heap.size 5 1 (.slice (some ⟨gb, 0, none⟩) (2 + acc.length) cb) (2 + acc.length) (Lib.byteCells (48 :: 46 :: acc)) ∧ Below w.heap.size w wr ∧ At l k acc)
    (fun _ i _ => l.length - (intOf i).toNat)
  case atStart => exact ⟨0, [], g2, c2, Nat.zero_le _, rfl, rfl, Nat.le_refl _, hown2', hb2, At.start l⟩
  case round =>
    obtain ⟨k, acc, gb, cb, hk, rfl, rfl, hak, hown, hbl, hat⟩ := hrel
    clear hown2' hb2
    by_cases hlt : k < l.length
    · have hcx : wr.cell? ⟨g, o + k, none⟩ = some (.int .u8 (l[k].toNat : Int)) := (hbl.cell (by exact hg)).trans (hcell k hlt)
      have hxn : l[k].toNat < 256 := l[k].toNat_lt
      obtain ⟨x, hx⟩ : ∃ x : Nat, x = l[k].toNat := ⟨_, rfl⟩
      rw [← hx] at hcx hxn
      have HX : Hid (x = l[k].toNat) := hx
      clear hx
      rcases (show (x = 45) ∨ (x ≠ 45 ∧ x = 46) ∨ (x ≠ 45 ∧ x ≠ 46 ∧ x = 48 ∧ acc.length = 0) ∨ (x ≠ 45 ∧ x ≠ 46 ∧ x < 48) ∨ (57 < x) ∨ ((48 ≤ x ∧ x ≤ 48) ∧ 0 < acc.length) ∨ (48 < x ∧ x ≤ 57) by omega) with h | ⟨h1, h2⟩ | ⟨h1, h2, h3, h4⟩ | ⟨h1, h2, h3⟩ | h3 | ⟨h3, h4⟩ | ⟨h3, h4⟩
      · have HC := hat.skip hlt (by rw [← HX.out]; omega)
        subst h
        clear hat
        go_wp2
        go_roundw
        case rel => exact ⟨k + 1, acc, gb, cb, by omega, by go_num, rfl, by omega, hown, hbl, HC⟩
        case measure => simp [intOf]; omega
      · have HC := hat.skip hlt (by rw [← HX.out]; omega)
        subst h2
        clear hat h1
        go_wp2
        go_roundw
        case rel => exact ⟨k + 1, acc, gb, cb, by omega, by go_num, rfl, by omega, hown, hbl, HC⟩
        case measure => simp [intOf]; omega
      · obtain rfl : acc = [] := List.length_eq_zero_iff.1 h4
        have HC := hat.skip hlt (by rw [← HX.out]; exact Or.inr (Or.inr ⟨h3, rfl⟩))
        subst h3
        clear hat h1 h2 h4
        go_wp2
        go_roundw
        case rel => exact ⟨k + 1, [], gb, cb, by omega, by go_num, rfl, by simp, hown, hbl, HC⟩
        case measure => simp [intOf]; omega
      · have HC : Hid (acc = sig false l) := hat.stop hlt (by rw [← HX.out]; omega) (by rw [← HX.out]; omega) (by rw [← HX.out]; omega)
        have q1 : ((x : Int) == 45) = false := beq_eq_false_iff_ne.2 (by omega)
        have q2 : ((x : Int) == 46) = false := beq_eq_false_iff_ne.2 (by omega)
        have q3 : ((x : Int) == 48) = false := beq_eq_false_iff_ne.2 (by omega)
        clear hat
        go_wp2_with (at_builtin; refine wpList_append_own _ rfl _ _ 22 rfl w.heap.size 5 i0 (.int .u8 0) 1 1 Tryd.underlying22 hi hz0 hz1 hz2 rfl (by decide) _ _ _ rfl (hown.alloc _) ⟨wr.heap.size, 0, none⟩ 1 1 [Value.int .u8 101] rfl rfl (cell_one_new _ _ _) (by intro u' hu'; simp at hu'; subst hu'; rfl) (by unfold maxLen; omega) (by omega) (by have := hbl.size; simp; omega) ?_; rintro v3 w3 hown3 hgrow3 -; refine Hid.out ?_)
        refine Lib.hid ?_
        have hb3 : Below w.heap.size w w3 := (hbl.alloc (by have := hbl.size; omega) _).grown hgrow3 (by have := hbl.size; simp; omega) (fun k hk => (hown.lt k hk).1)
        obtain ⟨g3, c3, hv3⟩ := own_shape hown3 (by omega)
        rw [hv3] at hown3
        rw [hv3]
        clear hv3 hgrow3 hown hbl
        have hsz3 := hb3.size
        go_wp2_with (go_at_call 14; refine (Tryd.strconv_AppendInt_10 w.heap.size _ (wrap64 (point + 1)) wr0 wr1 _ _ w3 hown3 (by omega) (by omega) (hT.on hb3)).mono ?_; rintro e w4 ⟨v4, rfl, hown4, hnx4, -⟩; refine Hid.out ?_)
        refine Lib.hid ?_
        obtain ⟨L, hL⟩ : ∃ L, L = short l (wrap64 (point + 1)) := ⟨_, rfl⟩
        obtain ⟨g4, c4, hv4, hcv⟩ := own_string L hown4 (by rw [hL, short, ← HC.out]; simp [Lib.byteCells]) (by omega)
        have HL : Hid (L = short l (wrap64 (point + 1))) := hL
        clear hL hown4 hown3
        rw [hv4]
        go_wp2
        go_ret
        exact ⟨ret_str HL.out, hb3.trans hnx4⟩
      · have HC : Hid (acc = sig false l) := hat.stop hlt (by rw [← HX.out]; omega) (by rw [← HX.out]; omega) (by rw [← HX.out]; omega)
        have q1 : ((x : Int) == 45) = false := beq_eq_false_iff_ne.2 (by omega)
        have q2 : ((x : Int) == 46) = false := beq_eq_false_iff_ne.2 (by omega)
        have q3 : ((x : Int) == 48) = false := beq_eq_false_iff_ne.2 (by omega)
        clear hat
        go_wp2_with (at_builtin; refine wpList_append_own _ rfl _ _ 22 rfl w.heap.size 5 i0 (.int .u8 0) 1 1 Tryd.underlying22 hi hz0 hz1 hz2 rfl (by decide) _ _ _ rfl (hown.alloc _) ⟨wr.heap.size, 0, none⟩ 1 1 [Value.int .u8 101] rfl rfl (cell_one_new _ _ _) (by intro u' hu'; simp at hu'; subst hu'; rfl) (by unfold maxLen; omega) (by omega) (by have := hbl.size; simp; omega) ?_; rintro v3 w3 hown3 hgrow3 -; refine Hid.out ?_)
        refine Lib.hid ?_
        have hb3 : Below w.heap.size w w3 := (hbl.alloc (by have := hbl.size; omega) _).grown hgrow3 (by have := hbl.size; simp; omega) (fun k hk => (hown.lt k hk).1)
        obtain ⟨g3, c3, hv3⟩ := own_shape hown3 (by omega)
        rw [hv3] at hown3
        rw [hv3]
        clear hv3 hgrow3 hown hbl
        have hsz3 := hb3.size
        go_wp2_with (go_at_call 14; refine (Tryd.strconv_AppendInt_10 w.heap.size _ (wrap64 (point + 1)) wr0 wr1 _ _ w3 hown3 (by omega) (by omega) (hT.on hb3)).mono ?_; rintro e w4 ⟨v4, rfl, hown4, hnx4, -⟩; refine Hid.out ?_)
        refine Lib.hid ?_
        obtain ⟨L, hL⟩ : ∃ L, L = short l (wrap64 (point + 1)) := ⟨_, rfl⟩
        obtain ⟨g4, c4, hv4, hcv⟩ := own_string L hown4 (by rw [hL, short, ← HC.out]; simp [Lib.byteCells]) (by omega)
        have HL : Hid (L = short l (wrap64 (point + 1))) := hL
        clear hL hown4 hown3
        rw [hv4]
        go_wp2
        go_ret
        exact ⟨ret_str HL.out, hb3.trans hnx4⟩
      · obtain ⟨h3, h5⟩ := h3
        have HC := hat.take hlt (by rw [← HX.out]; rintro ⟨e1, rfl⟩; simp at h4) (by rw [← HX.out]; omega) (by rw [← HX.out]; omega)
        have q1 : ((x : Int) == 45) = false := beq_eq_false_iff_ne.2 (by omega)
        have q2 : ((x : Int) == 46) = false := beq_eq_false_iff_ne.2 (by omega)
        have q3 : ((x : Int) == 48) = true := beq_iff_eq.2 (by omega)
        have q4 : ((2 + acc.length : Int) == 2) = false := beq_eq_false_iff_ne.2 (by omega)
        clear hat
        go_wp2_with (at_builtin; refine wpList_append_own _ rfl _ _ 22 rfl w.heap.size 5 i0 (.int .u8 0) 1 1 Tryd.underlying22 hi hz0 hz1 hz2 rfl (by decide) _ _ _ rfl (hown.alloc _) ⟨wr.heap.size, 0, none⟩ 1 1 [Value.int .u8 (x : Int)] rfl rfl (cell_one_new _ _ _) (by intro u' hu'; simp at hu'; subst hu'; rfl) (by unfold maxLen; omega) (by omega) (by have := hbl.size; simp; omega) ?_; rintro v3 w3 hown3 hgrow3 -; refine Hid.out ?_)
        refine Lib.hid ?_
        have hb3 : Below w.heap.size w w3 := (hbl.alloc (by have := hbl.size; omega) _).grown hgrow3 (by have := hbl.size; simp; omega) (fun k hk => (hown.lt k hk).1)
        obtain ⟨g3, c3, hv3⟩ := own_shape hown3 (by omega)
        rw [hv3] at hown3
        rw [hv3]
        clear hv3 hgrow3 hown hbl
        have hown4 : w3.ownsRow w.heap.size 5 1 (.slice (some ⟨g3, 0, none⟩) (2 + (acc ++ [l[k]]).length) c3) (2 + (acc ++ [l[k]]).length) (Lib.byteCells (48 :: 46 :: (acc ++ [l[k]]))) := by
          have e : 2 + (acc ++ [l[k]]).length = 2 + acc.length + 1 := by simp; omega
          have e2 : Lib.byteCells (48 :: 46 :: (acc ++ [l[k]])) = Lib.byteCells (48 :: 46 :: acc) ++ [Value.int .u8 (x : Int)] := by rw [HX.out]; simp [Lib.byteCells]
          rw [e, e2]; exact hown3
        clear hown3
        go_wp2
        go_roundw
        case rel => exact ⟨k + 1, acc ++ [l[k]], g3, c3, by omega, by go_num, by simp; omega, by simp; omega, hown4, hb3, HC⟩
        case measure => simp [intOf]; omega
      · have HC := hat.take hlt (by rw [← HX.out]; rintro ⟨e1, rfl⟩; omega) (by rw [← HX.out]; omega) (by rw [← HX.out]; omega)
        have q1 : ((x : Int) == 45) = false := beq_eq_false_iff_ne.2 (by omega)
        have q2 : ((x : Int) == 46) = false := beq_eq_false_iff_ne.2 (by omega)
        have q3 : ((x : Int) == 48) = false := beq_eq_false_iff_ne.2 (by omega)
        clear hat
        go_wp2_with (at_builtin; refine wpList_append_own _ rfl _ _ 22 rfl w.heap.size 5 i0 (.int .u8 0) 1 1 Tryd.underlying22 hi hz0 hz1 hz2 rfl (by decide) _ _ _ rfl (hown.alloc _) ⟨wr.heap.size, 0, none⟩ 1 1 [Value.int .u8 (x : Int)] rfl rfl (cell_one_new _ _ _) (by intro u' hu'; simp at hu'; subst hu'; rfl) (by unfold maxLen; omega) (by omega) (by have := hbl.size; simp; omega) ?_; rintro v3 w3 hown3 hgrow3 -; refine Hid.out ?_)
        refine Lib.hid ?_
        have hb3 : Below w.heap.size w w3 := (hbl.alloc (by have := hbl.size; omega) _).grown hgrow3 (by have := hbl.size; simp; omega) (fun k hk => (hown.lt k hk).1)
        obtain ⟨g3, c3, hv3⟩ := own_shape hown3 (by omega)
        rw [hv3] at hown3
        rw [hv3]
        clear hv3 hgrow3 hown hbl
        have hown4 : w3.ownsRow w.heap.size 5 1 (.slice (some ⟨g3, 0, none⟩) (2 + (acc ++ [l[k]]).length) c3) (2 + (acc ++ [l[k]]).length) (Lib.byteCells (48 :: 46 :: (acc ++ [l[k]]))) := by
          have e : 2 + (acc ++ [l[k]]).length = 2 + acc.length + 1 := by simp; omega
          have e2 : Lib.byteCells (48 :: 46 :: (acc ++ [l[k]])) = Lib.byteCells (48 :: 46 :: acc) ++ [Value.int .u8 (x : Int)] := by rw [HX.out]; simp [Lib.byteCells]
          rw [e, e2]; exact hown3
        clear hown3
        go_wp2
        go_roundw
        case rel => exact ⟨k + 1, acc ++ [l[k]], g3, c3, by omega, by go_num, by simp; omega, by simp; omega, hown4, hb3, HC⟩
        case measure => simp [intOf]; omega
    · have HC : Hid (acc = sig false l) := hat.fin hlt
      clear hat
      go_wp2_with (at_builtin; refine wpList_append_own _ rfl _ _ 22 rfl w.heap.size 5 i0 (.int .u8 0) 1 1 Tryd.underlying22 hi hz0 hz1 hz2 rfl (by decide) _ _ _ rfl (hown.alloc _) ⟨wr.heap.size, 0, none⟩ 1 1 [Value.int .u8 101] rfl rfl (cell_one_new _ _ _) (by intro u' hu'; simp at hu'; subst hu'; rfl) (by unfold maxLen; omega) (by omega) (by have := hbl.size; simp; omega) ?_; rintro v3 w3 hown3 hgrow3 -; refine Hid.out ?_)
      refine Lib.hid ?_
      have hb3 : Below w.heap.size w w3 := (hbl.alloc (by have := hbl.size; omega) _).grown hgrow3 (by have := hbl.size; simp; omega) (fun k hk => (hown.lt k hk).1)
      obtain ⟨g3, c3, hv3⟩ := own_shape hown3 (by omega)
      rw [hv3] at hown3
      rw [hv3]
      clear hv3 hgrow3 hown hbl
      have hsz3 := hb3.size
      go_wp2_with (go_at_call 14; refine (Tryd.strconv_AppendInt_10 w.heap.size _ (wrap64 (point + 1)) wr0 wr1 _ _ w3 hown3 (by omega) (by omega) (hT.on hb3)).mono ?_; rintro e w4 ⟨v4, rfl, hown4, hnx4, -⟩; refine Hid.out ?_)
      refine Lib.hid ?_
      obtain ⟨L, hL⟩ : ∃ L, L = short l (wrap64 (point + 1)) := ⟨_, rfl⟩
      obtain ⟨g4, c4, hv4, hcv⟩ := own_string L hown4 (by rw [hL, short, ← HC.out]; simp [Lib.byteCells]) (by omega)
      have HL : Hid (L = short l (wrap64 (point + 1))) := hL
      clear hL hown4 hown3
      rw [hv4]
      go_wp2
      go_ret
      exact ⟨ret_str HL.out, hb3.trans hnx4⟩

/-- the same at a nil slice. -/
theorem short_nil (point : Int) (w : World)
    (htab : Lib.TabIs Tryd.prog w powName .u64 Lib.pow10Tab) :
    Calls Tryd.prog 12 #[.slice none 0 0, .int .i64 point] w fun e w' => e = .returned (.string ⟨(short [] (wrap64 (point + 1))).toArray⟩) ∧ Below w.heap.size w w' := by
  obtain ⟨i0, hi, hz0, hz1, hz2⟩ := info_parts infoByte
  have hT := Lib.tabBelow_of_tabIs htab
  obtain ⟨wr0, wr1⟩ : -9223372036854775808 ≤ wrap64 (point + 1) ∧ wrap64 (point + 1) ≤ 9223372036854775807 := by unfold wrap64; omega
  have lw := Lib.itoa_length_le (wrap64 (point + 1)) wr0 wr1
  go_enter Tryd.func12, Tryd.ntmps12
  go_wp2_with (at_make; refine wpList_make_own _ rfl _ _ 22 rfl w.heap.size 5 i0 (.int .u8 0) 1 Tryd.underlying22 hi hz0 hz1 _ _ _ 32 rfl rfl rfl (by rw [hz2]; decide) (by decide) (Nat.le_refl _) ?_; intro w1 hown1 hgrow1; refine Hid.out ?_)
  refine Lib.hid ?_
  have hb1 : Below w.heap.size w w1 := (Below.refl _ _).grown hgrow1 (Nat.le_refl _) (fun k h => by cases h)
  go_wp2_with (at_builtin; refine Lib.wpList_append_own_string _ rfl _ _ 22 9 rfl w.heap.size 5 i0 Tryd.underlying22 Tryd.underlying9 hi hz0 hz1 hz2 _ _ _ rfl hown1 ⟨#[48, 46]⟩ rfl (by decide) (by decide) (by have := hb1.size; omega) ?_; rintro v2 wr hown2 hgrow2 -; refine Hid.out ?_)
  refine Lib.hid ?_
  have hbl : Below w.heap.size w wr := hb1.grown hgrow2 (by have := hb1.size; omega) (fun k hk => (hown1.lt k hk).1)
  have hown2' : wr.ownsRow w.heap.size 5 1 v2 2 (Lib.byteCells [48, 46]) := hown2
  clear hown2 hgrow2 hgrow1 hown1 hb1 w1
  obtain ⟨g2, c2, hv2⟩ := own_shape hown2' (by decide)
  rw [hv2] at hown2'
  rw [hv2]
  clear hv2
  have hown := hown2'
  clear hown2'
  go_wp2_with fail
  refine wp_loop_rounds 1 ?_
  rw [rounds_succ]
  go_wp2_with (at_builtin; refine wpList_append_own _ rfl _ _ 22 rfl w.heap.size 5 i0 (.int .u8 0) 1 1 Tryd.underlying22 hi hz0 hz1 hz2 rfl (by decide) _ _ _ rfl (hown.alloc _) ⟨wr.heap.size, 0, none⟩ 1 1 [Value.int .u8 101] rfl rfl (cell_one_new _ _ _) (by intro u' hu'; simp at hu'; subst hu'; rfl) (by unfold maxLen; omega) (by omega) (by have := hbl.size; simp; omega) ?_; rintro v3 w3 hown3 hgrow3 -; refine Hid.out ?_)
  refine Lib.hid ?_
  have hb3 : Below w.heap.size w w3 := (hbl.alloc (by have := hbl.size; omega) _).grown hgrow3 (by have := hbl.size; simp; omega) (fun k hk => (hown.lt k hk).1)
  obtain ⟨g3, c3, hv3⟩ := own_shape hown3 (by omega)
  rw [hv3] at hown3
  rw [hv3]
  clear hv3 hgrow3 hown hbl
  have hsz3 := hb3.size
  go_wp2_with (go_at_call 14; refine (Tryd.strconv_AppendInt_10 w.heap.size _ (wrap64 (point + 1)) wr0 wr1 _ _ w3 hown3 (by omega) (by omega) (hT.on hb3)).mono ?_; rintro e w4 ⟨v4, rfl, hown4, hnx4, -⟩; refine Hid.out ?_)
  refine Lib.hid ?_
  obtain ⟨L, hL⟩ : ∃ L, L = short [] (wrap64 (point + 1)) := ⟨_, rfl⟩
  obtain ⟨g4, c4, hv4, hcv⟩ := own_string L hown4 (by rw [hL, short]; simp [Lib.byteCells, sig]) (by omega)
  have HL : Hid (L = short [] (wrap64 (point + 1))) := hL
  clear hL hown4 hown3
  rw [hv4]
  go_wp2
  go_ret
  exact ⟨ret_str HL.out, hb3.trans hnx4⟩
theorem zzshort_any (g o cap : Nat) (l : List UInt8) (point : Int) (w : World)
    (hcell : ∀ j (hj : j < l.length), w.cell? ⟨g, o + j, none⟩ = some (.int .u8 (l[j].toNat : Int))) (hg : g < w.heap.size) (hlen : l.length ≤ 1048576)
    (htab : Lib.TabIs Tryd.prog w powName .u64 Lib.pow10Tab) :
    Calls Tryd.prog 7 #[.slice (some ⟨g, o, none⟩) l.length cap, .int .i64 point] w fun e w' => e = .returned (.string ⟨(short l (wrap64 (point + 1))).toArray⟩) ∧ Below w.heap.size w w' := by
  go_enter Tryd.func7, Tryd.ntmps7
  go_wp2_with (go_at_call 12; refine (short_any g o cap l point _ hcell hg hlen htab).mono ?_; rintro e w' ⟨rfl, hb⟩)
  go_ret
  exact ⟨rfl, hb⟩

theorem zzshort_nil (point : Int) (w : World)
    (htab : Lib.TabIs Tryd.prog w powName .u64 Lib.pow10Tab) :
    Calls Tryd.prog 7 #[.slice none 0 0, .int .i64 point] w fun e w' => e = .returned (.string ⟨(short [] (wrap64 (point + 1))).toArray⟩) ∧ Below w.heap.size w w' := by
  go_enter Tryd.func7, Tryd.ntmps7
  go_wp2_with (go_at_call 12; refine (short_nil point _ htab).mono ?_; rintro e w' ⟨rfl, hb⟩)
  go_ret
  exact ⟨rfl, hb⟩
end Go.Proofs.Qxb6600357aDoor.Walks

