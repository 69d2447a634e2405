/-
  THE WALK of FnUnquoteInvertsQuote (function 8).
-/
import Derived.Test.Qxb6600368aUnquote
namespace Go.Proofs.Qxb6600368a.Walks
open Go.Shelf Go.RowKit
open Go.Proofs.Qxb6600368a.Plain

theorem infoByte : (Try.prog.info? 5).map (fun i => (i.zero, i.size, i.bytes)) = some (some (.int .u8 0), 1, 1) := by kernel_rfl

theorem own_shape {w : World} {B e : Nat} {v : Value} {n : Nat} {xs : List Value} (h : w.ownsRow B e 1 v n xs) (hn : 0 < n) : ∃ g c, v = .slice (some ⟨g, 0, none⟩) n c := by
  rcases h.2 with ⟨_, h0⟩ | ⟨g, cap, cur, hv, _⟩
  · omega
  · exact ⟨g, cap, hv⟩

/-- 'string(b)', b an owned row of bytes. -/
theorem own_string {w : World} {B : Nat} {v : Value} {n : Nat} {xs : List Value} (L : List UInt8) (h : w.ownsRow B 5 1 v n xs) (hx : xs = Lib.byteCells L) (hn : 0 < n) :
    ∃ g c, v = .slice (some ⟨g, 0, none⟩) L.length c ∧ (convert 32 9 (.slice (some ⟨g, 0, none⟩) L.length c)).run Try.prog w = .ok (.string ⟨L.toArray⟩) w := by
  obtain ⟨g, c, rfl⟩ := own_shape h hn
  have hl := h.1
  rw [hx, Lib.byteCells_length] at hl
  obtain rfl : L.length = n := by omega
  refine ⟨g, c, rfl, ?_⟩
  exact run_convert_bytes_back (P := Try.prog) w 32 9 5 ⟨g, 0, none⟩ c L Try.underlying32 Try.underlying5 Try.underlying9 (fun j hj => h.cells (g := g) rfl j _ (by rw [hx]; simp [Lib.byteCells, hj]))

theorem cells_snoc (l : List UInt8) (c : UInt8) : Lib.byteCells l ++ [.int .u8 (c.toNat : Int)] = Lib.byteCells (l ++ [c]) := by simp [Lib.byteCells]

set_option maxHeartbeats 1000000 in
theorem invert_long (a0 : ByteArray) (a1 : Bool) (w0 : a0.size ≤ maxLen) (hbig : 1048576 < a0.size) (w : World) :
    Calls Try.prog 8 #[.string a0, .bool a1] w fun e w' => e = .returned (.bool true) ∧ Below w.heap.size w w' := by
  unfold maxLen at w0
  go_enter Try.func8, Try.ntmps8
  go_wp2
  go_ret
  exact ⟨rfl, Below.refl _ _⟩

set_option maxHeartbeats 2000000 in
set_option maxRecDepth 100000 in
theorem invert_true (T : ByteArray) (hn : T.size ≤ 1048576) (w : World) :
    Calls Try.prog 8 #[.string T, .bool true] w fun e w' => e = .returned (.bool true) ∧ Below w.heap.size w w' := by
  obtain ⟨i0, hi, hz0, hz1, hz2⟩ := info_parts infoByte
  obtain ⟨t, hT⟩ : ∃ t : List UInt8, T = ⟨t.toArray⟩ := ⟨T.data.toList, by simp⟩
  have hsz : T.size = t.length := by rw [hT, byteArray_size]
  have hget : ∀ i (h : i < T.size) (h' : i < t.length), T[i] = t[i] := by subst hT; exact fun i h h' => rfl
  have HT := Lib.hid hT
  have HZ := Lib.hid hsz
  have HG := Lib.hid hget
  clear hT hget hsz
  have hqk : Hid (∀ k, (qp true t k).length ≤ 2 * T.size + 1) := fun k => by
    have h1 := qp_len true t k
    have := HZ.out
    omega
  go_enter Try.func8, Try.ntmps8
  go_wp2_with (first | (at_make; refine wpList_make_own _ rfl _ _ 32 rfl w.heap.size 5 i0 (.int .u8 0) 1 Try.underlying32 hi hz0 hz1 _ _ _ (2 * T.size + 2) rfl rfl (by omega) (by rw [hz2]; omega) (by unfold maxLen; omega) (Nat.le_refl _) ?_; intro w1 hown1 hgrow1; refine Hid.out ?_) | go_in)
  refine Lib.hid ?_
  have hb1 : Below w.heap.size w w1 := (Below.refl _ _).grown hgrow1 (Nat.le_refl _) (fun k h => by cases h)
  have hs1 := hb1.size
  go_wp2_with (at_builtin; refine wpList_append_own _ rfl (.tmp 22) (.tmp 23) 32 rfl w.heap.size 5 i0 (.int .u8 0) 1 1 Try.underlying32 hi hz0 hz1 hz2 rfl (by decide) _ _ _ rfl (hown1.alloc _) ⟨w1.heap.size, 0, none⟩ 1 1 [Value.int .u8 34] rfl rfl (cell_one_new _ _ _) (by intro u' hu'; simp at hu'; subst hu'; rfl) (by unfold maxLen; omega) (by omega) (by simp; omega) ?_; rintro v2 w2 hown2 hgrow2 -; refine Hid.out ?_)
  refine Lib.hid ?_
  have hb2 : Below w.heap.size w w2 := (hb1.alloc hs1 _).grown hgrow2 (by simp; omega) (fun k hk => (hown1.lt k hk).1)
  rw [Nat.zero_add, List.nil_append] at hown2
  obtain ⟨g2, c2, hv2⟩ := own_shape hown2 (by decide)
  rw [hv2] at hown2
  rw [hv2]
  have hown2' : w2.ownsRow w.heap.size 5 1 (.slice (some ⟨g2, 0, none⟩) (qp true t 0).length c2) (qp true t 0).length (Lib.byteCells (qp true t 0)) := by rw [qp_zero]; exact hown2
  clear hown2 hgrow2 hgrow1 hown1 hb1 hs1 hv2
  go_wp2_with fail
  go_loopw [5, 6] (fun v i wr => ∃ (k g3 c3 : Nat), k ≤ T.size ∧ i = .int .i64 k ∧ v = .slice (some ⟨g3, 0, none⟩) (qp true t k).length c3 ∧
      wr.ownsRow w.heap.size 5 1 (.slice (some ⟨g3, 0, none⟩) (qp true t k).length c3) (qp true t k).length (Lib.byteCells (qp true t k)) ∧ Below w.heap.size w wr) (fun _ i _ => T.size - (intOf i).toNat)
  case atStart => exact ⟨0, g2, c2, Nat.zero_le _, rfl, rfl, hown2', hb2⟩
  case round =>
    obtain ⟨k, g3, c3, hk, rfl, rfl, hown, hbl⟩ := hrel
    have hqk1 := hqk.out k
    have hsb := hbl.size
    clear hown2' hb2
    by_cases hlt : k < T.size
    · have hkt : k < t.length := by rw [← HZ.out]; exact hlt
      have hx := HG.out k hlt hkt
      have HS : Hid (qp true t (k + 1) = qp true t k ++ esc true t[k]) := qp_succ true t k hkt
      have HE : Hid (esc true t[k] = [92, t[k]]) := esc_two (Or.inl rfl)
      go_wp2_with (at_builtin; refine wpList_append_own _ rfl (.tmp 43) (.tmp 44) 32 rfl w.heap.size 5 i0 (.int .u8 0) 1 1 Try.underlying32 hi hz0 hz1 hz2 rfl (by decide) _ _ _ rfl (hown.alloc _) ⟨wr.heap.size, 0, none⟩ 1 1 [Value.int .u8 92] rfl rfl (cell_one_new _ _ _) (by intro u' hu'; simp at hu'; subst hu'; rfl) (by unfold maxLen; omega) (by omega) (by simp; omega) ?_; rintro v4 w4 hown4 hgrow4 -; refine Hid.out ?_)
      refine Lib.hid ?_
      have hb4 : Below w.heap.size w w4 := (hbl.alloc (by omega) _).grown hgrow4 (by simp; omega) (fun k hk => (hown.lt k hk).1)
      have hs4 := hb4.size
      obtain ⟨g4, c4, hv4⟩ := own_shape hown4 (by omega)
      rw [hv4] at hown4
      rw [hv4]
      clear hgrow4 hown hbl hv4
      go_wp2_with (at_builtin; refine wpList_append_own _ rfl (.tmp 46) (.tmp 48) 32 rfl w.heap.size 5 i0 (.int .u8 0) 1 1 Try.underlying32 hi hz0 hz1 hz2 rfl (by decide) _ _ _ rfl (hown4.alloc _) ⟨w4.heap.size, 0, none⟩ 1 1 [Value.int .u8 (t[k].toNat : Int)] rfl rfl (cell_one_new _ _ _) (by intro u' hu'; simp at hu'; subst hu'; rfl) (by unfold maxLen; omega) (by omega) (by simp; omega) ?_; rintro v5 w5 hown5 hgrow5 -; refine Hid.out ?_)
      refine Lib.hid ?_
      have hb5 : Below w.heap.size w w5 := (hb4.alloc (by omega) _).grown hgrow5 (by simp; omega) (fun k hk => (hown4.lt k hk).1)
      have hs5 := hb5.size
      obtain ⟨g5, c5, hv5⟩ := own_shape hown5 (by omega)
      rw [hv5] at hown5
      rw [hv5]
      clear hgrow5 hown4 hb4 hv5
      have hown6 : w5.ownsRow w.heap.size 5 1 (.slice (some ⟨g5, 0, none⟩) (qp true t (k + 1)).length c5) (qp true t (k + 1)).length (Lib.byteCells (qp true t (k + 1))) := by
        have e : esc true t[k] = [92, t[k]] := HE.out
        have e1 : (qp true t (k + 1)).length = (qp true t k).length + 1 + 1 := by rw [HS.out, e]; simp
        have e2 : Lib.byteCells (qp true t (k + 1)) = Lib.byteCells (qp true t k) ++ [Value.int .u8 92] ++ [Value.int .u8 (t[k].toNat : Int)] := by rw [HS.out, e]; simp [Lib.byteCells]
        rw [e1, e2]; exact hown5
      have hlen6 : (qp true t (k + 1)).length = (qp true t k).length + 1 + 1 := by rw [HS.out, HE.out]; simp
      have HL6 := Lib.hid hlen6
      clear hlen6 hown5
      go_wp2
      go_roundw
      case rel => exact ⟨k + 1, g5, c5, by omega, by go_num, by rw [HL6.out], hown6, hb5⟩
      case measure => simp [intOf]; omega
    · have hqe : Hid (qp true t k ++ [34] = quotedOf true t) := qp_end true t k (by rw [← HZ.out]; exact hlt)
      go_wp2_with (at_builtin; refine wpList_append_own _ rfl (.tmp 50) (.tmp 51) 32 rfl w.heap.size 5 i0 (.int .u8 0) 1 1 Try.underlying32 hi hz0 hz1 hz2 rfl (by decide) _ _ _ rfl (hown.alloc _) ⟨wr.heap.size, 0, none⟩ 1 1 [Value.int .u8 34] rfl rfl (cell_one_new _ _ _) (by intro u' hu'; simp at hu'; subst hu'; rfl) (by unfold maxLen; omega) (by omega) (by simp; omega) ?_; rintro v5 w5 hown5 hgrow5 -; refine Hid.out ?_)
      refine Lib.hid ?_
      have hb5 : Below w.heap.size w w5 := (hbl.alloc (by omega) _).grown hgrow5 (by simp; omega) (fun k hk => (hown.lt k hk).1)
      obtain ⟨L, hL⟩ : ∃ L, L = quotedOf true t := ⟨_, rfl⟩
      obtain ⟨g6, c6, hv6, hcv⟩ := own_string L hown5 (by rw [hL, ← hqe.out, Lib.byteCells_append]; rfl) (by omega)
      obtain ⟨V, hV⟩ : ∃ V : ByteArray, V = ⟨L.toArray⟩ := ⟨_, rfl⟩
      rw [← hV] at hcv
      rw [hv6]
      rw [hL] at hV
      have HV := Lib.hid hV
      clear hL hV hv6 hown5 hown hgrow5
      go_wp2_with fail
      refine (zzunquote_any true t V HV.out (by rw [← HZ.out]; exact hn) _).mono ?_
      rintro e w7 ⟨rfl, hb7⟩
      rw [← HT.out]
      have hb8 := hb5.trans (hb7.mono hb5.size)
      go_wp2
      go_ret
      exact ⟨rfl, hb8⟩

set_option maxHeartbeats 2000000 in
set_option maxRecDepth 100000 in
theorem invert_false (T : ByteArray) (hn : T.size ≤ 1048576) (w : World) :
    Calls Try.prog 8 #[.string T, .bool false] w fun e w' => e = .returned (.bool true) ∧ Below w.heap.size w w' := by
  obtain ⟨i0, hi, hz0, hz1, hz2⟩ := info_parts infoByte
  obtain ⟨t, hT⟩ : ∃ t : List UInt8, T = ⟨t.toArray⟩ := ⟨T.data.toList, by simp⟩
  have hsz : T.size = t.length := by rw [hT, byteArray_size]
  have hget : ∀ i (h : i < T.size) (h' : i < t.length), T[i] = t[i] := by subst hT; exact fun i h h' => rfl
  have HT := Lib.hid hT
  have HZ := Lib.hid hsz
  have HG := Lib.hid hget
  clear hT hget hsz
  have hqk : Hid (∀ k, (qp false t k).length ≤ 2 * T.size + 1) := fun k => by
    have h1 := qp_len false t k
    have := HZ.out
    omega
  go_enter Try.func8, Try.ntmps8
  go_wp2_with (first | (at_make; refine wpList_make_own _ rfl _ _ 32 rfl w.heap.size 5 i0 (.int .u8 0) 1 Try.underlying32 hi hz0 hz1 _ _ _ (2 * T.size + 2) rfl rfl (by omega) (by rw [hz2]; omega) (by unfold maxLen; omega) (Nat.le_refl _) ?_; intro w1 hown1 hgrow1; refine Hid.out ?_) | go_in)
  refine Lib.hid ?_
  have hb1 : Below w.heap.size w w1 := (Below.refl _ _).grown hgrow1 (Nat.le_refl _) (fun k h => by cases h)
  have hs1 := hb1.size
  go_wp2_with (at_builtin; refine wpList_append_own _ rfl (.tmp 22) (.tmp 23) 32 rfl w.heap.size 5 i0 (.int .u8 0) 1 1 Try.underlying32 hi hz0 hz1 hz2 rfl (by decide) _ _ _ rfl (hown1.alloc _) ⟨w1.heap.size, 0, none⟩ 1 1 [Value.int .u8 34] rfl rfl (cell_one_new _ _ _) (by intro u' hu'; simp at hu'; subst hu'; rfl) (by unfold maxLen; omega) (by omega) (by simp; omega) ?_; rintro v2 w2 hown2 hgrow2 -; refine Hid.out ?_)
  refine Lib.hid ?_
  have hb2 : Below w.heap.size w w2 := (hb1.alloc hs1 _).grown hgrow2 (by simp; omega) (fun k hk => (hown1.lt k hk).1)
  rw [Nat.zero_add, List.nil_append] at hown2
  obtain ⟨g2, c2, hv2⟩ := own_shape hown2 (by decide)
  rw [hv2] at hown2
  rw [hv2]
  have hown2' : w2.ownsRow w.heap.size 5 1 (.slice (some ⟨g2, 0, none⟩) (qp false t 0).length c2) (qp false t 0).length (Lib.byteCells (qp false t 0)) := by rw [qp_zero]; exact hown2
  clear hown2 hgrow2 hgrow1 hown1 hb1 hs1 hv2
  go_wp2_with fail
  go_loopw [5, 6] (fun v i wr => ∃ (k g3 c3 : Nat), k ≤ T.size ∧ i = .int .i64 k ∧ v = .slice (some ⟨g3, 0, none⟩) (qp false t k).length c3 ∧
      wr.ownsRow w.heap.size 5 1 (.slice (some ⟨g3, 0, none⟩) (qp false t k).length c3) (qp false t k).length (Lib.byteCells (qp false t k)) ∧ Below w.heap.size w wr) (fun _ i _ => T.size - (intOf i).toNat)
  case atStart => exact ⟨0, g2, c2, Nat.zero_le _, rfl, rfl, hown2', hb2⟩
  case round =>
    obtain ⟨k, g3, c3, hk, rfl, rfl, hown, hbl⟩ := hrel
    have hqk1 := hqk.out k
    have hsb := hbl.size
    clear hown2' hb2
    by_cases hlt : k < T.size
    · have hkt : k < t.length := by rw [← HZ.out]; exact hlt
      have hx := HG.out k hlt hkt
      have HS : Hid (qp false t (k + 1) = qp false t k ++ esc false t[k]) := qp_succ false t k hkt
      rcases (show (t[k].toNat = 34) ∨ (t[k].toNat ≠ 34 ∧ t[k].toNat = 92) ∨ ¬ (false = true ∨ t[k].toNat = 34 ∨ t[k].toNat = 92) by simp; omega) with he | ⟨he1, he⟩ | he
      · have HE : Hid (esc false t[k] = [92, t[k]]) := esc_two (Or.inr (Or.inl he))
        have q1 : ((t[k].toNat : Int) == 34) = true := beq_iff_eq.2 (by omega)
        clear he
        go_wp2_with (at_builtin; refine wpList_append_own _ rfl (.tmp 43) (.tmp 44) 32 rfl w.heap.size 5 i0 (.int .u8 0) 1 1 Try.underlying32 hi hz0 hz1 hz2 rfl (by decide) _ _ _ rfl (hown.alloc _) ⟨wr.heap.size, 0, none⟩ 1 1 [Value.int .u8 92] rfl rfl (cell_one_new _ _ _) (by intro u' hu'; simp at hu'; subst hu'; rfl) (by unfold maxLen; omega) (by omega) (by simp; omega) ?_; rintro v4 w4 hown4 hgrow4 -; refine Hid.out ?_)
        refine Lib.hid ?_
        have hb4 : Below w.heap.size w w4 := (hbl.alloc (by omega) _).grown hgrow4 (by simp; omega) (fun k hk => (hown.lt k hk).1)
        have hs4 := hb4.size
        obtain ⟨g4, c4, hv4⟩ := own_shape hown4 (by omega)
        rw [hv4] at hown4
        rw [hv4]
        clear hgrow4 hown hbl hv4
        go_wp2_with (at_builtin; refine wpList_append_own _ rfl (.tmp 46) (.tmp 48) 32 rfl w.heap.size 5 i0 (.int .u8 0) 1 1 Try.underlying32 hi hz0 hz1 hz2 rfl (by decide) _ _ _ rfl (hown4.alloc _) ⟨w4.heap.size, 0, none⟩ 1 1 [Value.int .u8 (t[k].toNat : Int)] rfl rfl (cell_one_new _ _ _) (by intro u' hu'; simp at hu'; subst hu'; rfl) (by unfold maxLen; omega) (by omega) (by simp; omega) ?_; rintro v5 w5 hown5 hgrow5 -; refine Hid.out ?_)
        refine Lib.hid ?_
        have hb5 : Below w.heap.size w w5 := (hb4.alloc (by omega) _).grown hgrow5 (by simp; omega) (fun k hk => (hown4.lt k hk).1)
        have hs5 := hb5.size
        obtain ⟨g5, c5, hv5⟩ := own_shape hown5 (by omega)
        rw [hv5] at hown5
        rw [hv5]
        clear hgrow5 hown4 hb4 hv5
        have hown6 : w5.ownsRow w.heap.size 5 1 (.slice (some ⟨g5, 0, none⟩) (qp false t (k + 1)).length c5) (qp false t (k + 1)).length (Lib.byteCells (qp false t (k + 1))) := by
          have e : esc false t[k] = [92, t[k]] := HE.out
          have e1 : (qp false t (k + 1)).length = (qp false t k).length + 1 + 1 := by rw [HS.out, e]; simp
          have e2 : Lib.byteCells (qp false t (k + 1)) = Lib.byteCells (qp false t k) ++ [Value.int .u8 92] ++ [Value.int .u8 (t[k].toNat : Int)] := by rw [HS.out, e]; simp [Lib.byteCells]
          rw [e1, e2]; exact hown5
        have hlen6 : (qp false t (k + 1)).length = (qp false t k).length + 1 + 1 := by rw [HS.out, HE.out]; simp
        have HL6 := Lib.hid hlen6
        clear hlen6 hown5
        go_wp2
        go_roundw
        case rel => exact ⟨k + 1, g5, c5, by omega, by go_num, by rw [HL6.out], hown6, hb5⟩
        case measure => simp [intOf]; omega
      · have HE : Hid (esc false t[k] = [92, t[k]]) := esc_two (Or.inr (Or.inr he))
        have q1 : ((t[k].toNat : Int) == 34) = false := beq_eq_false_iff_ne.2 (by omega)
        have q2 : ((t[k].toNat : Int) == 92) = true := beq_iff_eq.2 (by omega)
        clear he he1
        go_wp2_with (at_builtin; refine wpList_append_own _ rfl (.tmp 43) (.tmp 44) 32 rfl w.heap.size 5 i0 (.int .u8 0) 1 1 Try.underlying32 hi hz0 hz1 hz2 rfl (by decide) _ _ _ rfl (hown.alloc _) ⟨wr.heap.size, 0, none⟩ 1 1 [Value.int .u8 92] rfl rfl (cell_one_new _ _ _) (by intro u' hu'; simp at hu'; subst hu'; rfl) (by unfold maxLen; omega) (by omega) (by simp; omega) ?_; rintro v4 w4 hown4 hgrow4 -; refine Hid.out ?_)
        refine Lib.hid ?_
        have hb4 : Below w.heap.size w w4 := (hbl.alloc (by omega) _).grown hgrow4 (by simp; omega) (fun k hk => (hown.lt k hk).1)
        have hs4 := hb4.size
        obtain ⟨g4, c4, hv4⟩ := own_shape hown4 (by omega)
        rw [hv4] at hown4
        rw [hv4]
        clear hgrow4 hown hbl hv4
        go_wp2_with (at_builtin; refine wpList_append_own _ rfl (.tmp 46) (.tmp 48) 32 rfl w.heap.size 5 i0 (.int .u8 0) 1 1 Try.underlying32 hi hz0 hz1 hz2 rfl (by decide) _ _ _ rfl (hown4.alloc _) ⟨w4.heap.size, 0, none⟩ 1 1 [Value.int .u8 (t[k].toNat : Int)] rfl rfl (cell_one_new _ _ _) (by intro u' hu'; simp at hu'; subst hu'; rfl) (by unfold maxLen; omega) (by omega) (by simp; omega) ?_; rintro v5 w5 hown5 hgrow5 -; refine Hid.out ?_)
        refine Lib.hid ?_
        have hb5 : Below w.heap.size w w5 := (hb4.alloc (by omega) _).grown hgrow5 (by simp; omega) (fun k hk => (hown4.lt k hk).1)
        have hs5 := hb5.size
        obtain ⟨g5, c5, hv5⟩ := own_shape hown5 (by omega)
        rw [hv5] at hown5
        rw [hv5]
        clear hgrow5 hown4 hb4 hv5
        have hown6 : w5.ownsRow w.heap.size 5 1 (.slice (some ⟨g5, 0, none⟩) (qp false t (k + 1)).length c5) (qp false t (k + 1)).length (Lib.byteCells (qp false t (k + 1))) := by
          have e : esc false t[k] = [92, t[k]] := HE.out
          have e1 : (qp false t (k + 1)).length = (qp false t k).length + 1 + 1 := by rw [HS.out, e]; simp
          have e2 : Lib.byteCells (qp false t (k + 1)) = Lib.byteCells (qp false t k) ++ [Value.int .u8 92] ++ [Value.int .u8 (t[k].toNat : Int)] := by rw [HS.out, e]; simp [Lib.byteCells]
          rw [e1, e2]; exact hown5
        have hlen6 : (qp false t (k + 1)).length = (qp false t k).length + 1 + 1 := by rw [HS.out, HE.out]; simp
        have HL6 := Lib.hid hlen6
        clear hlen6 hown5
        go_wp2
        go_roundw
        case rel => exact ⟨k + 1, g5, c5, by omega, by go_num, by rw [HL6.out], hown6, hb5⟩
        case measure => simp [intOf]; omega
      · have HE : Hid (esc false t[k] = [t[k]]) := esc_one he
        have q1 : ((t[k].toNat : Int) == 34) = false := beq_eq_false_iff_ne.2 (by omega)
        have q2 : ((t[k].toNat : Int) == 92) = false := beq_eq_false_iff_ne.2 (by omega)
        clear he
        go_wp2_with (at_builtin; refine wpList_append_own _ rfl (.tmp 46) (.tmp 48) 32 rfl w.heap.size 5 i0 (.int .u8 0) 1 1 Try.underlying32 hi hz0 hz1 hz2 rfl (by decide) _ _ _ rfl (hown.alloc _) ⟨wr.heap.size, 0, none⟩ 1 1 [Value.int .u8 (t[k].toNat : Int)] rfl rfl (cell_one_new _ _ _) (by intro u' hu'; simp at hu'; subst hu'; rfl) (by unfold maxLen; omega) (by omega) (by simp; omega) ?_; rintro v5 w5 hown5 hgrow5 -; refine Hid.out ?_)
        refine Lib.hid ?_
        have hb5 : Below w.heap.size w w5 := (hbl.alloc (by omega) _).grown hgrow5 (by simp; omega) (fun k hk => (hown.lt k hk).1)
        have hs5 := hb5.size
        obtain ⟨g5, c5, hv5⟩ := own_shape hown5 (by omega)
        rw [hv5] at hown5
        rw [hv5]
        clear hgrow5 hown hbl hv5
        have hown6 : w5.ownsRow w.heap.size 5 1 (.slice (some ⟨g5, 0, none⟩) (qp false t (k + 1)).length c5) (qp false t (k + 1)).length (Lib.byteCells (qp false t (k + 1))) := by
          have e : esc false t[k] = [t[k]] := HE.out
          have e1 : (qp false t (k + 1)).length = (qp false t k).length + 1 := by rw [HS.out, e]; simp
          have e2 : Lib.byteCells (qp false t (k + 1)) = Lib.byteCells (qp false t k) ++ [Value.int .u8 (t[k].toNat : Int)] := by rw [HS.out, e]; simp [Lib.byteCells]
          rw [e1, e2]; exact hown5
        have hlen6 : (qp false t (k + 1)).length = (qp false t k).length + 1 := by rw [HS.out, HE.out]; simp
        have HL6 := Lib.hid hlen6
        clear hlen6 hown5
        go_wp2
        go_roundw
        case rel => exact ⟨k + 1, g5, c5, by omega, by go_num, by rw [HL6.out], hown6, hb5⟩
        case measure => simp [intOf]; omega
    · have hqe : Hid (qp false t k ++ [34] = quotedOf false t) := qp_end false t k (by rw [← HZ.out]; exact hlt)
      go_wp2_with (at_builtin; refine wpList_append_own _ rfl (.tmp 50) (.tmp 51) 32 rfl w.heap.size 5 i0 (.int .u8 0) 1 1 Try.underlying32 hi hz0 hz1 hz2 rfl (by decide) _ _ _ rfl (hown.alloc _) ⟨wr.heap.size, 0, none⟩ 1 1 [Value.int .u8 34] rfl rfl (cell_one_new _ _ _) (by intro u' hu'; simp at hu'; subst hu'; rfl) (by unfold maxLen; omega) (by omega) (by simp; omega) ?_; rintro v5 w5 hown5 hgrow5 -; refine Hid.out ?_)
      refine Lib.hid ?_
      have hb5 : Below w.heap.size w w5 := (hbl.alloc (by omega) _).grown hgrow5 (by simp; omega) (fun k hk => (hown.lt k hk).1)
      obtain ⟨L, hL⟩ : ∃ L, L = quotedOf false t := ⟨_, rfl⟩
      obtain ⟨g6, c6, hv6, hcv⟩ := own_string L hown5 (by rw [hL, ← hqe.out, Lib.byteCells_append]; rfl) (by omega)
      obtain ⟨V, hV⟩ : ∃ V : ByteArray, V = ⟨L.toArray⟩ := ⟨_, rfl⟩
      rw [← hV] at hcv
      rw [hv6]
      rw [hL] at hV
      have HV := Lib.hid hV
      clear hL hV hv6 hown5 hown hgrow5
      go_wp2_with fail
      refine (zzunquote_any false t V HV.out (by rw [← HZ.out]; exact hn) _).mono ?_
      rintro e w7 ⟨rfl, hb7⟩
      rw [← HT.out]
      have hb8 := hb5.trans (hb7.mono hb5.size)
      go_wp2
      go_ret
      exact ⟨rfl, hb8⟩
end Go.Proofs.Qxb6600368a.Walks
