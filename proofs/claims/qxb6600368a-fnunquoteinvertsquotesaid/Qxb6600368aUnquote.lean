/-
  THE WALK of unquote (function 25) at a quoted text, and of its shim (function 19).
-/
import Derived.Test.Qxb6600368aRows
import Derived.Test.Qxb6600368aShelf
import Derived.Test.Qxb6600368aLay
import Derived.Test.Qxb6600368aPlain
import Derived.Lib.Hide
import Derived.Lib.UnsafeStr
import Derived.Laws.IdiomStrings
import Derived.OwnWalk
import Derived.WalkKit
import Derived.BigCall
import Derived.WalkSpells
import Derived.WalkSmall
namespace Go.Proofs.Qxb6600368a.Walks
open Go.Shelf Go.RowKit
open Go.Proofs.Qxb6600368a.Plain

set_option maxHeartbeats 1000000 in
set_option maxRecDepth 100000 in
theorem unquote_any (a : Bool) (t : List UInt8) (V : ByteArray) (hV : V = ⟨(quotedOf a t).toArray⟩) (ht : t.length ≤ 1048576) (w : World) :
    Calls Try.prog 25 #[.string V] w fun e w' => e = .returned (.tuple #[.string ⟨t.toArray⟩, .bool true]) ∧ Below w.heap.size w w' := by
  have hq := qb_len a t
  have hl2 := quoted_len a t
  have hst := Rem.start a t
  have hlast := quoted_last a t (by omega)
  have hfirst := quoted_first a t (by omega)
  obtain ⟨L, hL⟩ : ∃ L, L = quotedOf a t := ⟨_, rfl⟩
  simp only [← hL] at hV hl2 hst hlast hfirst
  have hsz : V.size = L.length := by rw [hV, byteArray_size]
  have hget : ∀ i (h : i < V.size) (h' : i < L.length), V[i] = L[i] := by subst hV; exact fun i h h' => rfl
  have h2 : 2 ≤ V.size := by omega
  have hS0 : V.size ≤ 2097154 := by omega
  have hp0 : 0 < V.size := by omega
  have e0 : V[0].toNat = 34 := by rw [hget 0 hp0 (by omega), hfirst]; rfl
  have hp1 : V.size - 1 < V.size := by omega
  have e1 : V[V.size - 1].toNat = 34 := by
    rw [hget _ hp1 (by omega)]
    simp only [hsz]
    rw [hlast]; rfl
  have HG := Lib.hid hget
  have HZ := Lib.hid hsz
  clear hget hsz hV hl2 hlast hfirst hL
  go_enter Try.func25, Try.ntmps25
  go_wp2_with fail
  go_loopw [5] (fun i wr => ∃ (k p : Nat), k ≤ t.length ∧ p ≤ V.size ∧ i = .int .i64 p ∧ Rem L a t k p ∧ Lib.IsBuilder 35 5 w.heap.size w.heap.size (Lib.byteCells (t.take k)) wr ∧ Below w.heap.size w wr)
    (fun i _ => V.size - (intOf i).toNat)
  case atStart => exact ⟨0, 1, Nat.zero_le _, by omega, rfl, hst, Lib.fresh_isBuilder 35 5 w, (Below.refl _ _).alloc (Nat.le_refl _) _⟩
  case round =>
    obtain ⟨k, p, hk, hp, rfl, hrem, hbu, hbl⟩ := hrel
    have hsb := hbl.size
    have htk : (Lib.byteCells (t.take k)).length ≤ t.length := by rw [Lib.byteCells_length, List.length_take]; omega
    by_cases hlt : k < t.length
    · have hcells : Lib.byteCells (t.take k) ++ [.int .u8 (t[k].toNat : Int)] = Lib.byteCells (t.take (k + 1)) := by rw [List.take_succ_eq_append_getElem hlt, Lib.byteCells_append]; rfl
      by_cases he : a = true ∨ t[k].toNat = 34 ∨ t[k].toNat = 92
      · obtain ⟨r1, r2, r3, r4⟩ := hrem.two hlt he
        have hp2 : p + 3 ≤ V.size := by rw [HZ.out]; exact r4
        have hpa : p < V.size := by omega
        have hpb : p + 1 < V.size := by omega
        have f1 : V[p].toNat = 92 := by rw [HG.out p hpa (by rw [← HZ.out]; exact hpa), r1]; rfl
        have f2 : V[p + 1] = t[k] := by rw [HG.out (p + 1) hpb (by rw [← HZ.out]; exact hpb), r2]
        have HC := Lib.hid hcells
        clear hcells r1 r2 r4 hrem he e0 e1
        go_wp2_with fail
        refine (Try.Builder_WriteByte w.heap.size w.heap.size _ (t[k].toNat : Int) _ hbu (by omega) hsb).mono ?_
        rintro e w1 ⟨rfl, hbu1, hb1⟩
        rw [HC.out] at hbu1
        have hbl1 := hbl.trans hb1
        clear hbu hbl hb1
        go_wp2
        go_roundw
        case rel => exact ⟨k + 1, p + 2, by omega, by omega, by go_num, r3, .inr hbu1, hbl1⟩
        case measure => simp [intOf]; omega
      · obtain ⟨r1, r3, r4⟩ := hrem.one hlt he
        have hp2 : p + 2 ≤ V.size := by rw [HZ.out]; exact r4
        have hpa : p < V.size := by omega
        have f1 : V[p] = t[k] := by rw [HG.out p hpa (by rw [← HZ.out]; exact hpa), r1]
        have q1 : ((t[k].toNat : Int) == 34) = false := beq_eq_false_iff_ne.2 (by omega)
        have q2 : ((t[k].toNat : Int) == 92) = false := beq_eq_false_iff_ne.2 (by omega)
        have HC := Lib.hid hcells
        clear hcells r1 r4 hrem he e0 e1
        go_wp2_with fail
        refine (Try.Builder_WriteByte w.heap.size w.heap.size _ (t[k].toNat : Int) _ hbu (by omega) hsb).mono ?_
        rintro e w1 ⟨rfl, hbu1, hb1⟩
        rw [HC.out] at hbu1
        have hbl1 := hbl.trans hb1
        clear hbu hbl hb1
        go_wp2
        go_roundw
        case rel => exact ⟨k + 1, p + 1, by omega, by omega, by go_num, r3, .inr hbu1, hbl1⟩
        case measure => simp [intOf]; omega
    · have hend := hrem.fin hlt
      have hpe : V.size = p + 1 := by rw [HZ.out]; exact hend
      have hpe1 : V.size ≤ p + 1 := by omega
      have htt : t.take k = t := List.take_of_length_le (by omega)
      rw [htt] at hbu
      clear hend hpe htt hrem e0 e1
      go_wp2_with fail
      refine (Try.Builder_String_any w.heap.size w.heap.size t _ hbu hsb).mono ?_
      rintro e w1 ⟨rfl, hb1⟩
      go_wp2
      go_ret2
      exact ⟨rfl, hbl.trans hb1⟩

theorem zzunquote_any (a : Bool) (t : List UInt8) (V : ByteArray) (hV : V = ⟨(quotedOf a t).toArray⟩) (ht : t.length ≤ 1048576) (w : World) :
    Calls Try.prog 19 #[.string V] w fun e w' => e = .returned (.tuple #[.string ⟨t.toArray⟩, .bool true]) ∧ Below w.heap.size w w' := by
  have HV := Lib.hid hV
  clear hV
  go_enter Try.func19, Try.ntmps19
  go_wp2_with (go_at_call 25; refine (unquote_any a t V HV.out ht _).mono ?_; rintro e w' ⟨rfl, hb⟩)
  go_ret2
  exact ⟨rfl, hb⟩
end Go.Proofs.Qxb6600368a.Walks
