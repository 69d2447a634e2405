/-
  (*strings.Builder).Write (function 30) AT A BUILDER THAT HAS BEEN USED, WHEREVER THE BYTES LIE: after the shelf's own walk (there the bytes lie below the call's own blocks; here they may be new).
-/
import Derived.Test.Qxb6600368aRows
import Derived.Test.Qxb6600368aLay
import Derived.Lib.Hide
import Derived.Lib.UnsafeStr
import Derived.Lib.Walk
import Derived.OwnWalk
import Derived.WalkKit
import Derived.BigCall
import Derived.WalkSpells
import Derived.WalkSmall
namespace Go.Proofs.Qxb6600368a.Walks
open Go.Shelf Go.RowKit

theorem infoByte' : (Try.prog.info? 5).map (fun i => (i.zero, i.size, i.bytes)) = some (some (.int .u8 0), 1, 1) := by kernel_rfl

theorem copyCheck_used (b : Nat) (w : World) (h0 : w.cell? ⟨b, 0, none⟩ = some (.pointer (some ⟨b, 0, none⟩))) :
    Calls Try.prog 32 #[.pointer (some ⟨b, 0, none⟩)] w fun e w' => e = .returned (.tuple #[]) ∧ w' = w :=
  Any.Builder_copyCheck_used Try.lays240 Try.Builder_X72_240 b w h0

set_option maxHeartbeats 1000000 in
set_option maxRecDepth 100000 in
theorem write_used (B b : Nat) (bs : List Value) (ad : Addr) (m c : Nat) (news : List Value) (w : World) (h : Lib.BuilderAt 35 5 B b (.pointer (some ⟨b, 0, none⟩)) bs w)
    (hl : news.length = m) (hnews : ∀ j u, news[j]? = some u → w.cell? (ad.add j) = some u) (h1 : ∀ u ∈ news, u.oneCell' = true)
    (hlen : bs.length + m ≤ 140737488355328) (hBw : B ≤ w.heap.size) :
    Calls Try.prog 30 #[.pointer (some ⟨b, 0, none⟩), .slice (some ad) m c] w fun e w' => e = .returned (.tuple #[.int .i64 m, .nilIface]) ∧ (Lib.BuilderAt 35 5 B b (.pointer (some ⟨b, 0, none⟩)) (bs ++ news) w' ∧ Below B w w') := by
  obtain ⟨i0, hi, hz0, hz1, hz2⟩ := info_parts infoByte'
  obtain ⟨hB, v, hbk, hown, hne⟩ := h
  have c0 : w.cell? ⟨b, 0, none⟩ = some (.pointer (some ⟨b, 0, none⟩)) := by rw [Lib.cell_of_heap hbk]; rfl
  have c1 : w.cell? ⟨b, 1, none⟩ = some v := by rw [Lib.cell_of_heap hbk]; rfl
  go_enter Try.func30, Try.ntmps30
  go_wp2_with fail
  refine (copyCheck_used b _ c0).mono ?_
  rintro e w1 ⟨rfl, rfl⟩
  go_wp2_with (at_builtin; refine wpList_append_own _ rfl _ _ 32 rfl B 5 i0 (.int .u8 0) 1 1 Try.underlying32 hi hz0 hz1 hz2 rfl (by decide) _ _ _ rfl hown ad m c news rfl (by omega) hnews h1 (by unfold maxLen; omega) (by omega) hBw ?_; rintro v' w2 hown' hgrow -; refine Hid.out ?_)
  refine Lib.hid ?_
  have hlt : b < w1.heap.size := by
    rcases Nat.lt_or_ge b w1.heap.size with h' | h'
    · exact h'
    · simp [Array.getElem?_eq_none h'] at hbk
  have hb2 : w2.heap[b]? = some (.cells #[.pointer (some ⟨b, 0, none⟩), v] 35 (0, 0)) := by
    rw [hgrow.block b hlt (fun e => hne e.symm)]
    exact hbk
  have d0 : w2.cell? ⟨b, 0, none⟩ = some (.pointer (some ⟨b, 0, none⟩)) := by rw [Lib.cell_of_heap hb2]; rfl
  have d1 : w2.cell? ⟨b, 1, none⟩ = some v := by rw [Lib.cell_of_heap hb2]; rfl
  have f1 : w2.frozen? ⟨b, 1, none⟩ = false := Lib.frozen_of_heap hb2 1
  obtain ⟨ao, n', cap, hv'⟩ : ∃ ao n' cap, v' = .slice ao n' cap := by
    rcases hown'.2 with ⟨hv, _⟩ | ⟨g, cap, cur, hv, _⟩
    · exact ⟨_, _, _, hv⟩
    · exact ⟨_, _, _, hv⟩
  have hput := Lib.BuilderAt.put (T := 35) (e := 5) hB hb2 (bs' := bs ++ news) (by simpa [hl] using hown') (by decide)
  have hbw : Below B w1 (w2.setCell ⟨b, 1, none⟩ v') := ((Below.refl B w1).grown hgrow hBw (fun k hk => (hown.lt k hk).1)).setCell (p := ⟨b, 1, none⟩) hB _
  rw [hv'] at hput hbw
  rw [hv']
  clear hown' hgrow hv' hbk hb2 c0 c1
  go_wp2
  go_ret2
  exact ⟨rfl, hput, hbw⟩
end Go.Proofs.Qxb6600368a.Walks
