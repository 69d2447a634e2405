/-
  THE WALK of FnShortExponentTextModel (function 3).
-/
import Derived.Test.Qxb6600357aDoorModel
import Derived.BigQuiet
import Derived.Deep.QuietTactic
namespace Go.Proofs.Qxb6600357aDoor.Walks
open Go.Shelf Go.RowKit
open Go.Proofs.Qxb6600357aDoor.Plain

set_option maxHeartbeats 1000000 in
set_option maxRecDepth 100000 in
theorem md_long (ao : Option Addr) (n cap : Nat) (p : Int) (w : World) (hn : n ≤ maxLen) (hbig : 1048576 < n) :
    Calls Tryd.prog 3 #[.slice ao n cap, .int .i64 p] w fun e w' => e = .returned (.bool true) ∧ Below w.heap.size w w' := by
  unfold maxLen at hn
  go_enter Tryd.func3, Tryd.ntmps3
  go_wp2
  go_ret
  exact ⟨rfl, Below.refl _ _⟩

set_option maxHeartbeats 1000000 in
set_option maxRecDepth 100000 in
theorem md_short (ao : Option Addr) (n cap : Nat) (l : List UInt8) (p : Int) (w : World) (hl : TextIs w ao n cap l) (hn : n ≤ 1048576)
    (htab : Lib.TabIs Tryd.prog w powName .u64 Lib.pow10Tab) :
    Calls Tryd.prog 3 #[.slice ao n cap, .int .i64 p] w fun e w' => e = .returned (.bool true) ∧ Below w.heap.size w w' := by
  obtain ⟨i0, hi, hz0, hz1, hz2⟩ := info_parts infoByte
  have hT := Lib.tabBelow_of_tabIs htab
  obtain ⟨rfl, hl⟩ := hl
  have hnn := fun wx => run_neq_slice_nil_any (P := Tryd.prog) wx 22 5 ao l.length cap 0 0 Tryd.underlying22
  have HL := Lib.hid hl
  clear hl
  go_enter Tryd.func3, Tryd.ntmps3
  go_upto_if 13 with go_in
  go_cut [0] (fun v wc => ∃ ao' cap', v = .slice ao' l.length cap' ∧ Copy wc ao' cap' l ∧ Below w.heap.size w wc)
  case first =>
    rcases HL.out with ⟨rfl, rfl, rfl⟩ | ⟨x, rfl, hc⟩
    · go_wp2
      go_meet
      case rel => exact ⟨none, 0, rfl, .inl ⟨rfl, rfl, rfl⟩, Below.refl _ _⟩
    · have hown0 : (w.alloc (.cells #[] 5)).ownsRow w.heap.size 5 1 (.slice (some ⟨w.heap.size, 0, none⟩) 0 0) 0 [] := World.ownsRow_lit w #[] 0 (Nat.le_refl _) (by decide) rfl
      go_wp2_with (at_builtin; refine wpList_append_own _ rfl _ _ 22 rfl w.heap.size 5 i0 (.int .u8 0) 1 1 Tryd.underlying22 hi hz0 hz1 hz2 rfl (by decide) _ _ _ rfl hown0 x l.length cap (Lib.byteCells l) rfl (by simp [Lib.byteCells]) (news_of (text_later hc _)) (byteCells_one l) (by unfold maxLen; omega) (by omega) (by simp) ?_; rintro v3 w3 hown3 hgrow3 -; refine Hid.out ?_)
      refine Lib.hid ?_
      have hb3 : Below w.heap.size w w3 := ((Below.refl _ _).alloc (Nat.le_refl _) _).grown hgrow3 (by simp) (fun k hk => (hown0.lt k hk).1)
      obtain ⟨ao3, c3, hv3⟩ := own_any hown3
      rw [Nat.zero_add] at hv3
      rw [hv3, Nat.zero_add] at hown3
      rw [hv3]
      clear hv3 hgrow3
      go_wp2
      go_meet
      case rel => exact ⟨ao3, c3, rfl, Copy.of_own hown3, hb3⟩
  case rest =>
    obtain ⟨ao', cap', rfl, hcp, hb⟩ := hcut
    have hsz := hb.size
    go_wp2_with fail
    refine (zzshort_copy ao' cap' l p _ hcp hn (hT.on hb).here).mono ?_
    rintro e w1 ⟨rfl, hb1⟩
    have hcp1 := hcp.on hb1
    have hbb1 : Below w.heap.size w w1 := hb.trans (hb1.mono hsz)
    clear hcp hb hb1
    go_wp2_with fail
    refine (model_any ao' cap' l p _ hcp1 hn).mono ?_
    rintro e w2 ⟨rfl, hb2⟩
    have hbb2 : Below w.heap.size w w2 := hbb1.trans (hb2.mono hbb1.size)
    clear hcp1 hbb1 hb2
    generalize (short l (wrap64 (p + 1))).toArray = S
    go_wp2
    go_ret
    exact ⟨rfl, hbb2⟩
end Go.Proofs.Qxb6600357aDoor.Walks
