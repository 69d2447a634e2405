/-
  THE WALK of encodeHeaderValue (function 23), and of its shim (function 11).
-/
import Derived.Test.Qxb6600368aShelf
import Derived.Test.Qxb6600368aWrite
import Derived.Test.Qxb6600368aHex
import Derived.Test.Qxb6600368aPlain
import Derived.Deep.CutBlock
import Derived.Deep.DeepCutAuto
import Derived.Deep.RegionWith
namespace Go.Proofs.Qxb6600368a.Walks
open Go.Shelf Go.RowKit
open Go.Proofs.Qxb6600368a.Plain

theorem ret_bs {a b : ByteArray} (h : a = b) : Ending.returned (.string a) = .returned (.string b) := by rw [h]
/-- The cells of a string's head. -/
theorem head_cells (V : ByteArray) (v : List UInt8) (hV : V = ⟨v.toArray⟩) (k : Nat) : Lib.strCells (V.extract 0 k) = Lib.byteCells (v.take k) := by
  subst hV
  unfold Lib.strCells Lib.byteCells
  congr 1
  simp [ByteArray.data_extract]

theorem and15 (n : Nat) (_hn : n < 256) : bits .and .u8 (n : Int) 15 = (n : Int) % 16 := bits_mask .u8 8 (by decide) wraps_u8 4 (by decide) n (by omega) (by omega)
theorem hex_at (m : Nat) (hm : m < 16) (w : World) : (Instr.index 9 (.string ⟨#[48, 49, 50, 51, 52, 53, 54, 55, 56, 57, 65, 66, 67, 68, 69, 70]⟩) (.int .u8 (m : Int))).run Try.prog w = .ok (.int .u8 ((hexd m).toNat : Int)) w := by
  rcases (show m = 0 ∨ m = 1 ∨ m = 2 ∨ m = 3 ∨ m = 4 ∨ m = 5 ∨ m = 6 ∨ m = 7 ∨ m = 8 ∨ m = 9 ∨ m = 10 ∨ m = 11 ∨ m = 12 ∨ m = 13 ∨ m = 14 ∨ m = 15 by omega) with rfl | rfl | rfl | rfl | rfl | rfl | rfl | rfl | rfl | rfl | rfl | rfl | rfl | rfl | rfl | rfl <;> kernel_rfl
theorem hex_hi (n : Nat) (hn : n < 256) (w : World) : (Instr.index 9 (.string ⟨#[48, 49, 50, 51, 52, 53, 54, 55, 56, 57, 65, 66, 67, 68, 69, 70]⟩) (.int .u8 ((n : Int) / 16))).run Try.prog w = .ok (.int .u8 ((hexd (n / 16)).toNat : Int)) w := hex_at (n / 16) (by omega) w
theorem hex_lo (n : Nat) (w : World) : (Instr.index 9 (.string ⟨#[48, 49, 50, 51, 52, 53, 54, 55, 56, 57, 65, 66, 67, 68, 69, 70]⟩) (.int .u8 ((n : Int) % 16))).run Try.prog w = .ok (.int .u8 ((hexd (n % 16)).toNat : Int)) w := hex_at (n % 16) (by omega) w
theorem cell_three_new (w : World) (a b c : Value) (t : TypeId) : ∀ j u, [a, b, c][j]? = some u → (w.alloc (.cells #[a, b, c] t)).cell? ((⟨w.heap.size, 0, none⟩ : Addr).add j) = some u := by
  intro j u hj
  match j, hj with
  | 0, hj => simp at hj; subst hj; simp [Addr.add]
  | 1, hj => simp at hj; subst hj; simp [Addr.add]
  | 2, hj => simp at hj; subst hj; simp [Addr.add]
/-- A builder stands behind a new block. -/
theorem builder_alloc {T e : TypeId} {B b : Nat} {p : Value} {bs : List Value} {w : World} (h : Lib.BuilderAt T e B b p bs w) (o : Obj) : Lib.BuilderAt T e B b p bs (w.alloc o) := by
  have hlt := h.lt
  obtain ⟨hB, v, hb, hown, hne⟩ := h
  exact ⟨hB, v, by rw [Below.heap_alloc _ _ _ hlt]; exact hb, hown.alloc o, hne⟩

/-- The closure 'plain' (function 26). -/
theorem plain_any (n : Nat) (_hn : n < 256) (w : World) : Calls Try.prog 26 #[.int .u8 (n : Int)] w fun e w' => e = .returned (.bool (plainB n)) ∧ w' = w := by
  rcases (show (n ≤ 32) ∨ (126 < n) ∨ (34 ≤ n ∧ n ≤ 34) ∨ (37 ≤ n ∧ n ≤ 37) ∨ (33 ≤ n ∧ n ≤ 126 ∧ n ≠ 34 ∧ n ≠ 37) by omega) with h | h | ⟨h, h'⟩ | ⟨h, h'⟩ | ⟨h1, h2, h3, h4⟩
  · have e := Lib.hid (plainB_no (n := n) (by omega))
    go_enter Try.func26, Try.ntmps26
    go_wp2
    go_ret
    exact ⟨by rw [e.out]; rfl, rfl⟩
  · have e := Lib.hid (plainB_no (n := n) (by omega))
    go_enter Try.func26, Try.ntmps26
    go_wp2
    go_ret
    exact ⟨by rw [e.out]; rfl, rfl⟩
  · have e := Lib.hid (plainB_no (n := n) (by omega))
    have q1 : ((n : Int) != 34) = false := bne_eq_false_iff_eq.2 (by omega)
    go_enter Try.func26, Try.ntmps26
    go_wp2
    go_ret
    exact ⟨by rw [e.out]; rfl, rfl⟩
  · have e := Lib.hid (plainB_no (n := n) (by omega))
    have q1 : ((n : Int) != 34) = true := bne_iff_ne.2 (by omega)
    have q2 : ((n : Int) != 37) = false := bne_eq_false_iff_eq.2 (by omega)
    go_enter Try.func26, Try.ntmps26
    go_wp2
    go_ret
    exact ⟨by rw [e.out]; rfl, rfl⟩
  · have e := Lib.hid (plainB_yes h1 h2 h3 h4)
    have q1 : ((n : Int) != 34) = true := bne_iff_ne.2 (by omega)
    have q2 : ((n : Int) != 37) = true := bne_iff_ne.2 (by omega)
    go_enter Try.func26, Try.ntmps26
    go_wp2
    go_ret
    exact ⟨by rw [e.out]; rfl, rfl⟩

set_option maxHeartbeats 1000000 in
set_option maxRecDepth 100000 in
theorem encode_any (V : ByteArray) (v : List UInt8) (hV : V = ⟨v.toArray⟩) (hn : V.size ≤ 1048576) (w : World) :
    Calls Try.prog 23 #[.string V] w fun e w' => e = .returned (.string ⟨(encs v).toArray⟩) ∧ Below w.heap.size w w' := by
  have hsz : V.size = v.length := by rw [hV, byteArray_size]
  have hget : ∀ i (h : i < V.size) (h' : i < v.length), V[i] = v[i] := by subst hV; exact fun i h h' => rfl
  have HV := Lib.hid hV
  have HZ := Lib.hid hsz
  have HG := Lib.hid hget
  clear hV hget hsz
  go_enter Try.func23, Try.ntmps23
  go_upto_block 0 with fail
  go_cut [4] (fun i wc => ∃ e : Nat, e ≤ V.size ∧ i = .int .i64 e ∧ Plains v e ∧ w = wc)
  case first =>
    go_wp2_with fail
    go_loop [4] (fun i => ∃ k : Nat, k ≤ V.size ∧ i = .int .i64 k ∧ Plains v k) (fun i => V.size - (intOf i).toNat)
    case atStart => exact ⟨0, Nat.zero_le _, rfl, Plains.start v⟩
    case round =>
      obtain ⟨k, hk, rfl, hpl⟩ := hrel
      by_cases hlt : k < V.size
      · have hkv : k < v.length := by rw [← HZ.out]; exact hlt
        have hx := HG.out k hlt hkv
        have hc : v[k].toNat < 256 := v[k].toNat_lt
        cases hp : plainB v[k].toNat with
        | true =>
          have hst := hpl.step hkv hp
          go_wp2_with (go_at_call 26; refine (plain_any _ hc _).mono ?_; rintro e w' ⟨rfl, rfl⟩)
          go_round
          case rel => exact ⟨k + 1, by omega, by go_num, hst⟩
          case measure => simp [intOf]; omega
        | false =>
          go_wp2_with (go_at_call 26; refine (plain_any _ hc _).mono ?_; rintro e w' ⟨rfl, rfl⟩)
          go_meet
          case rel => exact ⟨k, hk, rfl, hpl, rfl⟩
      · go_wp2
        go_meet
        case rel => exact ⟨k, hk, rfl, hpl, rfl⟩
  case rest =>
    obtain ⟨k, hk, rfl, hpl, hw⟩ := hcut
    subst hw
    by_cases hlt : k < V.size
    · have hkne : ((k : Int) == (V.size : Int)) = false := beq_eq_false_iff_ne.2 (by omega)
      go_wp2_with fail
      rw [show ((V.size : Int) + 2 * ((V.size : Int) - (k : Int))) = ((V.size + 2 * (V.size - k) : Nat) : Int) by omega]
      refine (Try.Builder_Grow_fresh w.heap.size w.heap.size _ _ (Nat.le_refl _) (heap_alloc_new w _) (by simp) (by omega)).mono ?_
      rintro e w1 ⟨rfl, hbu1, hb1⟩
      have hbl1 : Below w.heap.size w w1 := ((Below.refl _ _).alloc (Nat.le_refl _) _).trans hb1
      have hs1 := hbl1.size
      have hcl := head_cells V v HV.out k
      have hkl : (Lib.strCells (V.extract 0 k)).length = k := by rw [hcl, Lib.byteCells_length, List.length_take]; have := HZ.out; omega
      have hxs : (V.extract 0 k).size = k := by rw [← Lib.strCells_length]; exact hkl
      clear hb1 hkl
      go_wp2_with fail
      refine (Try.Builder_WriteString w.heap.size w.heap.size [] (V.extract 0 k) w1 (.inr hbu1) (by simp [hxs]; omega) hs1).mono ?_
      rintro e w2 ⟨rfl, hbu2, hb2⟩
      have hpk : v.take k = ek v k := hpl.symm
      rw [List.nil_append, hcl, hpk] at hbu2
      have hbl2 := hbl1.trans hb2
      clear hbu1 hbl1 hs1 hcl hb2 hpk hxs
      go_wp2_with fail
      go_loopw [4] (fun i wr => ∃ (j : Nat), j ≤ V.size ∧ i = .int .i64 j ∧ Lib.BuilderAt 35 5 w.heap.size w.heap.size (.pointer (some ⟨w.heap.size, 0, none⟩)) (Lib.byteCells (ek v j)) wr ∧ Below w.heap.size w wr) (fun i _ => V.size - (intOf i).toNat)
      case atStart => exact ⟨k, hk, rfl, hbu2, hbl2⟩
      case round =>
        obtain ⟨j, hj, rfl, hbu, hbl⟩ := hrel
        clear hbu2 hbl2 hpl hkne hlt hk
        have hsb := hbl.size
        have hel := ek_len v j
        have hel2 : (Lib.byteCells (ek v j)).length ≤ 3 * V.size := by rw [Lib.byteCells_length, HZ.out]; exact hel
        clear hel
        by_cases hlt : j < V.size
        · have hkv : j < v.length := by rw [← HZ.out]; exact hlt
          have hx := HG.out j hlt hkv
          have hc : v[j].toNat < 256 := v[j].toNat_lt
          have hsu := Lib.hid (ek_succ v j hkv)
          cases hp : plainB v[j].toNat with
          | true =>
            have HE : Hid (Lib.byteCells (ek v j) ++ [.int .u8 (v[j].toNat : Int)] = Lib.byteCells (ek v (j + 1))) := by show _ = _; rw [hsu.out, encb_plain hp, Lib.byteCells_append]; rfl
            go_wp2_with (first | (go_at_call 26; refine (plain_any _ hc _).mono ?_; rintro e w' ⟨rfl, rfl⟩) | fail)
            refine (Try.Builder_WriteByte w.heap.size w.heap.size _ (v[j].toNat : Int) _ (.inr hbu) (by omega) hsb).mono ?_
            rintro e w3 ⟨rfl, hbu3, hb3⟩
            rw [HE.out] at hbu3
            have hbl3 := hbl.trans hb3
            clear hbu hbl hb3
            go_wp2
            go_roundw
            case rel => exact ⟨j + 1, by omega, by go_num, hbu3, hbl3⟩
            case measure => simp [intOf]; omega
          | false =>
            go_upto_region 15 with (first | (go_at_call 26; refine (plain_any _ hc _).mono ?_; rintro e w' ⟨rfl, rfl⟩) | fail)
            have hand := and15 _ hc
            have hhi := hex_hi _ hc
            have hlo := hex_lo v[j].toNat
            have HE : Hid (Lib.byteCells (ek v j) ++ [.int .u8 37, .int .u8 ((hexd (v[j].toNat / 16)).toNat : Int), .int .u8 ((hexd (v[j].toNat % 16)).toNat : Int)] = Lib.byteCells (ek v (j + 1))) := by show _ = _; rw [hsu.out, encb_esc hp, Lib.byteCells_append]; rfl
            go_region_with (go_at_call 30; refine (write_used w.heap.size w.heap.size (Lib.byteCells (ek v j)) ⟨w'.heap.size, 0, none⟩ 3 3 [.int .u8 37, .int .u8 ((hexd (v[j].toNat / 16)).toNat : Int), .int .u8 ((hexd (v[j].toNat % 16)).toNat : Int)] _ (by exact builder_alloc hbu _) rfl (by exact cell_three_new w' _ _ _ _) (by intro u hu; simp at hu; rcases hu with rfl | rfl | rfl <;> rfl) (by omega) (by simp; omega)).mono ?_; rintro e w3 ⟨rfl, hbu3, hb3⟩)
            all_goals
              rw [HE.out] at hbu3
              have hbl3 : Below w.heap.size w w3 := (hbl.alloc hsb _).drew.trans hb3
              clear hbu hbl hb3 hhi hlo hand
              go_wp2
              go_roundw
              case rel => exact ⟨j + 1, by omega, by go_num, hbu3, hbl3⟩
              case measure => simp [intOf]; omega
        · have hend : ek v j = encs v := ek_end v j (by rw [← HZ.out]; exact hlt)
          rw [hend] at hbu
          clear hend
          go_wp2_with fail
          refine (Try.Builder_String_any w.heap.size w.heap.size (encs v) _ (.inr hbu) hsb).mono ?_
          rintro e w3 ⟨rfl, hb3⟩
          go_wp2
          go_ret
          exact ⟨rfl, hbl.trans hb3⟩
    · have hall : encs v = v := hpl.all (by rw [← HZ.out]; exact hlt)
      have HA := Lib.hid hall
      obtain rfl : k = V.size := by omega
      clear hall
      go_wp2
      go_ret
      exact ⟨ret_bs (by rw [HA.out]; exact HV.out), Below.refl _ _⟩

theorem zzencode_any (V : ByteArray) (v : List UInt8) (hV : V = ⟨v.toArray⟩) (hn : V.size ≤ 1048576) (w : World) :
    Calls Try.prog 11 #[.string V] w fun e w' => e = .returned (.string ⟨(encs v).toArray⟩) ∧ Below w.heap.size w w' := by
  have HV := Lib.hid hV
  clear hV
  go_enter Try.func11, Try.ntmps11
  go_wp2_with (go_at_call 23; refine (encode_any V v HV.out hn _).mono ?_; rintro e w' ⟨rfl, hb⟩)
  go_ret
  exact ⟨rfl, hb⟩
end Go.Proofs.Qxb6600368a.Walks
