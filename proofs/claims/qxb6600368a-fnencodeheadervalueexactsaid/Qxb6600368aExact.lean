/-
  THE WALK of FnEncodeHeaderValueExact (function 3).
-/
import Derived.Test.Qxb6600368aEncode
namespace Go.Proofs.Qxb6600368a.Walks
open Go.Shelf Go.RowKit
open Go.Proofs.Qxb6600368a.Plain

/-- headerPlainB1 (function 13). -/
theorem header_any (n : Nat) (_hn : n < 256) (w : World) : Calls Try.prog 13 #[.int .u8 (n : Int)] w fun e w' => e = .returned (.bool (plainB n)) ∧ w' = w := by
  rcases (show (n ≤ 32) ∨ (126 < n) ∨ (34 ≤ n ∧ n ≤ 34) ∨ (37 ≤ n ∧ n ≤ 37) ∨ (33 ≤ n ∧ n ≤ 126 ∧ n ≠ 34 ∧ n ≠ 37) by omega) with h | h | ⟨h, h'⟩ | ⟨h, h'⟩ | ⟨h1, h2, h3, h4⟩
  · have e := Lib.hid (plainB_no (n := n) (by omega))
    go_enter Try.func13, Try.ntmps13
    go_wp2
    go_ret
    exact ⟨by rw [e.out]; rfl, rfl⟩
  · have e := Lib.hid (plainB_no (n := n) (by omega))
    go_enter Try.func13, Try.ntmps13
    go_wp2
    go_ret
    exact ⟨by rw [e.out]; rfl, rfl⟩
  · have e := Lib.hid (plainB_no (n := n) (by omega))
    have q1 : ((n : Int) != 34) = false := bne_eq_false_iff_eq.2 (by omega)
    go_enter Try.func13, Try.ntmps13
    go_wp2
    go_ret
    exact ⟨by rw [e.out]; rfl, rfl⟩
  · have e := Lib.hid (plainB_no (n := n) (by omega))
    have q1 : ((n : Int) != 34) = true := bne_iff_ne.2 (by omega)
    have q2 : ((n : Int) != 37) = false := bne_eq_false_iff_eq.2 (by omega)
    go_enter Try.func13, Try.ntmps13
    go_wp2
    go_ret
    exact ⟨by rw [e.out]; rfl, rfl⟩
  · have e := Lib.hid (plainB_yes h1 h2 h3 h4)
    have q1 : ((n : Int) != 34) = true := bne_iff_ne.2 (by omega)
    have q2 : ((n : Int) != 37) = true := bne_iff_ne.2 (by omega)
    go_enter Try.func13, Try.ntmps13
    go_wp2
    go_ret
    exact ⟨by rw [e.out]; rfl, rfl⟩

theorem ret_nib {a b : Int} (h : a = b) : Ending.returned (.tuple #[.int .u8 a, .bool true]) = .returned (.tuple #[.int .u8 b, .bool true]) := by rw [h]

/-- upperHexB1 (function 12) at one of the sixteen digits. -/
theorem upper_at (m : Nat) (hm : m < 16) (w : World) : Calls Try.prog 12 #[.int .u8 ((hexd m).toNat : Int)] w fun e w' => e = .returned (.tuple #[.int .u8 (m : Int), .bool true]) ∧ w' = w := by
  by_cases h : m < 10
  · have e := hexd_lo h
    obtain ⟨x, hx⟩ : ∃ x, x = (hexd m).toNat := ⟨_, rfl⟩
    rw [← hx] at e
    rw [← hx]
    have h1 : 48 ≤ x := by omega
    have h2 : x ≤ 57 := by omega
    have E := Lib.hid e
    clear e hx
    go_enter Try.func12, Try.ntmps12
    go_wp2
    go_ret2
    exact ⟨ret_nib (by have := E.out; omega), rfl⟩
  · have e := hexd_hi h hm
    obtain ⟨x, hx⟩ : ∃ x, x = (hexd m).toNat := ⟨_, rfl⟩
    rw [← hx] at e
    rw [← hx]
    have h1 : 65 ≤ x := by omega
    have h2 : x ≤ 70 := by omega
    have E := Lib.hid e
    clear e hx
    go_enter Try.func12, Try.ntmps12
    go_wp2
    go_ret2
    exact ⟨ret_nib (by have := E.out; omega), rfl⟩
theorem upper_hi (n : Nat) (hn : n < 256) (w : World) : Calls Try.prog 12 #[.int .u8 ((hexd (n / 16)).toNat : Int)] w fun e w' => e = .returned (.tuple #[.int .u8 ((n : Int) / 16), .bool true]) ∧ w' = w := upper_at (n / 16) (by omega) w
theorem upper_lo (n : Nat) (w : World) : Calls Try.prog 12 #[.int .u8 ((hexd (n % 16)).toNat : Int)] w fun e w' => e = .returned (.tuple #[.int .u8 ((n : Int) % 16), .bool true]) ∧ w' = w := upper_at (n % 16) (by omega) w

theorem shl4 (n : Nat) (hn : n < 256) : IntKind.u8.wrap ((n : Int) / 16 * 16) = (n : Int) / 16 * 16 := by
  rw [IntKind.wrap_u8']; omega
theorem or4 (n : Nat) (hn : n < 256) : bits .or .u8 ((n : Int) / 16 * 16) ((n : Int) % 16) = (n : Int) := by
  have h := u8_or_nat (n / 16 * 16) (n % 16) (by omega) (by omega)
  have e : n / 16 * 16 ||| n % 16 = n := by
    have := Nat.two_pow_add_eq_or_of_lt (i := 4) (b := n % 16) (by omega) (n / 16)
    rw [Nat.mul_comm, ← this]; omega
  rw [e] at h
  exact h

set_option maxHeartbeats 1000000 in
theorem exact_long (a0 : ByteArray) (w0 : a0.size ≤ maxLen) (hbig : 1048576 < a0.size) (w : World) :
    Calls Try.prog 3 #[.string a0] w fun e w' => e = .returned (.bool true) ∧ Below w.heap.size w w' := by
  unfold maxLen at w0
  go_enter Try.func3, Try.ntmps3
  go_wp2
  go_ret
  exact ⟨rfl, Below.refl _ _⟩

set_option maxHeartbeats 2000000 in
set_option maxRecDepth 100000 in
theorem exact_short (V : ByteArray) (hn : V.size ≤ 1048576) (w : World) :
    Calls Try.prog 3 #[.string V] w fun e w' => e = .returned (.bool true) ∧ Below w.heap.size w w' := by
  obtain ⟨v, hV⟩ : ∃ v : List UInt8, V = ⟨v.toArray⟩ := ⟨V.data.toList, by simp⟩
  have hsz : V.size = v.length := by rw [hV, byteArray_size]
  have hget : ∀ i (h : i < V.size) (h' : i < v.length), V[i] = v[i] := by subst hV; exact fun i h h' => rfl
  have HV := Lib.hid hV
  have HZ := Lib.hid hsz
  have HG := Lib.hid hget
  have hel := encs_len v
  have hst := Lft.start v
  clear hV hget hsz
  go_enter Try.func3, Try.ntmps3
  go_wp2_with (first | (go_at_call 11; refine (zzencode_any V v HV.out hn _).mono ?_; rintro e w1 ⟨rfl, hb1⟩; refine Hid.out ?_) | go_in)
  refine Lib.hid ?_
  obtain ⟨L, hL⟩ : ∃ L, L = encs v := ⟨_, rfl⟩
  obtain ⟨O, hO⟩ : ∃ O : ByteArray, O = ⟨L.toArray⟩ := ⟨_, rfl⟩
  rw [← hL] at hst hel
  rw [← hL, ← hO]
  have hosz : O.size = L.length := by rw [hO, byteArray_size]
  have hog : ∀ i (h : i < O.size) (h' : i < L.length), O[i] = L[i] := by subst hO; exact fun i h h' => rfl
  have hob : O.size ≤ 3145728 := by have := HZ.out; omega
  have HO := Lib.hid hog
  have HOZ := Lib.hid hosz
  clear hL hO hosz hog
  go_wp2_with fail
  go_loop [4, 5] (fun c i => ∃ (k p : Nat), k ≤ V.size ∧ p ≤ O.size ∧ c = .int .i64 k ∧ i = .int .i64 p ∧ Lft L v k p) (fun _ i => O.size - (intOf i).toNat)
  case atStart => exact ⟨0, 0, Nat.zero_le _, Nat.zero_le _, rfl, rfl, hst⟩
  case round =>
    obtain ⟨k, p, hk, hp, rfl, rfl, hleft⟩ := hrel
    by_cases hlt : k < V.size
    · have hkv : k < v.length := by rw [← HZ.out]; exact hlt
      have hx := HG.out k hlt hkv
      have hc : v[k].toNat < 256 := v[k].toNat_lt
      cases hpl : plainB v[k].toNat with
      | true =>
        obtain ⟨r1, r2, r3⟩ := hleft.one hkv hpl
        have hpo : p < O.size := by rw [HOZ.out]; exact r3
        have f1 : O[p] = v[k] := by rw [HO.out p hpo (by rw [← HOZ.out]; exact hpo), r1]
        have hne := (plainc_iff (c := v[k])).1 hpl
        have q1 : ((v[k].toNat : Int) == 37) = false := beq_eq_false_iff_ne.2 (by omega)
        clear r1 r3 hleft hne
        go_wp2_with (go_at_call 13; refine (header_any _ hc _).mono ?_; rintro e w' ⟨rfl, rfl⟩)
        go_round
        case rel => exact ⟨k + 1, p + 1, by omega, by omega, by go_num, by go_num, r2⟩
        case measure => simp [intOf]; omega
      | false =>
        obtain ⟨r1, r2, r3, r4, r5⟩ := hleft.three hkv hpl
        have hp3 : p + 3 ≤ O.size := by rw [HOZ.out]; exact r5
        have hpo : p < O.size := by omega
        have hpo1 : p + 1 < O.size := by omega
        have hpo2 : p + 2 < O.size := by omega
        have f1 : O[p].toNat = 37 := by rw [HO.out p hpo (by rw [← HOZ.out]; exact hpo), r1]; rfl
        have f2 : O[p + 1] = hexd (v[k].toNat / 16) := by rw [HO.out _ hpo1 (by rw [← HOZ.out]; exact hpo1), r2]
        have f3 : O[p + 2] = hexd (v[k].toNat % 16) := by rw [HO.out _ hpo2 (by rw [← HOZ.out]; exact hpo2), r3]
        have hsh := shl4 _ hc
        have hor := or4 _ hc
        clear r1 r2 r3 r5 hleft
        go_wp2_with fail
        refine (upper_hi v[k].toNat hc _).mono ?_
        rintro e w' ⟨rfl, rfl⟩
        go_wp2_with fail
        refine (upper_lo v[k].toNat _).mono ?_
        rintro e w' ⟨rfl, rfl⟩
        go_wp2_with (go_at_call 13; refine (header_any _ hc _).mono ?_; rintro e w' ⟨rfl, rfl⟩)
        go_round
        case rel => exact ⟨k + 1, p + 3, by omega, by omega, by go_num, by go_num, r4⟩
        case measure => simp [intOf]; omega
    · have hend := hleft.fin (by rw [← HZ.out]; exact hlt)
      have hpe : O.size ≤ p := by rw [HOZ.out]; exact hend
      have hkk : ((k : Int) == (V.size : Int)) = true := beq_iff_eq.2 (by omega)
      clear hleft hend
      go_wp2
      go_ret
      exact ⟨rfl, hb1⟩
end Go.Proofs.Qxb6600368a.Walks
