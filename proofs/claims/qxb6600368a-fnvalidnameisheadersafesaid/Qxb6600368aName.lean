/-
  THE WALKS of validName (function 24), its shim (function 16) and FnValidNameIsHeaderSafe (function 6).
-/
import Derived.Test.Qxb6600368aEncode
namespace Go.Proofs.Qxb6600368a.Walks
open Go.Shelf Go.RowKit
open Go.Proofs.Qxb6600368a.Plain

/-- A byte of a name: a lower-case letter or a digit. -/
def nameC (n : Nat) : Bool := decide ((97 ≤ n ∧ n ≤ 122) ∨ (48 ≤ n ∧ n ≤ 57))
/-- All the first k bytes are of that kind: then they are plain. -/
theorem nameC_plain {c : UInt8} (h : nameC c.toNat = true) : plainc c = true := by
  have h' : (97 ≤ c.toNat ∧ c.toNat ≤ 122) ∨ (48 ≤ c.toNat ∧ c.toNat ≤ 57) := by simpa [nameC] using h
  exact plainc_iff.2 (by omega)

/-- A bool comes back; where it is true v is its own encoding. -/
def Valid (v : List UInt8) (e : Ending) : Prop := ∃ b : Bool, e = .returned (.bool b) ∧ (b = true → encs v = v)
theorem Valid.no (v : List UInt8) : Valid v (.returned (.bool false)) := ⟨false, rfl, fun h => by simp at h⟩
theorem Valid.yes {v : List UInt8} (h : encs v = v) : Valid v (.returned (.bool true)) := ⟨true, rfl, fun _ => h⟩

set_option maxHeartbeats 1000000 in
/-- What validName answers is a bool; where it is true every byte is plain. -/
theorem valid_any (V : ByteArray) (v : List UInt8) (hV : V = ⟨v.toArray⟩) (hn : V.size ≤ 1048576) (w : World) :
    Calls Try.prog 24 #[.string V] w fun e w' => Valid v e ∧ w' = w := by
  have hsz : V.size = v.length := by rw [hV, byteArray_size]
  have hget : ∀ i (h : i < V.size) (h' : i < v.length), V[i] = v[i] := by subst hV; exact fun i h h' => rfl
  have HZ := Lib.hid hsz
  have HG := Lib.hid hget
  clear hV hget hsz
  cases hE : V.toList.isEmpty with
  | true =>
    go_enter Try.func24, Try.ntmps24
    go_wp2
    go_ret
    exact ⟨Valid.no v, rfl⟩
  | false =>
    go_enter Try.func24, Try.ntmps24
    go_wp2
    go_loop [3] (fun i => ∃ k : Nat, k ≤ V.size ∧ i = .int .i64 k ∧ Plains v k) (fun i => V.size - (intOf i).toNat)
    case atStart => exact ⟨0, Nat.zero_le _, rfl, Plains.start v⟩
    case round =>
      obtain ⟨k, hk, rfl, hpl⟩ := hrel
      by_cases hlt : k < V.size
      · have hkv : k < v.length := by rw [← HZ.out]; exact hlt
        have hx := HG.out k hlt hkv
        have hc : v[k].toNat < 256 := v[k].toNat_lt
        have hstep : Hid (nameC v[k].toNat = true → Plains v (k + 1)) := fun h => hpl.step hkv (nameC_plain h)
        obtain ⟨x, hX⟩ : ∃ x, x = v[k].toNat := ⟨_, rfl⟩
        rw [← hX] at hc hstep
        have hx2 : V[k].toNat = x := by rw [hx, hX]
        clear hx hX
        rcases (show (97 ≤ x ∧ x ≤ 122) ∨ (48 ≤ x ∧ x ≤ 57) ∨ (x < 48) ∨ (57 < x ∧ x < 97) ∨ (122 < x) by omega) with ⟨h1, h2⟩ | ⟨h1, h2⟩ | h1 | ⟨h1, h2⟩ | h1
        · have hs := hstep.out (by simp [nameC]; omega)
          go_wp2
          go_round
          case rel => exact ⟨k + 1, by omega, by go_num, hs⟩
          case measure => simp [intOf]; omega
        · have hs := hstep.out (by simp [nameC]; omega)
          go_wp2
          go_round
          case rel => exact ⟨k + 1, by omega, by go_num, hs⟩
          case measure => simp [intOf]; omega
        · go_wp2
          go_ret
          exact ⟨Valid.no v, rfl⟩
        · go_wp2
          go_ret
          exact ⟨Valid.no v, rfl⟩
        · go_wp2
          go_ret
          exact ⟨Valid.no v, rfl⟩
      · have hall : encs v = v := hpl.all (by rw [← HZ.out]; exact hlt)
        have HA := Lib.hid hall
        clear hall
        go_wp2
        go_ret
        exact ⟨Valid.yes HA.out, rfl⟩

theorem zzvalid_any (V : ByteArray) (v : List UInt8) (hV : V = ⟨v.toArray⟩) (hn : V.size ≤ 1048576) (w : World) :
    Calls Try.prog 16 #[.string V] w fun e w' => Valid v e ∧ w' = w := by
  have HV := Lib.hid hV
  clear hV
  go_enter Try.func16, Try.ntmps16
  go_wp2_with fail
  refine (valid_any V v HV.out hn _).mono ?_
  rintro e w' ⟨⟨b, rfl, hb⟩, rfl⟩
  have HB := Lib.hid hb
  clear hb
  go_wp2
  go_ret
  exact ⟨⟨b, rfl, HB.out⟩, rfl⟩

set_option maxHeartbeats 1000000 in
theorem name_long (a0 : ByteArray) (w0 : a0.size ≤ maxLen) (hbig : 1048576 < a0.size) (w : World) :
    Calls Try.prog 6 #[.string a0] w fun e w' => e = .returned (.bool true) ∧ Below w.heap.size w w' := by
  unfold maxLen at w0
  go_enter Try.func6, Try.ntmps6
  go_wp2
  go_ret
  exact ⟨rfl, Below.refl _ _⟩

set_option maxHeartbeats 1000000 in
theorem name_short (V : ByteArray) (hn : V.size ≤ 1048576) (w : World) :
    Calls Try.prog 6 #[.string V] w fun e w' => e = .returned (.bool true) ∧ Below w.heap.size w w' := by
  obtain ⟨v, hV⟩ : ∃ v : List UInt8, V = ⟨v.toArray⟩ := ⟨V.data.toList, by simp⟩
  have HV := Lib.hid hV
  clear hV
  go_enter Try.func6, Try.ntmps6
  go_wp2_with (first | (go_at_call 16; refine (zzvalid_any V v HV.out hn _).mono ?_; rintro e w1 ⟨⟨b, rfl, hb⟩, rfl⟩; refine Hid.out ?_) | go_in)
  refine Lib.hid ?_
  cases b with
  | false =>
    go_wp2
    go_ret
    exact ⟨rfl, Below.refl _ _⟩
  | true =>
    have HA := Lib.hid (hb rfl)
    clear hb
    go_wp2_with fail
    refine (zzencode_any V v HV.out hn _).mono ?_
    rintro e w2 ⟨rfl, hb2⟩
    rw [HA.out, ← HV.out]
    go_wp2
    go_ret
    exact ⟨rfl, hb2⟩
end Go.Proofs.Qxb6600368a.Walks
