/-
  THE TEXT THAT CAME IN, AND ITS COPY: what the walks of the two laws say of a slice of bytes.
-/
import Derived.Test.Qxb6600357aDoorShort
namespace Go.Proofs.Qxb6600357aDoor.Walks
open Go.Shelf Go.RowKit
open Go.Proofs.Qxb6600357aDoor.Plain

/-- A slice that came in holds the bytes l: it is nil and l is empty; or it leads to their cells. -/
def TextIs (w : World) (ao : Option Addr) (n cap : Nat) (l : List UInt8) : Prop :=
  n = l.length ∧ ((ao = none ∧ l = [] ∧ cap = 0) ∨ ∃ x : Addr, ao = some x ∧ ∀ j (hj : j < l.length), w.cell? (x.add j) = some (.int .u8 (l[j].toNat : Int)))

/-- The call's own copy of it: nil where it was nil; else at the head of a block. -/
def Copy (w : World) (ao : Option Addr) (cap : Nat) (l : List UInt8) : Prop :=
  (ao = none ∧ l = [] ∧ cap = 0) ∨ ∃ g : Nat, ao = some ⟨g, 0, none⟩ ∧ g < w.heap.size ∧ ∀ j (hj : j < l.length), w.cell? ⟨g, j, none⟩ = some (.int .u8 (l[j].toNat : Int))

theorem Copy.on {w w' : World} {ao : Option Addr} {cap : Nat} {l : List UInt8} (h : Copy w ao cap l) (hb : Below w.heap.size w w') : Copy w' ao cap l := by
  rcases h with h | ⟨g, h1, h2, h3⟩
  · exact .inl h
  · exact .inr ⟨g, h1, Nat.lt_of_lt_of_le h2 hb.size, fun j hj => (hb.cell (p := ⟨g, j, none⟩) h2).trans (h3 j hj)⟩

theorem Copy.at {w : World} {ao : Option Addr} {cap : Nat} {l : List UInt8} (h : Copy w ao cap l) {k : Nat} (hk : k < l.length) : ∃ g : Nat, ao = some ⟨g, 0, none⟩ ∧ g < w.heap.size ∧ w.cell? ⟨g, k, none⟩ = some (.int .u8 (l[k].toNat : Int)) := by
  rcases h with ⟨_, rfl, _⟩ | ⟨g, h1, h2, h3⟩
  · simp at hk
  · exact ⟨g, h1, h2, h3 k hk⟩

theorem Copy.of_own {w : World} {B cap : Nat} {ao : Option Addr} {l : List UInt8} (h : w.ownsRow B 5 1 (.slice ao l.length cap) l.length (Lib.byteCells l)) : Copy w ao cap l := by
  rcases h.2 with ⟨h1, h2⟩ | ⟨g, c, cur, h1, hB, hh, _⟩
  · simp only [Value.slice.injEq] at h1
    exact .inl ⟨h1.1, List.length_eq_zero_iff.1 h2, h1.2.2⟩
  · simp only [Value.slice.injEq] at h1
    obtain ⟨rfl, _, rfl⟩ := h1
    refine .inr ⟨g, rfl, ?_, fun j hj => ?_⟩
    · exact (Array.getElem?_eq_some_iff.1 hh).1
    · have := h.cellAt j (by omega)
      rw [this]
      simp [Lib.byteCells, hj]

theorem zzshort_copy (ao : Option Addr) (cap : Nat) (l : List UInt8) (point : Int) (w : World) (h : Copy w ao cap l) (hlen : l.length ≤ 1048576)
    (htab : Lib.TabIs Tryd.prog w powName .u64 Lib.pow10Tab) :
    Calls Tryd.prog 7 #[.slice ao l.length cap, .int .i64 point] w fun e w' => e = .returned (.string ⟨(short l (wrap64 (point + 1))).toArray⟩) ∧ Below w.heap.size w w' := by
  rcases h with ⟨rfl, rfl, rfl⟩ | ⟨g, rfl, h2, h3⟩
  · exact zzshort_nil point w htab
  · exact zzshort_any g 0 cap l point w (fun j hj => by rw [Nat.zero_add]; exact h3 j hj) h2 hlen htab

/-- An owned row's shape, whatever its length. -/
theorem own_any {w : World} {B e : Nat} {v : Value} {n : Nat} {xs : List Value} (h : w.ownsRow B e 1 v n xs) : ∃ ao c, v = .slice ao n c := by
  rcases h.2 with ⟨hv, h0⟩ | ⟨g, cap, cur, hv, _⟩
  · exact ⟨none, 0, by rw [hv, h0]⟩
  · exact ⟨_, cap, hv⟩

theorem news_of {w : World} {x : Addr} {l : List UInt8} (h : ∀ j (hj : j < l.length), w.cell? (x.add j) = some (.int .u8 (l[j].toNat : Int))) : ∀ (j : Nat) (u : Value), (Lib.byteCells l)[j]? = some u → w.cell? (x.add j) = some u := by
  intro j u hj
  have hl : j < l.length := by
    have := (List.getElem?_eq_some_iff.1 hj).1
    simpa [Lib.byteCells] using this
  rw [h j hl]
  simp [Lib.byteCells, hl] at hj
  rw [hj]

/-- A new block turns no cell that was there. -/
theorem text_later {w : World} {x : Addr} {l : List UInt8} (h : ∀ j (hj : j < l.length), w.cell? (x.add j) = some (.int .u8 (l[j].toNat : Int))) (o : Obj) : ∀ j (hj : j < l.length), (w.alloc o).cell? (x.add j) = some (.int .u8 (l[j].toNat : Int)) := by
  intro j hj
  have := h j hj
  by_cases hb : (x.add j).block = w.heap.size
  · exfalso
    unfold World.cell? at this
    rw [hb] at this
    simp at this
  · rw [World.cell?_alloc_old w o _ hb]
    exact this

theorem byteCells_one (l : List UInt8) : ∀ u ∈ Lib.byteCells l, u.oneCell' = true := by
  intro u hu
  simp only [Lib.byteCells, List.mem_map] at hu
  obtain ⟨b, _, rfl⟩ := hu
  rfl
end Go.Proofs.Qxb6600357aDoor.Walks
