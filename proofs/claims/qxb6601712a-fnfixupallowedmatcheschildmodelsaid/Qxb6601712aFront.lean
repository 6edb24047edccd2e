import Derived.Test.Qxb6601712aFixup
import Derived.Test.Qxb6601712aWalks
namespace Go.Proofs.Qxb6601712a
open Go.ChangeShapes Go.WideShapes Go.ChangeAt Go.RowKit

/-- A slice of integers that came in: nil; or a row of 'cap' cells. -/
def IsRow (k : IntKind) (w : World) (a : Option Addr) (len cap : Nat) (zs : List Int) : Prop :=
  (a = none ∧ len = 0 ∧ cap = 0 ∧ zs = []) ∨
  ∃ x, a = some x ∧ len ≤ cap ∧ cap ≤ maxLen ∧ zs.length = cap ∧ (∀ i, i < zs.length → w.cell? (x.add i) = some (.int k (zs.getD i 0))) ∧ ∀ n ∈ zs, (Lit.int k n).wf = true

/-- The cells behind a slice that is not empty. -/
def Src (k : IntKind) (w : World) (b off len : Nat) (zs : List Int) : Prop :=
  b < w.heap.size ∧ ∀ i, i < len → w.cell? ⟨b, off + i, none⟩ = some (.int k (zs[i]?.getD 0))

theorem IsRow.src {k : IntKind} {w : World} {a : Option Addr} {len cap : Nat} {zs : List Int} (h : IsRow k w a len cap zs) : len = 0 ∨ ∃ b off, a = some ⟨b, off, none⟩ ∧ Src k w b off len zs := by
  rcases h with ⟨_, h, _⟩ | ⟨x, rfl, h1, _, h2, h3, _⟩
  · exact .inl h
  · by_cases h0 : len = 0
    · exact .inl h0
    · obtain ⟨b, off, spot⟩ := x
      have hspot : spot = none := by simpa [Addr.add] using World.cell?_spot (h3 0 (by omega))
      subst hspot
      have hc : ∀ i, i < len → w.cell? ⟨b, off + i, none⟩ = some (.int k (zs[i]?.getD 0)) := fun i hi => by
        have := h3 i (by omega)
        rw [add_plain] at this
        simpa using this
      exact .inr ⟨b, off, rfl, World.block_lt_of_cell? w _ (hc 0 (by omega)), hc⟩

theorem wf_zero (a0 a1 a2 a3 a4 a5 : Option Addr) (l0 l1 l2 l3 l4 c0 c1 c2 c3 c4 c5 : Nat) (last : Int) (w : World) :
    Calls Try.prog 15 #[.slice a0 l0 c0, .slice a1 l1 c1, .slice a2 l2 c2, .slice a3 l3 c3, .slice a4 l4 c4, .slice a5 0 c5, .int .i64 last] w
      fun e w' => e = .returned (.bool false) ∧ w' = w := by
  go_enter Try.func15, Try.ntmps15
  go_wp2
  go_ret
  exact ⟨rfl, rfl⟩

theorem Src.later {k : IntKind} {w w' : World} {b off len : Nat} {zs : List Int} (h : Src k w b off len zs) (hb : Below w.heap.size w w') : Src k w' b off len zs :=
  ⟨Nat.lt_of_lt_of_le h.1 hb.size, fun i hi => (hb.cell (p := ⟨b, off + i, none⟩) h.1).trans (h.2 i hi)⟩

theorem cloneU64_src {b off len : Nat} (cap : Nat) {zs : List Int} {w : World} (hm : len ≤ 1048576) (h : Src .u64 w b off len zs) :
    Calls Try.prog 16 #[.slice (some ⟨b, off, none⟩) len cap] w fun e w' => e = .returned (.slice (some ⟨w.heap.size, 0, none⟩) len len) ∧ (Src .u64 w' w.heap.size 0 len zs ∧ Below w.heap.size w w') ∧ w'.heap.size = w.heap.size + 1 :=
  (cloneU64_any b off len cap zs w hm h.1 h.2).mono fun e w' ⟨h1, h2, h3, h4⟩ => ⟨h1, ⟨⟨by omega, fun i hi => by rw [Nat.zero_add]; exact h2.cell hi⟩, h3⟩, h4⟩
theorem cloneInts_src {b off len : Nat} (cap : Nat) {zs : List Int} {w : World} (hm : len ≤ 1048576) (h : Src .i64 w b off len zs) :
    Calls Try.prog 17 #[.slice (some ⟨b, off, none⟩) len cap] w fun e w' => e = .returned (.slice (some ⟨w.heap.size, 0, none⟩) len len) ∧ (Src .i64 w' w.heap.size 0 len zs ∧ Below w.heap.size w w') ∧ w'.heap.size = w.heap.size + 1 :=
  (cloneInts_any b off len cap zs w hm h.1 h.2).mono fun e w' ⟨h1, h2, h3, h4⟩ => ⟨h1, ⟨⟨by omega, fun i hi => by rw [Nat.zero_add]; exact h2.cell hi⟩, h3⟩, h4⟩

theorem Src.cells {k : IntKind} {w : World} {b len : Nat} {zs : List Int} (h : Src k w b 0 len zs) : ∀ i, i < len → w.cell? ⟨b, i, none⟩ = some (.int k (zs[i]?.getD 0)) := fun i hi => by
  have := h.2 i hi
  rwa [Nat.zero_add] at this

/-- The layout out of the six copies. -/
theorem layout_src {B n : Nat} {z0 z1 z2 z3 z4 z5 : List Int} {x y z : Int} {w : World} (hn : n ≤ 1048576) (h1 : 1 ≤ n)
    (s0 : Src .u64 w B 0 n z0) (s1 : Src .i64 w (B + 1) 0 n z1) (s2 : Src .u64 w (B + 1 + 1) 0 n z2) (s3 : Src .i64 w (B + 1 + 1 + 1) 0 n z3) (s4 : Src .u64 w (B + 1 + 1 + 1 + 1) 0 n z4) (s5 : Src .i64 w (B + 1 + 1 + 1 + 1 + 1) 0 n z5) :
    Calls Try.prog 18 #[.slice (some ⟨B, 0, none⟩) n n, .slice (some ⟨B + 1, 0, none⟩) n n, .slice (some ⟨B + 1 + 1, 0, none⟩) n n, .slice (some ⟨B + 1 + 1 + 1, 0, none⟩) n n, .slice (some ⟨B + 1 + 1 + 1 + 1, 0, none⟩) n n, .slice (some ⟨B + 1 + 1 + 1 + 1 + 1, 0, none⟩) n n, .int .u64 x, .int .i64 y, .int .u64 z] w
      fun e w' => e = .returned (.pointer (some ⟨w.heap.size, 0, none⟩)) ∧ (∃ g cap, w'.heap[w.heap.size]? = some (.cells #[.slice (some ⟨g, 0, none⟩) n cap, .int .u64 x, .int .i64 y, .int .u64 z] 49 (0, 0)) ∧ w'.ownsRow (w.heap.size + 1) 53 6 (.slice (some ⟨g, 0, none⟩) n cap) n (recs z0 z1 z2 z3 z4 z5 n)) ∧ Below w.heap.size w w' :=
  (layout_any B (B + 1) (B + 1 + 1) (B + 1 + 1 + 1) (B + 1 + 1 + 1 + 1) (B + 1 + 1 + 1 + 1 + 1) n z0 z1 z2 z3 z4 z5 x y z w hn s0.1 s1.1 s2.1 s3.1 s4.1 s5.1 s0.cells s1.cells s2.cells s3.cells s4.cells s5.cells).mono
    fun e w' ⟨h2, v, hL, hown, hbel⟩ => by
      obtain ⟨g, cap, rfl, _⟩ := hown.form h1
      exact ⟨h2, ⟨g, cap, hL, hown⟩, hbel⟩
end Go.Proofs.Qxb6601712a
