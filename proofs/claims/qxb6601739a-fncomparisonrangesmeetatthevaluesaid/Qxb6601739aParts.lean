import Derived.Test.Qxb6601739aRows
import Derived.WalkKit
import Derived.ProofKit
import Derived.OpenShut
import Derived.ChangeOld
import Derived.Below
import Derived.Deep.OwnRows
import Derived.Deep.AppendLies
import Derived.WalkSpells
import Derived.WalkLawsBesides
namespace Go.Proofs.Qxb6601739a
open Go.ChangeShapes Go.WideShapes Go.ChangeAt Go.RowKit

/-- The six cells of a Value. -/
abbrev six (k z : Int) (b : Bool) (c i : Int) (s : ByteArray) : Array Value := #[.int .u8 k, .int .u16 z, .bool b, .int .u8 c, .int .i64 i, .string s]

theorem make_any (k z : Int) (b : Bool) (c i : Int) (s : ByteArray) (w : World) :
    Calls Try.prog 19 #[.int .u8 k, .int .u16 z, .bool b, .int .u8 c, .int .i64 i, .string s] w fun e w' => e = .returned (.agg (six k z b c i s)) ∧ Below w.heap.size w w' := by
  go_enter Try.func19, Try.ntmps19
  go_wp2
  exact bodyPost_ret (v := .agg (six k z b c i s)) (by simp [results, Try.results19, go_sem]) rfl ⟨rfl, (Below.refl _ _).alloc (Nat.le_refl _) _⟩

theorem bcell {W w1 : World} (hb : Below W.heap.size W w1) : (∀ b o, b < W.heap.size → w1.cell? ⟨b, o, none⟩ = W.cell? ⟨b, o, none⟩) ∧ (∀ b o, b < W.heap.size → w1.frozen? ⟨b, o, none⟩ = W.frozen? ⟨b, o, none⟩) :=
  ⟨fun b o h => hb.cell (p := ⟨b, o, none⟩) h, fun b o h => hb.frozen (p := ⟨b, o, none⟩) h⟩

set_option maxHeartbeats 400000 in
theorem toValue_any (k z : Int) (b : Bool) (c i : Int) (s : ByteArray) (w : World) :
    Calls Try.prog 13 #[.agg (six k z b c i s)] w fun e w' => e = .returned (.agg (six k z b c i s)) ∧ Below w.heap.size w w' := by
  go_enter Try.func13, Try.ntmps13
  go_wp2_with fail
  refine (make_any _ _ _ _ _ _ _).mono ?_
  rintro e w1 ⟨rfl, hb⟩
  obtain ⟨hc, hf⟩ := bcell hb
  have hz : w.heap.size + 1 < w1.heap.size := by have := hb.size; simp at this; omega
  have hB : Below w.heap.size w w1 := (((Below.refl _ _).alloc (Nat.le_refl _) _).alloc (by simp) _).trans (hb.mono (by simp; omega))
  clear hb
  go_wp2
  refine bodyPost_ret (v := .agg (six k z b c i s)) (by simp [results, Try.results13, go_sem, hc]) rfl ⟨rfl, ?_⟩
  exact (((((hB.setCell (by simp) _).setCell (by simp) _).setCell (by simp) _).setCell (by simp) _).setCell (by simp) _).setCell (by simp) _

end Go.Proofs.Qxb6601739a
