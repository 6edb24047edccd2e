import Derived.Test.Qxb6601739aParts
namespace Go.Proofs.Qxb6601739a
open Go.ChangeShapes Go.WideShapes Go.ChangeAt Go.RowKit

theorem Try.info43 : (Try.prog.info? 43).map (fun i => (i.zero, i.size, i.bytes)) = some (some (.agg (six 0 0 false 0 0 ByteArray.empty ++ #[.bool false, .bool false] ++ six 0 0 false 0 0 ByteArray.empty ++ #[.bool false, .bool false])), 16, 80) := by kernel_rfl

/-- One range in new memory, and 'true'. -/
def AppPost (R : List Value) (w : World) (e : Ending) (w' : World) : Prop := ∃ g cap, e = .returned (.tuple #[.slice (some ⟨g, 0, none⟩) 1 cap, .bool true]) ∧ w.heap.size ≤ g ∧ g < w'.heap.size ∧
  (∀ j u, R[j]? = some u → w'.cell? ⟨g, j, none⟩ = some u) ∧ Below w.heap.size w w'

theorem at4 (w : World) (o1 o2 o3 o4 o5 : Obj) : (((((w.alloc o1).alloc o2).alloc o3).alloc o4).alloc o5).heap[w.heap.size + 4]? = some o5 := by
  have h := heap_alloc_new ((((w.alloc o1).alloc o2).alloc o3).alloc o4) o5
  have e : ((((w.alloc o1).alloc o2).alloc o3).alloc o4).heap.size = w.heap.size + 4 := by simp
  rw [e] at h
  exact h

theorem app_end {R : List Value} {g cap : Nat} {w W w1 : World} (hW : Below w.heap.size w W) (hs : w.heap.size ≤ W.heap.size) (hR : R.length = 16)
    (hown : w1.ownsRow w.heap.size 43 16 (.slice (some ⟨g, 0, none⟩) 1 cap) 1 R) (hgrow : W.grownBy w1 none) (hlt : g < w1.heap.size) :
    AppPost R w (.returned (.tuple #[.slice (some ⟨g, 0, none⟩) 1 cap, .bool true])) w1 := by
  refine ⟨g, cap, rfl, ((hown.lt g rfl).1), hlt, fun j u hj => ?_, hW.grown hgrow hs (fun k hk => by cases hk)⟩
  have hj' : j < 16 := by have := (List.getElem?_eq_some_iff.1 hj).1; omega
  rw [hown.cellAt j (by omega)]
  exact hj

set_option maxHeartbeats 1000000 in
theorem app2 (k z : Int) (b : Bool) (c i : Int) (s : ByteArray) (k' z' : Int) (b' : Bool) (c' i' : Int) (s' : ByteArray) (w : World) (hk : (k == 0) = false) :
    Calls Try.prog 20 #[.slice none 0 0, .int .u8 2, .agg (six k z b c i s), .agg (six k' z' b' c' i' s')] w
      (AppPost [.int .u8 k, .int .u16 z, .bool b, .int .u8 c, .int .i64 i, .string s, .bool true, .bool false, .int .u8 k', .int .u16 z', .bool b', .int .u8 c', .int .i64 i', .string s', .bool true, .bool false] w) := by
  obtain ⟨i0, hi, hz0, hz1, hz2⟩ := info_parts Try.info43
  go_enter Try.func20, Try.ntmps20
  go_wp2_with (at_builtin; refine wpList_append_lies _ (by rfl) _ _ 34 (by rfl) w.heap.size 43 i0 _ 16 80 Try.underlying34 hi hz0 hz1 hz2 rfl (by omega) (.slice none 0 0) 0 [] (by rfl) (World.ownsRow_nil _ _ _ _) ⟨w.heap.size + 4, 0, none⟩ 1 1 [.int .u8 k, .int .u16 z, .bool b, .int .u8 c, .int .i64 i, .string s, .bool true, .bool false, .int .u8 k', .int .u16 z', .bool b', .int .u8 c', .int .i64 i', .string s', .bool true, .bool false] (by rfl) (by rfl) ?c1 ?c2 (by omega) (by unfold maxLen; omega) (by omega) ?c3 (w.heap.size + 5) (by simp) ?_)
  case c1 => exact World.news_of_block (cs := ([.int .u8 k, .int .u16 z, .bool b, .int .u8 c, .int .i64 i, .string s, .bool true, .bool false, .int .u8 k', .int .u16 z', .bool b', .int .u8 c', .int .i64 i', .string s', .bool true, .bool false] : List Value).toArray) (t := 43) (fr := (0, 0)) (at4 _ _ _ _ _ _)
  case c2 => simp only [List.forall_mem_cons]; exact ⟨rfl, rfl, rfl, rfl, rfl, rfl, rfl, rfl, rfl, rfl, rfl, rfl, rfl, rfl, rfl, rfl, by simp⟩
  case c3 => simp; omega
  intro g cap w1 hown1 hgrow hat hlt
  have E := app_end (((((((Below.refl _ _).alloc (Nat.le_refl _) _).alloc (by simp) _).alloc (by simp; omega) _).alloc (by simp; omega) _).alloc (by simp; omega) _)) (by simp; omega) rfl hown1 hgrow hlt
  clear hown1 hgrow hat hlt
  go_wp2
  go_ret2
  exact E

set_option maxHeartbeats 1000000 in
theorem app4 (k z : Int) (b : Bool) (c i : Int) (s : ByteArray) (k' z' : Int) (b' : Bool) (c' i' : Int) (s' : ByteArray) (w : World) (hk : (k == 0) = false) :
    Calls Try.prog 20 #[.slice none 0 0, .int .u8 4, .agg (six k z b c i s), .agg (six k' z' b' c' i' s')] w
      (AppPost [.int .u8 0, .int .u16 0, .bool false, .int .u8 0, .int .i64 0, .string ⟨#[]⟩, .bool false, .bool false, .int .u8 k, .int .u16 z, .bool b, .int .u8 c, .int .i64 i, .string s, .bool false, .bool false] w) := by
  obtain ⟨i0, hi, hz0, hz1, hz2⟩ := info_parts Try.info43
  go_enter Try.func20, Try.ntmps20
  go_wp2_with (at_builtin; refine wpList_append_lies _ (by rfl) _ _ 34 (by rfl) w.heap.size 43 i0 _ 16 80 Try.underlying34 hi hz0 hz1 hz2 rfl (by omega) (.slice none 0 0) 0 [] (by rfl) (World.ownsRow_nil _ _ _ _) ⟨w.heap.size + 4, 0, none⟩ 1 1 [.int .u8 0, .int .u16 0, .bool false, .int .u8 0, .int .i64 0, .string ⟨#[]⟩, .bool false, .bool false, .int .u8 k, .int .u16 z, .bool b, .int .u8 c, .int .i64 i, .string s, .bool false, .bool false] (by rfl) (by rfl) ?c1 ?c2 (by omega) (by unfold maxLen; omega) (by omega) ?c3 (w.heap.size + 5) (by simp) ?_)
  case c1 => exact World.news_of_block (cs := ([.int .u8 0, .int .u16 0, .bool false, .int .u8 0, .int .i64 0, .string ⟨#[]⟩, .bool false, .bool false, .int .u8 k, .int .u16 z, .bool b, .int .u8 c, .int .i64 i, .string s, .bool false, .bool false] : List Value).toArray) (t := 43) (fr := (0, 0)) (at4 _ _ _ _ _ _)
  case c2 => simp only [List.forall_mem_cons]; exact ⟨rfl, rfl, rfl, rfl, rfl, rfl, rfl, rfl, rfl, rfl, rfl, rfl, rfl, rfl, rfl, rfl, by simp⟩
  case c3 => simp; omega
  intro g cap w1 hown1 hgrow hat hlt
  have E := app_end (((((((Below.refl _ _).alloc (Nat.le_refl _) _).alloc (by simp) _).alloc (by simp; omega) _).alloc (by simp; omega) _).alloc (by simp; omega) _)) (by simp; omega) rfl hown1 hgrow hlt
  clear hown1 hgrow hat hlt
  go_wp2
  go_ret2
  exact E

set_option maxHeartbeats 1000000 in
theorem app5 (k z : Int) (b : Bool) (c i : Int) (s : ByteArray) (k' z' : Int) (b' : Bool) (c' i' : Int) (s' : ByteArray) (w : World) (hk : (k == 0) = false) :
    Calls Try.prog 20 #[.slice none 0 0, .int .u8 5, .agg (six k z b c i s), .agg (six k' z' b' c' i' s')] w
      (AppPost [.int .u8 0, .int .u16 0, .bool false, .int .u8 0, .int .i64 0, .string ⟨#[]⟩, .bool false, .bool false, .int .u8 k', .int .u16 z', .bool b', .int .u8 c', .int .i64 i', .string s', .bool true, .bool false] w) := by
  obtain ⟨i0, hi, hz0, hz1, hz2⟩ := info_parts Try.info43
  go_enter Try.func20, Try.ntmps20
  go_wp2_with (at_builtin; refine wpList_append_lies _ (by rfl) _ _ 34 (by rfl) w.heap.size 43 i0 _ 16 80 Try.underlying34 hi hz0 hz1 hz2 rfl (by omega) (.slice none 0 0) 0 [] (by rfl) (World.ownsRow_nil _ _ _ _) ⟨w.heap.size + 4, 0, none⟩ 1 1 [.int .u8 0, .int .u16 0, .bool false, .int .u8 0, .int .i64 0, .string ⟨#[]⟩, .bool false, .bool false, .int .u8 k', .int .u16 z', .bool b', .int .u8 c', .int .i64 i', .string s', .bool true, .bool false] (by rfl) (by rfl) ?c1 ?c2 (by omega) (by unfold maxLen; omega) (by omega) ?c3 (w.heap.size + 5) (by simp) ?_)
  case c1 => exact World.news_of_block (cs := ([.int .u8 0, .int .u16 0, .bool false, .int .u8 0, .int .i64 0, .string ⟨#[]⟩, .bool false, .bool false, .int .u8 k', .int .u16 z', .bool b', .int .u8 c', .int .i64 i', .string s', .bool true, .bool false] : List Value).toArray) (t := 43) (fr := (0, 0)) (at4 _ _ _ _ _ _)
  case c2 => simp only [List.forall_mem_cons]; exact ⟨rfl, rfl, rfl, rfl, rfl, rfl, rfl, rfl, rfl, rfl, rfl, rfl, rfl, rfl, rfl, rfl, by simp⟩
  case c3 => simp; omega
  intro g cap w1 hown1 hgrow hat hlt
  have E := app_end (((((((Below.refl _ _).alloc (Nat.le_refl _) _).alloc (by simp) _).alloc (by simp; omega) _).alloc (by simp; omega) _).alloc (by simp; omega) _)) (by simp; omega) rfl hown1 hgrow hlt
  clear hown1 hgrow hat hlt
  go_wp2
  go_ret2
  exact E

set_option maxHeartbeats 1000000 in
theorem app6 (k z : Int) (b : Bool) (c i : Int) (s : ByteArray) (k' z' : Int) (b' : Bool) (c' i' : Int) (s' : ByteArray) (w : World) (hk : (k == 0) = false) :
    Calls Try.prog 20 #[.slice none 0 0, .int .u8 6, .agg (six k z b c i s), .agg (six k' z' b' c' i' s')] w
      (AppPost [.int .u8 k', .int .u16 z', .bool b', .int .u8 c', .int .i64 i', .string s', .bool false, .bool false, .int .u8 0, .int .u16 0, .bool false, .int .u8 0, .int .i64 0, .string ⟨#[]⟩, .bool false, .bool true] w) := by
  obtain ⟨i0, hi, hz0, hz1, hz2⟩ := info_parts Try.info43
  go_enter Try.func20, Try.ntmps20
  go_wp2_with (at_builtin; refine wpList_append_lies _ (by rfl) _ _ 34 (by rfl) w.heap.size 43 i0 _ 16 80 Try.underlying34 hi hz0 hz1 hz2 rfl (by omega) (.slice none 0 0) 0 [] (by rfl) (World.ownsRow_nil _ _ _ _) ⟨w.heap.size + 4, 0, none⟩ 1 1 [.int .u8 k', .int .u16 z', .bool b', .int .u8 c', .int .i64 i', .string s', .bool false, .bool false, .int .u8 0, .int .u16 0, .bool false, .int .u8 0, .int .i64 0, .string ⟨#[]⟩, .bool false, .bool true] (by rfl) (by rfl) ?c1 ?c2 (by omega) (by unfold maxLen; omega) (by omega) ?c3 (w.heap.size + 5) (by simp) ?_)
  case c1 => exact World.news_of_block (cs := ([.int .u8 k', .int .u16 z', .bool b', .int .u8 c', .int .i64 i', .string s', .bool false, .bool false, .int .u8 0, .int .u16 0, .bool false, .int .u8 0, .int .i64 0, .string ⟨#[]⟩, .bool false, .bool true] : List Value).toArray) (t := 43) (fr := (0, 0)) (at4 _ _ _ _ _ _)
  case c2 => simp only [List.forall_mem_cons]; exact ⟨rfl, rfl, rfl, rfl, rfl, rfl, rfl, rfl, rfl, rfl, rfl, rfl, rfl, rfl, rfl, rfl, by simp⟩
  case c3 => simp; omega
  intro g cap w1 hown1 hgrow hat hlt
  have E := app_end (((((((Below.refl _ _).alloc (Nat.le_refl _) _).alloc (by simp) _).alloc (by simp; omega) _).alloc (by simp; omega) _).alloc (by simp; omega) _)) (by simp; omega) rfl hown1 hgrow hlt
  clear hown1 hgrow hat hlt
  go_wp2
  go_ret2
  exact E

set_option maxHeartbeats 1000000 in
theorem app7 (k z : Int) (b : Bool) (c i : Int) (s : ByteArray) (k' z' : Int) (b' : Bool) (c' i' : Int) (s' : ByteArray) (w : World) (hk : (k == 0) = false) :
    Calls Try.prog 20 #[.slice none 0 0, .int .u8 7, .agg (six k z b c i s), .agg (six k' z' b' c' i' s')] w
      (AppPost [.int .u8 k, .int .u16 z, .bool b, .int .u8 c, .int .i64 i, .string s, .bool true, .bool false, .int .u8 0, .int .u16 0, .bool false, .int .u8 0, .int .i64 0, .string ⟨#[]⟩, .bool false, .bool true] w) := by
  obtain ⟨i0, hi, hz0, hz1, hz2⟩ := info_parts Try.info43
  go_enter Try.func20, Try.ntmps20
  go_wp2_with (at_builtin; refine wpList_append_lies _ (by rfl) _ _ 34 (by rfl) w.heap.size 43 i0 _ 16 80 Try.underlying34 hi hz0 hz1 hz2 rfl (by omega) (.slice none 0 0) 0 [] (by rfl) (World.ownsRow_nil _ _ _ _) ⟨w.heap.size + 4, 0, none⟩ 1 1 [.int .u8 k, .int .u16 z, .bool b, .int .u8 c, .int .i64 i, .string s, .bool true, .bool false, .int .u8 0, .int .u16 0, .bool false, .int .u8 0, .int .i64 0, .string ⟨#[]⟩, .bool false, .bool true] (by rfl) (by rfl) ?c1 ?c2 (by omega) (by unfold maxLen; omega) (by omega) ?c3 (w.heap.size + 5) (by simp) ?_)
  case c1 => exact World.news_of_block (cs := ([.int .u8 k, .int .u16 z, .bool b, .int .u8 c, .int .i64 i, .string s, .bool true, .bool false, .int .u8 0, .int .u16 0, .bool false, .int .u8 0, .int .i64 0, .string ⟨#[]⟩, .bool false, .bool true] : List Value).toArray) (t := 43) (fr := (0, 0)) (at4 _ _ _ _ _ _)
  case c2 => simp only [List.forall_mem_cons]; exact ⟨rfl, rfl, rfl, rfl, rfl, rfl, rfl, rfl, rfl, rfl, rfl, rfl, rfl, rfl, rfl, rfl, by simp⟩
  case c3 => simp; omega
  intro g cap w1 hown1 hgrow hat hlt
  have E := app_end (((((((Below.refl _ _).alloc (Nat.le_refl _) _).alloc (by simp) _).alloc (by simp; omega) _).alloc (by simp; omega) _).alloc (by simp; omega) _)) (by simp; omega) rfl hown1 hgrow hlt
  clear hown1 hgrow hat hlt
  go_wp2
  go_ret2
  exact E

set_option maxHeartbeats 1000000 in
theorem app3 (k z : Int) (b : Bool) (c i : Int) (s : ByteArray) (k' z' : Int) (b' : Bool) (c' i' : Int) (s' : ByteArray) (w : World) (hk : (k == 0) = false) :
    Calls Try.prog 20 #[.slice none 0 0, .int .u8 3, .agg (six k z b c i s), .agg (six k' z' b' c' i' s')] w
      fun e w' => e = .returned (.tuple #[.slice none 0 0, .bool false]) ∧ Below w.heap.size w w' := by
  go_enter Try.func20, Try.ntmps20
  go_wp2
  go_ret2
  exact ⟨rfl, ((((Below.refl _ _).alloc (Nat.le_refl _) _).alloc (by simp) _).alloc (by simp; omega) _).alloc (by simp; omega) _⟩

set_option maxHeartbeats 1000000 in
theorem zapp2 (k z : Int) (b : Bool) (c i : Int) (s : ByteArray) (k' z' : Int) (b' : Bool) (c' i' : Int) (s' : ByteArray) (w : World) (hk : (k == 0) = false) :
    Calls Try.prog 14 #[.slice none 0 0, .int .u8 2, .agg (six k z b c i s), .agg (six k' z' b' c' i' s')] w
      (AppPost [.int .u8 k, .int .u16 z, .bool b, .int .u8 c, .int .i64 i, .string s, .bool true, .bool false, .int .u8 k', .int .u16 z', .bool b', .int .u8 c', .int .i64 i', .string s', .bool true, .bool false] w) := by
  go_enter Try.func14, Try.ntmps14
  go_wp2_with fail
  refine (app2 k z b c i s k' z' b' c' i' s' _ hk).mono ?_
  rintro e w1 ⟨g, cap, rfl, h1, h2, h3, h4⟩
  have E : AppPost [.int .u8 k, .int .u16 z, .bool b, .int .u8 c, .int .i64 i, .string s, .bool true, .bool false, .int .u8 k', .int .u16 z', .bool b', .int .u8 c', .int .i64 i', .string s', .bool true, .bool false] w (.returned (.tuple #[.slice (some ⟨g, 0, none⟩) 1 cap, .bool true])) w1 := ⟨g, cap, rfl, by simp at h1; omega, h2, h3, (((Below.refl _ _).alloc (Nat.le_refl _) _).alloc (by simp) _).trans (h4.mono (by simp; omega))⟩
  clear h1 h2 h3 h4
  go_wp2
  go_ret2
  exact E

set_option maxHeartbeats 1000000 in
theorem zapp4 (k z : Int) (b : Bool) (c i : Int) (s : ByteArray) (k' z' : Int) (b' : Bool) (c' i' : Int) (s' : ByteArray) (w : World) (hk : (k == 0) = false) :
    Calls Try.prog 14 #[.slice none 0 0, .int .u8 4, .agg (six k z b c i s), .agg (six k' z' b' c' i' s')] w
      (AppPost [.int .u8 0, .int .u16 0, .bool false, .int .u8 0, .int .i64 0, .string ⟨#[]⟩, .bool false, .bool false, .int .u8 k, .int .u16 z, .bool b, .int .u8 c, .int .i64 i, .string s, .bool false, .bool false] w) := by
  go_enter Try.func14, Try.ntmps14
  go_wp2_with fail
  refine (app4 k z b c i s k' z' b' c' i' s' _ hk).mono ?_
  rintro e w1 ⟨g, cap, rfl, h1, h2, h3, h4⟩
  have E : AppPost [.int .u8 0, .int .u16 0, .bool false, .int .u8 0, .int .i64 0, .string ⟨#[]⟩, .bool false, .bool false, .int .u8 k, .int .u16 z, .bool b, .int .u8 c, .int .i64 i, .string s, .bool false, .bool false] w (.returned (.tuple #[.slice (some ⟨g, 0, none⟩) 1 cap, .bool true])) w1 := ⟨g, cap, rfl, by simp at h1; omega, h2, h3, (((Below.refl _ _).alloc (Nat.le_refl _) _).alloc (by simp) _).trans (h4.mono (by simp; omega))⟩
  clear h1 h2 h3 h4
  go_wp2
  go_ret2
  exact E

set_option maxHeartbeats 1000000 in
theorem zapp5 (k z : Int) (b : Bool) (c i : Int) (s : ByteArray) (k' z' : Int) (b' : Bool) (c' i' : Int) (s' : ByteArray) (w : World) (hk : (k == 0) = false) :
    Calls Try.prog 14 #[.slice none 0 0, .int .u8 5, .agg (six k z b c i s), .agg (six k' z' b' c' i' s')] w
      (AppPost [.int .u8 0, .int .u16 0, .bool false, .int .u8 0, .int .i64 0, .string ⟨#[]⟩, .bool false, .bool false, .int .u8 k', .int .u16 z', .bool b', .int .u8 c', .int .i64 i', .string s', .bool true, .bool false] w) := by
  go_enter Try.func14, Try.ntmps14
  go_wp2_with fail
  refine (app5 k z b c i s k' z' b' c' i' s' _ hk).mono ?_
  rintro e w1 ⟨g, cap, rfl, h1, h2, h3, h4⟩
  have E : AppPost [.int .u8 0, .int .u16 0, .bool false, .int .u8 0, .int .i64 0, .string ⟨#[]⟩, .bool false, .bool false, .int .u8 k', .int .u16 z', .bool b', .int .u8 c', .int .i64 i', .string s', .bool true, .bool false] w (.returned (.tuple #[.slice (some ⟨g, 0, none⟩) 1 cap, .bool true])) w1 := ⟨g, cap, rfl, by simp at h1; omega, h2, h3, (((Below.refl _ _).alloc (Nat.le_refl _) _).alloc (by simp) _).trans (h4.mono (by simp; omega))⟩
  clear h1 h2 h3 h4
  go_wp2
  go_ret2
  exact E

set_option maxHeartbeats 1000000 in
theorem zapp6 (k z : Int) (b : Bool) (c i : Int) (s : ByteArray) (k' z' : Int) (b' : Bool) (c' i' : Int) (s' : ByteArray) (w : World) (hk : (k == 0) = false) :
    Calls Try.prog 14 #[.slice none 0 0, .int .u8 6, .agg (six k z b c i s), .agg (six k' z' b' c' i' s')] w
      (AppPost [.int .u8 k', .int .u16 z', .bool b', .int .u8 c', .int .i64 i', .string s', .bool false, .bool false, .int .u8 0, .int .u16 0, .bool false, .int .u8 0, .int .i64 0, .string ⟨#[]⟩, .bool false, .bool true] w) := by
  go_enter Try.func14, Try.ntmps14
  go_wp2_with fail
  refine (app6 k z b c i s k' z' b' c' i' s' _ hk).mono ?_
  rintro e w1 ⟨g, cap, rfl, h1, h2, h3, h4⟩
  have E : AppPost [.int .u8 k', .int .u16 z', .bool b', .int .u8 c', .int .i64 i', .string s', .bool false, .bool false, .int .u8 0, .int .u16 0, .bool false, .int .u8 0, .int .i64 0, .string ⟨#[]⟩, .bool false, .bool true] w (.returned (.tuple #[.slice (some ⟨g, 0, none⟩) 1 cap, .bool true])) w1 := ⟨g, cap, rfl, by simp at h1; omega, h2, h3, (((Below.refl _ _).alloc (Nat.le_refl _) _).alloc (by simp) _).trans (h4.mono (by simp; omega))⟩
  clear h1 h2 h3 h4
  go_wp2
  go_ret2
  exact E

set_option maxHeartbeats 1000000 in
theorem zapp7 (k z : Int) (b : Bool) (c i : Int) (s : ByteArray) (k' z' : Int) (b' : Bool) (c' i' : Int) (s' : ByteArray) (w : World) (hk : (k == 0) = false) :
    Calls Try.prog 14 #[.slice none 0 0, .int .u8 7, .agg (six k z b c i s), .agg (six k' z' b' c' i' s')] w
      (AppPost [.int .u8 k, .int .u16 z, .bool b, .int .u8 c, .int .i64 i, .string s, .bool true, .bool false, .int .u8 0, .int .u16 0, .bool false, .int .u8 0, .int .i64 0, .string ⟨#[]⟩, .bool false, .bool true] w) := by
  go_enter Try.func14, Try.ntmps14
  go_wp2_with fail
  refine (app7 k z b c i s k' z' b' c' i' s' _ hk).mono ?_
  rintro e w1 ⟨g, cap, rfl, h1, h2, h3, h4⟩
  have E : AppPost [.int .u8 k, .int .u16 z, .bool b, .int .u8 c, .int .i64 i, .string s, .bool true, .bool false, .int .u8 0, .int .u16 0, .bool false, .int .u8 0, .int .i64 0, .string ⟨#[]⟩, .bool false, .bool true] w (.returned (.tuple #[.slice (some ⟨g, 0, none⟩) 1 cap, .bool true])) w1 := ⟨g, cap, rfl, by simp at h1; omega, h2, h3, (((Below.refl _ _).alloc (Nat.le_refl _) _).alloc (by simp) _).trans (h4.mono (by simp; omega))⟩
  clear h1 h2 h3 h4
  go_wp2
  go_ret2
  exact E

set_option maxHeartbeats 1000000 in
theorem zapp3 (k z : Int) (b : Bool) (c i : Int) (s : ByteArray) (k' z' : Int) (b' : Bool) (c' i' : Int) (s' : ByteArray) (w : World) (hk : (k == 0) = false) :
    Calls Try.prog 14 #[.slice none 0 0, .int .u8 3, .agg (six k z b c i s), .agg (six k' z' b' c' i' s')] w
      fun e w' => e = .returned (.tuple #[.slice none 0 0, .bool false]) ∧ Below w.heap.size w w' := by
  go_enter Try.func14, Try.ntmps14
  go_wp2_with fail
  refine (app3 k z b c i s k' z' b' c' i' s' _ hk).mono ?_
  rintro e w1 ⟨rfl, h4⟩
  have E := (((Below.refl w.heap.size w).alloc (Nat.le_refl _) (.cells (six k z b c i s) 32)).alloc (by simp) (.cells (six k' z' b' c' i' s') 32)).trans (h4.mono (by simp; omega))
  clear h4
  go_wp2
  go_ret2
  exact ⟨rfl, E⟩

end Go.Proofs.Qxb6601739a
