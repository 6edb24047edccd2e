import Derived.Test.Qxb6601739aRp
import Derived.Deep.DeepCutAuto
namespace Go.Proofs.Qxb6601739a
open Go.ChangeShapes Go.WideShapes Go.ChangeAt Go.RowKit

/-- The six cells of a Value lie at the head of block B. -/
def At6 (w : World) (B : Nat) (k z : Int) (b : Bool) (c i : Int) (s : ByteArray) : Prop :=
  B < w.heap.size ∧ w.cell? ⟨B, 0, none⟩ = some (.int .u8 k) ∧ w.cell? ⟨B, 1, none⟩ = some (.int .u16 z) ∧ w.cell? ⟨B, 2, none⟩ = some (.bool b) ∧ w.cell? ⟨B, 3, none⟩ = some (.int .u8 c) ∧ w.cell? ⟨B, 4, none⟩ = some (.int .i64 i) ∧ w.cell? ⟨B, 5, none⟩ = some (.string s)
theorem At6.below {w w' : World} {B N : Nat} {k z : Int} {b : Bool} {c i : Int} {s : ByteArray} (h : At6 w B k z b c i s) (hb : Below N w w') (hN : B < N) : At6 w' B k z b c i s := by
  obtain ⟨h0, h1, h2, h3, h4, h5, h6⟩ := h
  exact ⟨Nat.lt_of_lt_of_le h0 hb.size, (hb.cell (p := ⟨B, 0, none⟩) hN).trans h1, (hb.cell (p := ⟨B, 1, none⟩) hN).trans h2, (hb.cell (p := ⟨B, 2, none⟩) hN).trans h3, (hb.cell (p := ⟨B, 3, none⟩) hN).trans h4, (hb.cell (p := ⟨B, 4, none⟩) hN).trans h5, (hb.cell (p := ⟨B, 5, none⟩) hN).trans h6⟩
theorem At6.later {w w' : World} {B : Nat} {k z : Int} {b : Bool} {c i : Int} {s : ByteArray} (h : At6 w B k z b c i s) (hb : Below w.heap.size w w') : At6 w' B k z b c i s := h.below hb h.1
theorem At6.alloc {w : World} {B : Nat} {k z : Int} {b : Bool} {c i : Int} {s : ByteArray} (h : At6 w B k z b c i s) (o : Obj) : At6 (w.alloc o) B k z b c i s := h.later ((Below.refl _ _).alloc (Nat.le_refl _) _)
theorem At6.new (w : World) (t : TypeId) (k z : Int) (b : Bool) (c i : Int) (s : ByteArray) : At6 (w.alloc (.cells (six k z b c i s) t)) w.heap.size k z b c i s := by
  refine ⟨by simp, ?_, ?_, ?_, ?_, ?_, ?_⟩ <;> simp
/-- The cells of a range lie at the head of block g. -/
def AtR (w : World) (g : Nat) (R : List Value) : Prop := g < w.heap.size ∧ ∀ j u, R[j]? = some u → w.cell? ⟨g, j, none⟩ = some u
theorem AtR.later {w w' : World} {g : Nat} {R : List Value} (h : AtR w g R) (hb : Below w.heap.size w w') : AtR w' g R :=
  ⟨Nat.lt_of_lt_of_le h.1 hb.size, fun j u hj => (hb.cell (p := ⟨g, j, none⟩) h.1).trans (h.2 j u hj)⟩

theorem AtR.all {w : World} {g : Nat} {x0 x1 x2 x3 x4 x5 x6 x7 x8 x9 x10 x11 x12 x13 x14 x15 : Value} (h : AtR w g [x0, x1, x2, x3, x4, x5, x6, x7, x8, x9, x10, x11, x12, x13, x14, x15]) : w.cell? ⟨g, 0, none⟩ = some x0 ∧ w.cell? ⟨g, 1, none⟩ = some x1 ∧ w.cell? ⟨g, 2, none⟩ = some x2 ∧ w.cell? ⟨g, 3, none⟩ = some x3 ∧ w.cell? ⟨g, 4, none⟩ = some x4 ∧ w.cell? ⟨g, 5, none⟩ = some x5 ∧ w.cell? ⟨g, 6, none⟩ = some x6 ∧ w.cell? ⟨g, 7, none⟩ = some x7 ∧ w.cell? ⟨g, 8, none⟩ = some x8 ∧ w.cell? ⟨g, 9, none⟩ = some x9 ∧ w.cell? ⟨g, 10, none⟩ = some x10 ∧ w.cell? ⟨g, 11, none⟩ = some x11 ∧ w.cell? ⟨g, 12, none⟩ = some x12 ∧ w.cell? ⟨g, 13, none⟩ = some x13 ∧ w.cell? ⟨g, 14, none⟩ = some x14 ∧ w.cell? ⟨g, 15, none⟩ = some x15 :=
  ⟨h.2 0 x0 rfl, h.2 1 x1 rfl, h.2 2 x2 rfl, h.2 3 x3 rfl, h.2 4 x4 rfl, h.2 5 x5 rfl, h.2 6 x6 rfl, h.2 7 x7 rfl, h.2 8 x8 rfl, h.2 9 x9 rfl, h.2 10 x10 rfl, h.2 11 x11 rfl, h.2 12 x12 rfl, h.2 13 x13 rfl, h.2 14 x14 rfl, h.2 15 x15 rfl⟩

set_option maxRecDepth 100000 in
set_option maxHeartbeats 2000000 in
theorem main_good (k z : Int) (b : Bool) (c i : Int) (s : ByteArray) (k' z' : Int) (b' : Bool) (c' i' : Int) (s' : ByteArray) (w : World)
    (hk : (k == 0) = false) (h1 : s.size ≤ 1048576) (h2 : s'.size ≤ 1048576) (h3 : s.size + s'.size ≤ 1048576) :
    Calls Try.prog 6 #[.agg (six k z b c i s), .agg (six k' z' b' c' i' s')] w fun e w' => e = .returned (.bool true) ∧ Below w.heap.size w w' := by
  go_enter Try.func6, Try.ntmps6
  go_wp2_with fail
  refine (bytes12 _ _ _ _ _ _ _ _ _ _ _ _ _).mono ?_
  rintro e w1 ⟨r, rfl, hb1⟩
  have B1 : Below w.heap.size w w1 := (((Below.refl _ _).alloc (Nat.le_refl _) _).alloc (by simp) _).trans (hb1.mono (by simp; omega))
  cases r
  · go_wp2
    go_ret
    exact ⟨rfl, B1⟩
  have p2 := ((At6.new w 28 k z b c i s).alloc (.cells (six k' z' b' c' i' s') 28)).later hb1
  have p3 := (At6.new (w.alloc (.cells (six k z b c i s) 28)) 28 k' z' b' c' i' s').later hb1
  have e3 : (w.alloc (.cells (six k z b c i s) 28)).heap.size = w.heap.size + 1 := by simp
  rw [e3] at p3
  clear hb1 e3
  as_aux_lemma =>
    have q2 := p2
    have q3 := p3
    obtain ⟨_, u0, u1, u2, u3, u4, u5⟩ := q2
    obtain ⟨_, v0, v1, v2, v3, v4, v5⟩ := q3
    go_wp2_with fail
    refine (toValue_any _ _ _ _ _ _ _).mono ?_
    rintro e w2 ⟨rfl, hb2⟩
    have B2 := B1.trans (hb2.mono B1.size)
    have q3 := p3.later hb2
    clear u0 u1 u2 u3 u4 u5 v0 v1 v2 v3 v4 v5 p2 p3 hb2
    obtain ⟨v, v0, v1, v2, v3, v4, v5⟩ := q3
    go_wp2_with fail
    refine (toValue_any _ _ _ _ _ _ _).mono ?_
    rintro e w3 ⟨rfl, hb3⟩
    have B3 : Below w.heap.size w w3 := (B2.alloc B2.size _).trans (hb3.mono (by have := B2.size; simp; omega))
    have p5 := (At6.new w2 32 k z b c i s).later hb3
    clear v v0 v1 v2 v3 v4 v5 hb3
    as_aux_lemma =>
      have q6 := At6.new w3 32 k' z' b' c' i' s'
      have q5 := p5.alloc (.cells (six k' z' b' c' i' s') 32)
      have B3' : Below w.heap.size w (w3.alloc (.cells (six k' z' b' c' i' s') 32)) := B3.alloc B3.size _
      obtain ⟨m, m0, m1, m2, m3, m4, m5⟩ := p5
      as_aux_lemma =>
        go_wp2_with fail
        refine (zapp4 k z b c i s k' z' b' c' i' s' _ hk).mono ?_
        rintro e wa ⟨ga, ca, rfl, _, ra1, ra2, ha⟩
        have Ba := B3'.trans (ha.mono B3'.size)
        replace q5 := q5.later ha
        replace q6 := q6.later ha
        have ra : AtR wa ga _ := ⟨ra1, ra2⟩
        clear ra1 ra2
        clear ha m m0 m1 m2 m3 m4 m5
        as_aux_lemma =>
          obtain ⟨m, m0, m1, m2, m3, m4, m5⟩ := id q5
          obtain ⟨n, n0, n1, n2, n3, n4, n5⟩ := id q6
          go_wp2_with fail
          refine (zapp5 k z b c i s k' z' b' c' i' s' _ hk).mono ?_
          rintro e wb ⟨gb, cb, rfl, _, rb1, rb2, hb⟩
          have Bb := Ba.trans (hb.mono Ba.size)
          replace q5 := q5.later hb
          replace q6 := q6.later hb
          replace ra := ra.later hb
          have rb : AtR wb gb _ := ⟨rb1, rb2⟩
          clear rb1 rb2
          clear hb m m0 m1 m2 m3 m4 m5 n n0 n1 n2 n3 n4 n5
          obtain ⟨m, m0, m1, m2, m3, m4, m5⟩ := id q5
          obtain ⟨n, n0, n1, n2, n3, n4, n5⟩ := id q6
          go_wp2_with fail
          refine (zapp2 k z b c i s k' z' b' c' i' s' _ hk).mono ?_
          rintro e wc ⟨gc, cc, rfl, _, rc1, rc2, hc⟩
          have Bc := Bb.trans (hc.mono Bb.size)
          replace q5 := q5.later hc
          replace q6 := q6.later hc
          replace ra := ra.later hc
          replace rb := rb.later hc
          have rc : AtR wc gc _ := ⟨rc1, rc2⟩
          clear rc1 rc2
          clear hc m m0 m1 m2 m3 m4 m5 n n0 n1 n2 n3 n4 n5
          as_aux_lemma =>
            obtain ⟨m, m0, m1, m2, m3, m4, m5⟩ := id q5
            obtain ⟨n, n0, n1, n2, n3, n4, n5⟩ := id q6
            go_wp2_with fail
            refine (zapp7 k z b c i s k' z' b' c' i' s' _ hk).mono ?_
            rintro e wd ⟨gd, cd, rfl, _, rd1, rd2, hd⟩
            have Bd := Bc.trans (hd.mono Bc.size)
            replace q5 := q5.later hd
            replace q6 := q6.later hd
            replace ra := ra.later hd
            replace rb := rb.later hd
            replace rc := rc.later hd
            have rd : AtR wd gd _ := ⟨rd1, rd2⟩
            clear rd1 rd2
            clear hd m m0 m1 m2 m3 m4 m5 n n0 n1 n2 n3 n4 n5
            as_aux_lemma =>
              obtain ⟨m, m0, m1, m2, m3, m4, m5⟩ := id q5
              obtain ⟨n, n0, n1, n2, n3, n4, n5⟩ := id q6
              go_wp2_with fail
              refine (zapp6 k z b c i s k' z' b' c' i' s' _ hk).mono ?_
              rintro e we ⟨ge, ce, rfl, _, re1, re2, he⟩
              have Be := Bd.trans (he.mono Bd.size)
              replace q5 := q5.later he
              replace q6 := q6.later he
              replace ra := ra.later he
              replace rb := rb.later he
              replace rc := rc.later he
              replace rd := rd.later he
              have re : AtR we ge _ := ⟨re1, re2⟩
              clear re1 re2
              clear he m m0 m1 m2 m3 m4 m5 n n0 n1 n2 n3 n4 n5
              as_aux_lemma =>
                obtain ⟨m, m0, m1, m2, m3, m4, m5⟩ := id q5
                obtain ⟨n, n0, n1, n2, n3, n4, n5⟩ := id q6
                go_wp2_with fail
                refine (zapp3 k z b c i s k' z' b' c' i' s' _ hk).mono ?_
                rintro e wf ⟨rfl, hf⟩
                have Bf := Be.trans (hf.mono Be.size)
                replace q5 := q5.later hf
                replace q6 := q6.later hf
                replace ra := ra.later hf
                replace rb := rb.later hf
                replace rc := rc.later hf
                replace rd := rd.later hf
                replace re := re.later hf
                clear hf m m0 m1 m2 m3 m4 m5 n n0 n1 n2 n3 n4 n5
                as_aux_lemma =>
                  clear B1 B2 B3 B3' Ba Bb Bc Bd Be
                  obtain ⟨y0, y1, y2, y3, y4, y5, y6, y7, y8, y9, y10, y11, y12, y13, y14, y15⟩ := ra.all
                  have gl := ra.1
                  go_wp2_with fail
                  refine (parts_any 0 0 false 0 0 ⟨#[]⟩ false false k z b c i s false false _).mono ?_
                  rintro e xa ⟨rfl, ha⟩
                  clear gl y0 y1 y2 y3 y4 y5 y6 y7 y8 y9 y10 y11 y12 y13 y14 y15 ra
                  have Xa : Below xa.heap.size xa ((xa.alloc (.cells (six 0 0 false 0 0 ⟨#[]⟩) 32)).alloc (.cells (six k z b c i s) 32)) := ((Below.refl _ _).alloc (Nat.le_refl _) _).alloc (by simp) _
                  have Ba : Below w.heap.size w ((xa.alloc (.cells (six 0 0 false 0 0 ⟨#[]⟩) 32)).alloc (.cells (six k z b c i s) 32)) := (Bf.trans (ha.mono Bf.size)).trans (Xa.mono (Bf.trans (ha.mono Bf.size)).size)
                  replace q5 := (q5.later ha).later Xa
                  replace q6 := (q6.later ha).later Xa
                  replace rb := (rb.later ha).later Xa
                  replace rc := (rc.later ha).later Xa
                  replace rd := (rd.later ha).later Xa
                  replace re := (re.later ha).later Xa
                  have sa0 := (At6.new xa 32 0 0 false 0 0 ⟨#[]⟩).alloc (.cells (six k z b c i s) 32)
                  have sa1 := At6.new (xa.alloc (.cells (six 0 0 false 0 0 ⟨#[]⟩) 32)) 32 k z b c i s
                  rw [show (xa.alloc (.cells (six 0 0 false 0 0 ⟨#[]⟩) 32)).heap.size = xa.heap.size + 1 from by simp] at sa1
                  clear ha Xa Bf
                  as_aux_lemma =>
                    obtain ⟨y0, y1, y2, y3, y4, y5, y6, y7, y8, y9, y10, y11, y12, y13, y14, y15⟩ := rb.all
                    have gl := rb.1
                    go_wp2_with fail
                    refine (parts_any 0 0 false 0 0 ⟨#[]⟩ false false k' z' b' c' i' s' true false _).mono ?_
                    rintro e xb ⟨rfl, hb⟩
                    clear gl y0 y1 y2 y3 y4 y5 y6 y7 y8 y9 y10 y11 y12 y13 y14 y15 rb
                    have Xb : Below xb.heap.size xb ((xb.alloc (.cells (six 0 0 false 0 0 ⟨#[]⟩) 32)).alloc (.cells (six k' z' b' c' i' s') 32)) := ((Below.refl _ _).alloc (Nat.le_refl _) _).alloc (by simp) _
                    have Bb : Below w.heap.size w ((xb.alloc (.cells (six 0 0 false 0 0 ⟨#[]⟩) 32)).alloc (.cells (six k' z' b' c' i' s') 32)) := (Ba.trans (hb.mono Ba.size)).trans (Xb.mono (Ba.trans (hb.mono Ba.size)).size)
                    replace q5 := (q5.later hb).later Xb
                    replace q6 := (q6.later hb).later Xb
                    replace sa0 := (sa0.later hb).later Xb
                    replace sa1 := (sa1.later hb).later Xb
                    replace rc := (rc.later hb).later Xb
                    replace rd := (rd.later hb).later Xb
                    replace re := (re.later hb).later Xb
                    have sb0 := (At6.new xb 32 0 0 false 0 0 ⟨#[]⟩).alloc (.cells (six k' z' b' c' i' s') 32)
                    have sb1 := At6.new (xb.alloc (.cells (six 0 0 false 0 0 ⟨#[]⟩) 32)) 32 k' z' b' c' i' s'
                    rw [show (xb.alloc (.cells (six 0 0 false 0 0 ⟨#[]⟩) 32)).heap.size = xb.heap.size + 1 from by simp] at sb1
                    clear hb Xb Ba
                    obtain ⟨y0, y1, y2, y3, y4, y5, y6, y7, y8, y9, y10, y11, y12, y13, y14, y15⟩ := rc.all
                    have gl := rc.1
                    go_wp2_with fail
                    refine (parts_any k z b c i s true false k' z' b' c' i' s' true false _).mono ?_
                    rintro e xc ⟨rfl, hc⟩
                    clear gl y0 y1 y2 y3 y4 y5 y6 y7 y8 y9 y10 y11 y12 y13 y14 y15 rc
                    have Xc : Below xc.heap.size xc ((xc.alloc (.cells (six k z b c i s) 32)).alloc (.cells (six k' z' b' c' i' s') 32)) := ((Below.refl _ _).alloc (Nat.le_refl _) _).alloc (by simp) _
                    have Bc : Below w.heap.size w ((xc.alloc (.cells (six k z b c i s) 32)).alloc (.cells (six k' z' b' c' i' s') 32)) := (Bb.trans (hc.mono Bb.size)).trans (Xc.mono (Bb.trans (hc.mono Bb.size)).size)
                    replace q5 := (q5.later hc).later Xc
                    replace q6 := (q6.later hc).later Xc
                    replace sa0 := (sa0.later hc).later Xc
                    replace sa1 := (sa1.later hc).later Xc
                    replace sb0 := (sb0.later hc).later Xc
                    replace sb1 := (sb1.later hc).later Xc
                    replace rd := (rd.later hc).later Xc
                    replace re := (re.later hc).later Xc
                    have sc0 := (At6.new xc 32 k z b c i s).alloc (.cells (six k' z' b' c' i' s') 32)
                    have sc1 := At6.new (xc.alloc (.cells (six k z b c i s) 32)) 32 k' z' b' c' i' s'
                    rw [show (xc.alloc (.cells (six k z b c i s) 32)).heap.size = xc.heap.size + 1 from by simp] at sc1
                    clear hc Xc Bb
                    as_aux_lemma =>
                      obtain ⟨y0, y1, y2, y3, y4, y5, y6, y7, y8, y9, y10, y11, y12, y13, y14, y15⟩ := rd.all
                      have gl := rd.1
                      go_wp2_with fail
                      refine (parts_any k z b c i s true false 0 0 false 0 0 ⟨#[]⟩ false true _).mono ?_
                      rintro e xd ⟨rfl, hd⟩
                      clear gl y0 y1 y2 y3 y4 y5 y6 y7 y8 y9 y10 y11 y12 y13 y14 y15 rd
                      have Xd : Below xd.heap.size xd ((xd.alloc (.cells (six k z b c i s) 32)).alloc (.cells (six 0 0 false 0 0 ⟨#[]⟩) 32)) := ((Below.refl _ _).alloc (Nat.le_refl _) _).alloc (by simp) _
                      have Bd : Below w.heap.size w ((xd.alloc (.cells (six k z b c i s) 32)).alloc (.cells (six 0 0 false 0 0 ⟨#[]⟩) 32)) := (Bc.trans (hd.mono Bc.size)).trans (Xd.mono (Bc.trans (hd.mono Bc.size)).size)
                      replace q5 := (q5.later hd).later Xd
                      replace q6 := (q6.later hd).later Xd
                      replace sa0 := (sa0.later hd).later Xd
                      replace sa1 := (sa1.later hd).later Xd
                      replace sb0 := (sb0.later hd).later Xd
                      replace sb1 := (sb1.later hd).later Xd
                      replace sc0 := (sc0.later hd).later Xd
                      replace sc1 := (sc1.later hd).later Xd
                      replace re := (re.later hd).later Xd
                      have sd0 := (At6.new xd 32 k z b c i s).alloc (.cells (six 0 0 false 0 0 ⟨#[]⟩) 32)
                      have sd1 := At6.new (xd.alloc (.cells (six k z b c i s) 32)) 32 0 0 false 0 0 ⟨#[]⟩
                      rw [show (xd.alloc (.cells (six k z b c i s) 32)).heap.size = xd.heap.size + 1 from by simp] at sd1
                      clear hd Xd Bc
                      as_aux_lemma =>
                        obtain ⟨y0, y1, y2, y3, y4, y5, y6, y7, y8, y9, y10, y11, y12, y13, y14, y15⟩ := re.all
                        have gl := re.1
                        go_wp2_with fail
                        refine (parts_any k' z' b' c' i' s' false false 0 0 false 0 0 ⟨#[]⟩ false true _).mono ?_
                        rintro e xe ⟨rfl, he⟩
                        clear gl y0 y1 y2 y3 y4 y5 y6 y7 y8 y9 y10 y11 y12 y13 y14 y15 re
                        have Xe : Below xe.heap.size xe ((xe.alloc (.cells (six k' z' b' c' i' s') 32)).alloc (.cells (six 0 0 false 0 0 ⟨#[]⟩) 32)) := ((Below.refl _ _).alloc (Nat.le_refl _) _).alloc (by simp) _
                        have Be : Below w.heap.size w ((xe.alloc (.cells (six k' z' b' c' i' s') 32)).alloc (.cells (six 0 0 false 0 0 ⟨#[]⟩) 32)) := (Bd.trans (he.mono Bd.size)).trans (Xe.mono (Bd.trans (he.mono Bd.size)).size)
                        replace q5 := (q5.later he).later Xe
                        replace q6 := (q6.later he).later Xe
                        replace sa0 := (sa0.later he).later Xe
                        replace sa1 := (sa1.later he).later Xe
                        replace sb0 := (sb0.later he).later Xe
                        replace sb1 := (sb1.later he).later Xe
                        replace sc0 := (sc0.later he).later Xe
                        replace sc1 := (sc1.later he).later Xe
                        replace sd0 := (sd0.later he).later Xe
                        replace sd1 := (sd1.later he).later Xe
                        have se0 := (At6.new xe 32 k' z' b' c' i' s').alloc (.cells (six 0 0 false 0 0 ⟨#[]⟩) 32)
                        have se1 := At6.new (xe.alloc (.cells (six k' z' b' c' i' s') 32)) 32 0 0 false 0 0 ⟨#[]⟩
                        rw [show (xe.alloc (.cells (six k' z' b' c' i' s') 32)).heap.size = xe.heap.size + 1 from by simp] at se1
                        clear he Xe Bd
                        as_aux_lemma =>
                          go_upto_region 26 with fail
                          go_cut [49] (fun t wc => ∃ Bz, t = .pointer (some ⟨Bz, 0, none⟩) ∧ At6 wc Bz 0 0 false 0 0 ⟨#[]⟩ ∧ At6 wc w2.heap.size k z b c i s ∧ At6 wc w3.heap.size k' z' b' c' i' s' ∧ At6 wc xa.heap.size 0 0 false 0 0 ⟨#[]⟩ ∧ At6 wc (xa.heap.size + 1) k z b c i s ∧ At6 wc xb.heap.size 0 0 false 0 0 ⟨#[]⟩ ∧ At6 wc (xb.heap.size + 1) k' z' b' c' i' s' ∧ At6 wc xc.heap.size k z b c i s ∧ At6 wc (xc.heap.size + 1) k' z' b' c' i' s' ∧ At6 wc xd.heap.size k z b c i s ∧ At6 wc (xd.heap.size + 1) 0 0 false 0 0 ⟨#[]⟩ ∧ At6 wc xe.heap.size k' z' b' c' i' s' ∧ At6 wc (xe.heap.size + 1) 0 0 false 0 0 ⟨#[]⟩ ∧ Below w.heap.size w wc)
                          case first =>
                            go_wp2_with fail
                            go_meet
                            case rel =>
                              have hz := At6.new ((xe.alloc (.cells (six k' z' b' c' i' s') 32)).alloc (.cells (six 0 0 false 0 0 ⟨#[]⟩) 32)) 32 0 0 false 0 0 ⟨#[]⟩
                              rw [show ((xe.alloc (.cells (six k' z' b' c' i' s') 32)).alloc (.cells (six 0 0 false 0 0 ⟨#[]⟩) 32)).heap.size = xe.heap.size + 1 + 1 from by simp] at hz
                              exact ⟨_, rfl, hz, q5.alloc _, q6.alloc _, sa0.alloc _, sa1.alloc _, sb0.alloc _, sb1.alloc _, sc0.alloc _, sc1.alloc _, sd0.alloc _, sd1.alloc _, se0.alloc _, se1.alloc _, Be.alloc Be.size _⟩
                          case rest =>
                            as_aux_lemma =>
                              obtain ⟨Bz, rfl, hz, t0, t1, t2, t3, t4, t5, t6, t7, t8, t9, t10, t11, Bw⟩ := hcut
                              clear q5 q6 sa0 sa1 sb0 sb1 sc0 sc1 sd0 sd1 se0 se1 Be
                              obtain ⟨zz, zz0, zz1, zz2, zz3, zz4, zz5⟩ := hz
                              obtain ⟨t0_l, t0_0, t0_1, t0_2, t0_3, t0_4, t0_5⟩ := t0
                              obtain ⟨t1_l, t1_0, t1_1, t1_2, t1_3, t1_4, t1_5⟩ := t1
                              obtain ⟨t2_l, t2_0, t2_1, t2_2, t2_3, t2_4, t2_5⟩ := t2
                              obtain ⟨t3_l, t3_0, t3_1, t3_2, t3_3, t3_4, t3_5⟩ := t3
                              obtain ⟨t4_l, t4_0, t4_1, t4_2, t4_3, t4_4, t4_5⟩ := t4
                              obtain ⟨t5_l, t5_0, t5_1, t5_2, t5_3, t5_4, t5_5⟩ := t5
                              obtain ⟨t6_l, t6_0, t6_1, t6_2, t6_3, t6_4, t6_5⟩ := t6
                              obtain ⟨t7_l, t7_0, t7_1, t7_2, t7_3, t7_4, t7_5⟩ := t7
                              obtain ⟨t8_l, t8_0, t8_1, t8_2, t8_3, t8_4, t8_5⟩ := t8
                              obtain ⟨t9_l, t9_0, t9_1, t9_2, t9_3, t9_4, t9_5⟩ := t9
                              obtain ⟨t10_l, t10_0, t10_1, t10_2, t10_3, t10_4, t10_5⟩ := t10
                              obtain ⟨t11_l, t11_0, t11_1, t11_2, t11_3, t11_4, t11_5⟩ := t11
                              go_wp2
                              go_ret
                              exact ⟨rfl, Bw⟩

end Go.Proofs.Qxb6601739a
