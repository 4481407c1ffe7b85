/- The walk of the law FnConvertLocationRoundTripThroughPublic. -/
import Derived.Test.YtmfccgapgmjidaaToPub
import Derived.Test.YtmfccgapgmjidaaToInt
namespace Go.Proofs.Ytmfccgapgmjidaa
open Go.RowKit
set_option linter.unusedVariables false
set_option linter.unusedSimpArgs false

structure Zb (w : World) (b : Nat) (pr : Bool) (F N : ByteArray) (i j k : Int) (T S : ByteArray) : Prop where
  c0 : w.cell? ⟨b, 0, none⟩ = some (.bool pr)
  c1 : w.cell? ⟨b, 1, none⟩ = some (.string F)
  c2 : w.cell? ⟨b, 2, none⟩ = some (.string N)
  c3 : w.cell? ⟨b, 3, none⟩ = some (.int .i64 i)
  c4 : w.cell? ⟨b, 4, none⟩ = some (.int .i64 j)
  c5 : w.cell? ⟨b, 5, none⟩ = some (.int .i64 k)
  c6 : w.cell? ⟨b, 6, none⟩ = some (.string T)
  c7 : w.cell? ⟨b, 7, none⟩ = some (.string S)
theorem Zb.below {w w' : World} {b B : Nat} {pr : Bool} {F N T S : ByteArray} {i j k : Int} (h : Zb w b pr F N i j k T S) (hb : Below B w w') (hB : b < B) : Zb w' b pr F N i j k T S :=
  ⟨(hb.cell hB).trans h.c0, (hb.cell hB).trans h.c1, (hb.cell hB).trans h.c2, (hb.cell hB).trans h.c3, (hb.cell hB).trans h.c4, (hb.cell hB).trans h.c5, (hb.cell hB).trans h.c6, (hb.cell hB).trans h.c7⟩
theorem Zb.of {w : World} {b : Nat} {pr : Bool} {F N T S : ByteArray} {i j k : Int} (h : w.heap[b]? = some (.cells #[.bool pr, .string F, .string N, .int .i64 i, .int .i64 j, .int .i64 k, .string T, .string S] 23 (0, 0))) : Zb w b pr F N i j k T S := by
  refine ⟨?_, ?_, ?_, ?_, ?_, ?_, ?_, ?_⟩ <;> rw [Lib.cell_of_heap h] <;> rfl
theorem nsOf_nsOf (N : ByteArray) : nsOf (nsOf N) = nsOf N := by
  have hf : (⟨#[102, 105, 108, 101]⟩ : ByteArray).toList.isEmpty = false := by decide +kernel
  by_cases h : N.toList.isEmpty = true
  · have e : nsOf N = ⟨#[102, 105, 108, 101]⟩ := by unfold nsOf; rw [if_pos h]
    rw [e]
    unfold nsOf
    rw [hf]
    rfl
  · have e : nsOf N = N := by unfold nsOf; rw [if_neg h]
    rw [e]
    exact e
theorem decZ {p : Prop} [Decidable p] (v : Bool) (h : decide p = v) {P : Program} {F : FuncId} {args : Array Value} {w : World} {Q : World → Prop} (c : Calls P F args w fun e w' => e = .returned (.bool (decide p)) ∧ Q w') :
    Calls P F args w fun e w' => e = .returned (.bool v) ∧ Q w' := by rw [h] at c; exact c

set_option maxHeartbeats 8000000 in
set_option maxRecDepth 100000 in
theorem mainTrueTrueE (F N : ByteArray) (i j k : Int) (T S : ByteArray) (w : World) (hF : F.size ≤ maxLen) (hN : N.size ≤ maxLen) (hT : T.size ≤ maxLen) (hS : S.size ≤ maxLen) (h : F.size + N.size + T.size + S.size ≤ 1048576) (hE : N.toList.isEmpty = true) :
    Calls Try.prog 3 #[zv true F N i j k T S, .bool true] w fun e w' => e = .returned (.bool true) ∧ Below w.heap.size w w' := by
  unfold zv
  have hNS : Hid (nsOf N = ⟨#[102, 105, 108, 101]⟩) := Lib.hid (by unfold nsOf; rw [hE]; rfl)
  go_enter Try.func3, Try.ntmps3
  go_wp2_with fail
  have hz0 : Zb (w.alloc (.cells #[.bool true, .string F, .string N, .int .i64 i, .int .i64 j, .int .i64 k, .string T, .string S] 23)) w.heap.size true F N i j k T S := Zb.of (heap_alloc_new _ _)
  have HB0 : Hid (Below w.heap.size w (w.alloc (.cells #[.bool true, .string F, .string N, .int .i64 i, .int .i64 j, .int .i64 k, .string T, .string S] 23))) := Lib.hid ((Below.refl _ _).alloc (Nat.le_refl _) _)
  have hs0 : w.heap.size < (w.alloc (.cells #[.bool true, .string F, .string N, .int .i64 i, .int .i64 j, .int .i64 k, .string T, .string S] 23)).heap.size := by simp
  generalize w.alloc (.cells #[.bool true, .string F, .string N, .int .i64 i, .int .i64 j, .int .i64 k, .string T, .string S] 23) = w0 at *
  have hz := decZ true (decide_eq_true h) (zz5 true F N i j k T S true w0 hF hN hT hS)
  unfold zv at hz
  refine hz.mono ?_
  rintro e w1 ⟨rfl, hb1⟩
  clear hz
  have Z1 := hz0.below hb1 hs0
  have B1 : Hid (Below w.heap.size w w1) := Lib.hid (HB0.out.trans (hb1.mono (by omega)))
  have s1 := hb1.size
  obtain ⟨c0, c1, c2, c3, c4, c5, c6, c7⟩ := Z1
  have HZ1 := Lib.hid (Zb.mk c0 c1 c2 c3 c4 c5 c6 c7)
  clear hb1 hz0 HB0
  go_wp2_with fail
  have hl := locBytes true F N i j k T S w1 h
  unfold zv at hl
  refine hl.mono ?_
  rintro e w2 ⟨rfl, hb2⟩
  clear hl c0 c1 c2 c3 c4 c5 c6 c7
  have B2 : Hid (Below w.heap.size w w2) := Lib.hid (B1.out.trans (hb2.mono (by omega)))
  have s2 := hb2.size
  have HZ2 := Lib.hid (HZ1.out.below hb2 (by omega))
  obtain ⟨c0, c1, c2, c3, c4, c5, c6, c7⟩ := HZ2.out
  clear hb2 B1 HZ1
  go_wp2_with fail
  have hl := buildLoc F N i j k T S w2
  unfold zv at hl
  refine hl.mono ?_
  rintro e w3 ⟨b, rfl, hb, hP, hb3⟩
  clear hl c0 c1 c2 c3 c4 c5 c6 c7
  have B3 : Hid (Below w.heap.size w w3) := Lib.hid (B2.out.trans (hb3.mono (by omega)))
  have s3 := hb3.size
  have HZ3 := Lib.hid (HZ2.out.below hb3 (by omega))
  have HP := Lib.hid hP
  clear hb3 B2 HZ2 hP
  go_wp2_with fail
  refine (toInt b F N i j k T S w3 HP.out).mono ?_
  rintro e w4 ⟨g, rfl, hg, hI, hb4⟩
  have B4 : Hid (Below w.heap.size w w4) := Lib.hid (B3.out.trans (hb4.mono (by omega)))
  have s4 := hb4.size
  have HZ4 := Lib.hid (HZ3.out.below hb4 (by omega))
  have HI4 := Lib.hid hI
  clear hb4 B3 HZ3 hI HP
  go_wp2_with fail
  refine (toPub g F (nsOf N) i j k T S _ w4 HI4.out).mono ?_
  rintro e w5 ⟨p, rfl, hp, hP, hb5⟩
  have B5 : Hid (Below w.heap.size w w5) := Lib.hid (B4.out.trans (hb5.mono (by omega)))
  have s5 := hb5.size
  have HI5 := Lib.hid (HI4.out.below hb5 HI4.out.lt)
  have HZ5 := Lib.hid (HZ4.out.below hb5 (by omega))
  have HP5 := Lib.hid hP
  have e5 := hNS
  obtain ⟨c0, c1, c2, c3, c4, c5, c6, c7⟩ := HZ5.out
  obtain ⟨d0, d1, d2, d3, d4, d5, d6, dlt⟩ := HP5.out
  rw [hNS.out] at d1
  clear hb5 B4 HZ4 hP HI4 e5
  go_wp2_with fail
  go_quiet (fail)
  go_wp2_with fail
  have HP6 : Hid (Pub (w5.drewN nq) p F (nsOf N) i j k T S) := Lib.hid ⟨HP5.out.c0, HP5.out.c1, HP5.out.c2, HP5.out.c3, HP5.out.c4, HP5.out.c5, HP5.out.c6, HP5.out.lt⟩
  refine (toInt p F (nsOf N) i j k T S _ HP6.out).mono ?_
  rw [nsOf_nsOf]
  rintro e w6 ⟨q, rfl, hq, hI, hb6⟩
  have hb6' : Below w5.heap.size w5 w6 := below_of_drewN hb6
  have B6 : Hid (Below w.heap.size w w6) := Lib.hid (B5.out.trans (hb6'.mono (by omega)))
  have HI6 := Lib.hid (HI5.out.below hb6' HI5.out.lt)
  have HQ6 := Lib.hid hI
  clear hb6 hb6' B5 hI HI5 HP5 HP6 HZ5 c0 c1 c2 c3 c4 c5 c6 c7 d0 d1 d2 d3 d4 d5 d6
  go_wp2_with fail
  refine (locEq q g F (nsOf N) i j k T S w6 HQ6.out HI6.out).mono ?_
  rintro e w7 ⟨rfl, m, rfl⟩
  go_wp2_with fail
  go_ret
  exact ⟨rfl, below_drewN' B6.out _⟩

set_option maxHeartbeats 8000000 in
set_option maxRecDepth 100000 in
theorem mainTrueTrueF (F N : ByteArray) (i j k : Int) (T S : ByteArray) (w : World) (hF : F.size ≤ maxLen) (hN : N.size ≤ maxLen) (hT : T.size ≤ maxLen) (hS : S.size ≤ maxLen) (h : F.size + N.size + T.size + S.size ≤ 1048576) (hE : N.toList.isEmpty = false) :
    Calls Try.prog 3 #[zv true F N i j k T S, .bool true] w fun e w' => e = .returned (.bool true) ∧ Below w.heap.size w w' := by
  unfold zv
  have hNS : Hid (nsOf N = N) := Lib.hid (by unfold nsOf; rw [hE]; rfl)
  go_enter Try.func3, Try.ntmps3
  go_wp2_with fail
  have hz0 : Zb (w.alloc (.cells #[.bool true, .string F, .string N, .int .i64 i, .int .i64 j, .int .i64 k, .string T, .string S] 23)) w.heap.size true F N i j k T S := Zb.of (heap_alloc_new _ _)
  have HB0 : Hid (Below w.heap.size w (w.alloc (.cells #[.bool true, .string F, .string N, .int .i64 i, .int .i64 j, .int .i64 k, .string T, .string S] 23))) := Lib.hid ((Below.refl _ _).alloc (Nat.le_refl _) _)
  have hs0 : w.heap.size < (w.alloc (.cells #[.bool true, .string F, .string N, .int .i64 i, .int .i64 j, .int .i64 k, .string T, .string S] 23)).heap.size := by simp
  generalize w.alloc (.cells #[.bool true, .string F, .string N, .int .i64 i, .int .i64 j, .int .i64 k, .string T, .string S] 23) = w0 at *
  have hz := decZ true (decide_eq_true h) (zz5 true F N i j k T S true w0 hF hN hT hS)
  unfold zv at hz
  refine hz.mono ?_
  rintro e w1 ⟨rfl, hb1⟩
  clear hz
  have Z1 := hz0.below hb1 hs0
  have B1 : Hid (Below w.heap.size w w1) := Lib.hid (HB0.out.trans (hb1.mono (by omega)))
  have s1 := hb1.size
  obtain ⟨c0, c1, c2, c3, c4, c5, c6, c7⟩ := Z1
  have HZ1 := Lib.hid (Zb.mk c0 c1 c2 c3 c4 c5 c6 c7)
  clear hb1 hz0 HB0
  go_wp2_with fail
  have hl := locBytes true F N i j k T S w1 h
  unfold zv at hl
  refine hl.mono ?_
  rintro e w2 ⟨rfl, hb2⟩
  clear hl c0 c1 c2 c3 c4 c5 c6 c7
  have B2 : Hid (Below w.heap.size w w2) := Lib.hid (B1.out.trans (hb2.mono (by omega)))
  have s2 := hb2.size
  have HZ2 := Lib.hid (HZ1.out.below hb2 (by omega))
  obtain ⟨c0, c1, c2, c3, c4, c5, c6, c7⟩ := HZ2.out
  clear hb2 B1 HZ1
  go_wp2_with fail
  have hl := buildLoc F N i j k T S w2
  unfold zv at hl
  refine hl.mono ?_
  rintro e w3 ⟨b, rfl, hb, hP, hb3⟩
  clear hl c0 c1 c2 c3 c4 c5 c6 c7
  have B3 : Hid (Below w.heap.size w w3) := Lib.hid (B2.out.trans (hb3.mono (by omega)))
  have s3 := hb3.size
  have HZ3 := Lib.hid (HZ2.out.below hb3 (by omega))
  have HP := Lib.hid hP
  clear hb3 B2 HZ2 hP
  go_wp2_with fail
  refine (toInt b F N i j k T S w3 HP.out).mono ?_
  rintro e w4 ⟨g, rfl, hg, hI, hb4⟩
  have B4 : Hid (Below w.heap.size w w4) := Lib.hid (B3.out.trans (hb4.mono (by omega)))
  have s4 := hb4.size
  have HZ4 := Lib.hid (HZ3.out.below hb4 (by omega))
  have HI4 := Lib.hid hI
  clear hb4 B3 HZ3 hI HP
  go_wp2_with fail
  refine (toPub g F (nsOf N) i j k T S _ w4 HI4.out).mono ?_
  rintro e w5 ⟨p, rfl, hp, hP, hb5⟩
  have B5 : Hid (Below w.heap.size w w5) := Lib.hid (B4.out.trans (hb5.mono (by omega)))
  have s5 := hb5.size
  have HI5 := Lib.hid (HI4.out.below hb5 HI4.out.lt)
  have HZ5 := Lib.hid (HZ4.out.below hb5 (by omega))
  have HP5 := Lib.hid hP
  have e5 := hNS
  obtain ⟨c0, c1, c2, c3, c4, c5, c6, c7⟩ := HZ5.out
  obtain ⟨d0, d1, d2, d3, d4, d5, d6, dlt⟩ := HP5.out
  rw [hNS.out] at d1
  clear hb5 B4 HZ4 hP HI4 e5
  go_wp2_with fail
  go_quiet (fail)
  go_wp2_with fail
  have HP6 : Hid (Pub (w5.drewN nq) p F (nsOf N) i j k T S) := Lib.hid ⟨HP5.out.c0, HP5.out.c1, HP5.out.c2, HP5.out.c3, HP5.out.c4, HP5.out.c5, HP5.out.c6, HP5.out.lt⟩
  refine (toInt p F (nsOf N) i j k T S _ HP6.out).mono ?_
  rw [nsOf_nsOf]
  rintro e w6 ⟨q, rfl, hq, hI, hb6⟩
  have hb6' : Below w5.heap.size w5 w6 := below_of_drewN hb6
  have B6 : Hid (Below w.heap.size w w6) := Lib.hid (B5.out.trans (hb6'.mono (by omega)))
  have HI6 := Lib.hid (HI5.out.below hb6' HI5.out.lt)
  have HQ6 := Lib.hid hI
  clear hb6 hb6' B5 hI HI5 HP5 HP6 HZ5 c0 c1 c2 c3 c4 c5 c6 c7 d0 d1 d2 d3 d4 d5 d6
  go_wp2_with fail
  refine (locEq q g F (nsOf N) i j k T S w6 HQ6.out HI6.out).mono ?_
  rintro e w7 ⟨rfl, m, rfl⟩
  go_wp2_with fail
  go_ret
  exact ⟨rfl, below_drewN' B6.out _⟩

set_option maxHeartbeats 8000000 in
set_option maxRecDepth 100000 in
theorem mainNoneTrue (F N : ByteArray) (i j k : Int) (T S : ByteArray) (w : World) (hF : F.size ≤ maxLen) (hN : N.size ≤ maxLen) (hT : T.size ≤ maxLen) (hS : S.size ≤ maxLen) (h : F.size + N.size + T.size + S.size ≤ 1048576) :
    Calls Try.prog 3 #[zv false F N i j k T S, .bool true] w fun e w' => e = .returned (.bool true) ∧ Below w.heap.size w w' := by
  unfold zv
  go_enter Try.func3, Try.ntmps3
  go_wp2_with fail
  have hz0 : Zb (w.alloc (.cells #[.bool false, .string F, .string N, .int .i64 i, .int .i64 j, .int .i64 k, .string T, .string S] 23)) w.heap.size false F N i j k T S := Zb.of (heap_alloc_new _ _)
  have HB0 : Hid (Below w.heap.size w (w.alloc (.cells #[.bool false, .string F, .string N, .int .i64 i, .int .i64 j, .int .i64 k, .string T, .string S] 23))) := Lib.hid ((Below.refl _ _).alloc (Nat.le_refl _) _)
  have hs0 : w.heap.size < (w.alloc (.cells #[.bool false, .string F, .string N, .int .i64 i, .int .i64 j, .int .i64 k, .string T, .string S] 23)).heap.size := by simp
  generalize w.alloc (.cells #[.bool false, .string F, .string N, .int .i64 i, .int .i64 j, .int .i64 k, .string T, .string S] 23) = w0 at *
  have hz := decZ true (decide_eq_true h) (zz5 false F N i j k T S true w0 hF hN hT hS)
  unfold zv at hz
  refine hz.mono ?_
  rintro e w1 ⟨rfl, hb1⟩
  clear hz
  have Z1 := hz0.below hb1 hs0
  have B1 : Hid (Below w.heap.size w w1) := Lib.hid (HB0.out.trans (hb1.mono (by omega)))
  have s1 := hb1.size
  obtain ⟨c0, c1, c2, c3, c4, c5, c6, c7⟩ := Z1
  have HZ1 := Lib.hid (Zb.mk c0 c1 c2 c3 c4 c5 c6 c7)
  clear hb1 hz0 HB0
  go_wp2_with fail
  have hl := locBytes false F N i j k T S w1 h
  unfold zv at hl
  refine hl.mono ?_
  rintro e w2 ⟨rfl, hb2⟩
  clear hl c0 c1 c2 c3 c4 c5 c6 c7
  have B2 : Hid (Below w.heap.size w w2) := Lib.hid (B1.out.trans (hb2.mono (by omega)))
  have s2 := hb2.size
  have HZ2 := Lib.hid (HZ1.out.below hb2 (by omega))
  obtain ⟨c0, c1, c2, c3, c4, c5, c6, c7⟩ := HZ2.out
  clear hb2 B1 HZ1
  go_wp2_with fail
  have hl := buildNone F N i j k T S w2
  unfold zv at hl
  refine hl.mono ?_
  rintro e w3 ⟨rfl, hb3⟩
  clear hl c0 c1 c2 c3 c4 c5 c6 c7
  have B3 : Hid (Below w.heap.size w w3) := Lib.hid (B2.out.trans (hb3.mono (by omega)))
  have HZ3 := Lib.hid (HZ2.out.below hb3 (by omega))
  clear hb3 B2 HZ2
  go_wp2_with fail
  refine (toIntNone w3).mono ?_
  rintro e w4 ⟨rfl, rfl⟩
  go_wp2_with fail
  refine (toPubNone _ w3).mono ?_
  rintro e w5 ⟨rfl, rfl⟩
  obtain ⟨c0, c1, c2, c3, c4, c5, c6, c7⟩ := HZ3.out
  clear HZ3
  go_wp2_with fail
  go_ret
  exact ⟨rfl, B3.out⟩

set_option maxHeartbeats 8000000 in
set_option maxRecDepth 100000 in
theorem mainTrueFalseE (F N : ByteArray) (i j k : Int) (T S : ByteArray) (w : World) (hF : F.size ≤ maxLen) (hN : N.size ≤ maxLen) (hT : T.size ≤ maxLen) (hS : S.size ≤ maxLen) (h : F.size + N.size + T.size + S.size ≤ 1048576) (hE : N.toList.isEmpty = true) :
    Calls Try.prog 3 #[zv true F N i j k T S, .bool false] w fun e w' => e = .returned (.bool true) ∧ Below w.heap.size w w' := by
  unfold zv
  have hNS : Hid (nsOf N = ⟨#[102, 105, 108, 101]⟩) := Lib.hid (by unfold nsOf; rw [hE]; rfl)
  go_enter Try.func3, Try.ntmps3
  go_wp2_with fail
  have hz0 : Zb (w.alloc (.cells #[.bool true, .string F, .string N, .int .i64 i, .int .i64 j, .int .i64 k, .string T, .string S] 23)) w.heap.size true F N i j k T S := Zb.of (heap_alloc_new _ _)
  have HB0 : Hid (Below w.heap.size w (w.alloc (.cells #[.bool true, .string F, .string N, .int .i64 i, .int .i64 j, .int .i64 k, .string T, .string S] 23))) := Lib.hid ((Below.refl _ _).alloc (Nat.le_refl _) _)
  have hs0 : w.heap.size < (w.alloc (.cells #[.bool true, .string F, .string N, .int .i64 i, .int .i64 j, .int .i64 k, .string T, .string S] 23)).heap.size := by simp
  generalize w.alloc (.cells #[.bool true, .string F, .string N, .int .i64 i, .int .i64 j, .int .i64 k, .string T, .string S] 23) = w0 at *
  have hz := decZ true (decide_eq_true h) (zz5 true F N i j k T S false w0 hF hN hT hS)
  unfold zv at hz
  refine hz.mono ?_
  rintro e w1 ⟨rfl, hb1⟩
  clear hz
  have Z1 := hz0.below hb1 hs0
  have B1 : Hid (Below w.heap.size w w1) := Lib.hid (HB0.out.trans (hb1.mono (by omega)))
  have s1 := hb1.size
  obtain ⟨c0, c1, c2, c3, c4, c5, c6, c7⟩ := Z1
  have HZ1 := Lib.hid (Zb.mk c0 c1 c2 c3 c4 c5 c6 c7)
  clear hb1 hz0 HB0
  go_wp2_with fail
  have hl := locBytes true F N i j k T S w1 h
  unfold zv at hl
  refine hl.mono ?_
  rintro e w2 ⟨rfl, hb2⟩
  clear hl c0 c1 c2 c3 c4 c5 c6 c7
  have B2 : Hid (Below w.heap.size w w2) := Lib.hid (B1.out.trans (hb2.mono (by omega)))
  have s2 := hb2.size
  have HZ2 := Lib.hid (HZ1.out.below hb2 (by omega))
  obtain ⟨c0, c1, c2, c3, c4, c5, c6, c7⟩ := HZ2.out
  clear hb2 B1 HZ1
  go_wp2_with fail
  have hl := buildLoc F N i j k T S w2
  unfold zv at hl
  refine hl.mono ?_
  rintro e w3 ⟨b, rfl, hb, hP, hb3⟩
  clear hl c0 c1 c2 c3 c4 c5 c6 c7
  have B3 : Hid (Below w.heap.size w w3) := Lib.hid (B2.out.trans (hb3.mono (by omega)))
  have s3 := hb3.size
  have HZ3 := Lib.hid (HZ2.out.below hb3 (by omega))
  have HP := Lib.hid hP
  clear hb3 B2 HZ2 hP
  go_wp2_with fail
  refine (toInt b F N i j k T S w3 HP.out).mono ?_
  rintro e w4 ⟨g, rfl, hg, hI, hb4⟩
  have B4 : Hid (Below w.heap.size w w4) := Lib.hid (B3.out.trans (hb4.mono (by omega)))
  have s4 := hb4.size
  have HZ4 := Lib.hid (HZ3.out.below hb4 (by omega))
  have HI4 := Lib.hid hI
  clear hb4 B3 HZ3 hI HP
  go_wp2_with fail
  refine (toPub g F (nsOf N) i j k T S _ w4 HI4.out).mono ?_
  rintro e w5 ⟨p, rfl, hp, hP, hb5⟩
  have B5 : Hid (Below w.heap.size w w5) := Lib.hid (B4.out.trans (hb5.mono (by omega)))
  have s5 := hb5.size
  have HI5 := Lib.hid (HI4.out.below hb5 HI4.out.lt)
  have HZ5 := Lib.hid (HZ4.out.below hb5 (by omega))
  have HP5 := Lib.hid hP
  have e5 := hNS
  obtain ⟨c0, c1, c2, c3, c4, c5, c6, c7⟩ := HZ5.out
  obtain ⟨d0, d1, d2, d3, d4, d5, d6, dlt⟩ := HP5.out
  rw [hNS.out] at d1
  clear hb5 B4 HZ4 hP HI4 e5
  go_wp2_with fail
  go_quiet (fail)
  go_wp2_with fail
  have HP6 : Hid (Pub (w5.drewN nq) p F (nsOf N) i j k T S) := Lib.hid ⟨HP5.out.c0, HP5.out.c1, HP5.out.c2, HP5.out.c3, HP5.out.c4, HP5.out.c5, HP5.out.c6, HP5.out.lt⟩
  refine (toInt p F (nsOf N) i j k T S _ HP6.out).mono ?_
  rw [nsOf_nsOf]
  rintro e w6 ⟨q, rfl, hq, hI, hb6⟩
  have hb6' : Below w5.heap.size w5 w6 := below_of_drewN hb6
  have B6 : Hid (Below w.heap.size w w6) := Lib.hid (B5.out.trans (hb6'.mono (by omega)))
  have HI6 := Lib.hid (HI5.out.below hb6' HI5.out.lt)
  have HQ6 := Lib.hid hI
  clear hb6 hb6' B5 hI HI5 HP5 HP6 HZ5 c0 c1 c2 c3 c4 c5 c6 c7 d0 d1 d2 d3 d4 d5 d6
  go_wp2_with fail
  refine (locEq q g F (nsOf N) i j k T S w6 HQ6.out HI6.out).mono ?_
  rintro e w7 ⟨rfl, m, rfl⟩
  go_wp2_with fail
  go_ret
  exact ⟨rfl, below_drewN' B6.out _⟩

set_option maxHeartbeats 8000000 in
set_option maxRecDepth 100000 in
theorem mainTrueFalseF (F N : ByteArray) (i j k : Int) (T S : ByteArray) (w : World) (hF : F.size ≤ maxLen) (hN : N.size ≤ maxLen) (hT : T.size ≤ maxLen) (hS : S.size ≤ maxLen) (h : F.size + N.size + T.size + S.size ≤ 1048576) (hE : N.toList.isEmpty = false) :
    Calls Try.prog 3 #[zv true F N i j k T S, .bool false] w fun e w' => e = .returned (.bool true) ∧ Below w.heap.size w w' := by
  unfold zv
  have hNS : Hid (nsOf N = N) := Lib.hid (by unfold nsOf; rw [hE]; rfl)
  go_enter Try.func3, Try.ntmps3
  go_wp2_with fail
  have hz0 : Zb (w.alloc (.cells #[.bool true, .string F, .string N, .int .i64 i, .int .i64 j, .int .i64 k, .string T, .string S] 23)) w.heap.size true F N i j k T S := Zb.of (heap_alloc_new _ _)
  have HB0 : Hid (Below w.heap.size w (w.alloc (.cells #[.bool true, .string F, .string N, .int .i64 i, .int .i64 j, .int .i64 k, .string T, .string S] 23))) := Lib.hid ((Below.refl _ _).alloc (Nat.le_refl _) _)
  have hs0 : w.heap.size < (w.alloc (.cells #[.bool true, .string F, .string N, .int .i64 i, .int .i64 j, .int .i64 k, .string T, .string S] 23)).heap.size := by simp
  generalize w.alloc (.cells #[.bool true, .string F, .string N, .int .i64 i, .int .i64 j, .int .i64 k, .string T, .string S] 23) = w0 at *
  have hz := decZ true (decide_eq_true h) (zz5 true F N i j k T S false w0 hF hN hT hS)
  unfold zv at hz
  refine hz.mono ?_
  rintro e w1 ⟨rfl, hb1⟩
  clear hz
  have Z1 := hz0.below hb1 hs0
  have B1 : Hid (Below w.heap.size w w1) := Lib.hid (HB0.out.trans (hb1.mono (by omega)))
  have s1 := hb1.size
  obtain ⟨c0, c1, c2, c3, c4, c5, c6, c7⟩ := Z1
  have HZ1 := Lib.hid (Zb.mk c0 c1 c2 c3 c4 c5 c6 c7)
  clear hb1 hz0 HB0
  go_wp2_with fail
  have hl := locBytes true F N i j k T S w1 h
  unfold zv at hl
  refine hl.mono ?_
  rintro e w2 ⟨rfl, hb2⟩
  clear hl c0 c1 c2 c3 c4 c5 c6 c7
  have B2 : Hid (Below w.heap.size w w2) := Lib.hid (B1.out.trans (hb2.mono (by omega)))
  have s2 := hb2.size
  have HZ2 := Lib.hid (HZ1.out.below hb2 (by omega))
  obtain ⟨c0, c1, c2, c3, c4, c5, c6, c7⟩ := HZ2.out
  clear hb2 B1 HZ1
  go_wp2_with fail
  have hl := buildLoc F N i j k T S w2
  unfold zv at hl
  refine hl.mono ?_
  rintro e w3 ⟨b, rfl, hb, hP, hb3⟩
  clear hl c0 c1 c2 c3 c4 c5 c6 c7
  have B3 : Hid (Below w.heap.size w w3) := Lib.hid (B2.out.trans (hb3.mono (by omega)))
  have s3 := hb3.size
  have HZ3 := Lib.hid (HZ2.out.below hb3 (by omega))
  have HP := Lib.hid hP
  clear hb3 B2 HZ2 hP
  go_wp2_with fail
  refine (toInt b F N i j k T S w3 HP.out).mono ?_
  rintro e w4 ⟨g, rfl, hg, hI, hb4⟩
  have B4 : Hid (Below w.heap.size w w4) := Lib.hid (B3.out.trans (hb4.mono (by omega)))
  have s4 := hb4.size
  have HZ4 := Lib.hid (HZ3.out.below hb4 (by omega))
  have HI4 := Lib.hid hI
  clear hb4 B3 HZ3 hI HP
  go_wp2_with fail
  refine (toPub g F (nsOf N) i j k T S _ w4 HI4.out).mono ?_
  rintro e w5 ⟨p, rfl, hp, hP, hb5⟩
  have B5 : Hid (Below w.heap.size w w5) := Lib.hid (B4.out.trans (hb5.mono (by omega)))
  have s5 := hb5.size
  have HI5 := Lib.hid (HI4.out.below hb5 HI4.out.lt)
  have HZ5 := Lib.hid (HZ4.out.below hb5 (by omega))
  have HP5 := Lib.hid hP
  have e5 := hNS
  obtain ⟨c0, c1, c2, c3, c4, c5, c6, c7⟩ := HZ5.out
  obtain ⟨d0, d1, d2, d3, d4, d5, d6, dlt⟩ := HP5.out
  rw [hNS.out] at d1
  clear hb5 B4 HZ4 hP HI4 e5
  go_wp2_with fail
  go_quiet (fail)
  go_wp2_with fail
  have HP6 : Hid (Pub (w5.drewN nq) p F (nsOf N) i j k T S) := Lib.hid ⟨HP5.out.c0, HP5.out.c1, HP5.out.c2, HP5.out.c3, HP5.out.c4, HP5.out.c5, HP5.out.c6, HP5.out.lt⟩
  refine (toInt p F (nsOf N) i j k T S _ HP6.out).mono ?_
  rw [nsOf_nsOf]
  rintro e w6 ⟨q, rfl, hq, hI, hb6⟩
  have hb6' : Below w5.heap.size w5 w6 := below_of_drewN hb6
  have B6 : Hid (Below w.heap.size w w6) := Lib.hid (B5.out.trans (hb6'.mono (by omega)))
  have HI6 := Lib.hid (HI5.out.below hb6' HI5.out.lt)
  have HQ6 := Lib.hid hI
  clear hb6 hb6' B5 hI HI5 HP5 HP6 HZ5 c0 c1 c2 c3 c4 c5 c6 c7 d0 d1 d2 d3 d4 d5 d6
  go_wp2_with fail
  refine (locEq q g F (nsOf N) i j k T S w6 HQ6.out HI6.out).mono ?_
  rintro e w7 ⟨rfl, m, rfl⟩
  go_wp2_with fail
  go_ret
  exact ⟨rfl, below_drewN' B6.out _⟩

set_option maxHeartbeats 8000000 in
set_option maxRecDepth 100000 in
theorem mainNoneFalse (F N : ByteArray) (i j k : Int) (T S : ByteArray) (w : World) (hF : F.size ≤ maxLen) (hN : N.size ≤ maxLen) (hT : T.size ≤ maxLen) (hS : S.size ≤ maxLen) (h : F.size + N.size + T.size + S.size ≤ 1048576) :
    Calls Try.prog 3 #[zv false F N i j k T S, .bool false] w fun e w' => e = .returned (.bool true) ∧ Below w.heap.size w w' := by
  unfold zv
  go_enter Try.func3, Try.ntmps3
  go_wp2_with fail
  have hz0 : Zb (w.alloc (.cells #[.bool false, .string F, .string N, .int .i64 i, .int .i64 j, .int .i64 k, .string T, .string S] 23)) w.heap.size false F N i j k T S := Zb.of (heap_alloc_new _ _)
  have HB0 : Hid (Below w.heap.size w (w.alloc (.cells #[.bool false, .string F, .string N, .int .i64 i, .int .i64 j, .int .i64 k, .string T, .string S] 23))) := Lib.hid ((Below.refl _ _).alloc (Nat.le_refl _) _)
  have hs0 : w.heap.size < (w.alloc (.cells #[.bool false, .string F, .string N, .int .i64 i, .int .i64 j, .int .i64 k, .string T, .string S] 23)).heap.size := by simp
  generalize w.alloc (.cells #[.bool false, .string F, .string N, .int .i64 i, .int .i64 j, .int .i64 k, .string T, .string S] 23) = w0 at *
  have hz := decZ true (decide_eq_true h) (zz5 false F N i j k T S false w0 hF hN hT hS)
  unfold zv at hz
  refine hz.mono ?_
  rintro e w1 ⟨rfl, hb1⟩
  clear hz
  have Z1 := hz0.below hb1 hs0
  have B1 : Hid (Below w.heap.size w w1) := Lib.hid (HB0.out.trans (hb1.mono (by omega)))
  have s1 := hb1.size
  obtain ⟨c0, c1, c2, c3, c4, c5, c6, c7⟩ := Z1
  have HZ1 := Lib.hid (Zb.mk c0 c1 c2 c3 c4 c5 c6 c7)
  clear hb1 hz0 HB0
  go_wp2_with fail
  have hl := locBytes false F N i j k T S w1 h
  unfold zv at hl
  refine hl.mono ?_
  rintro e w2 ⟨rfl, hb2⟩
  clear hl c0 c1 c2 c3 c4 c5 c6 c7
  have B2 : Hid (Below w.heap.size w w2) := Lib.hid (B1.out.trans (hb2.mono (by omega)))
  have s2 := hb2.size
  have HZ2 := Lib.hid (HZ1.out.below hb2 (by omega))
  obtain ⟨c0, c1, c2, c3, c4, c5, c6, c7⟩ := HZ2.out
  clear hb2 B1 HZ1
  go_wp2_with fail
  have hl := buildNone F N i j k T S w2
  unfold zv at hl
  refine hl.mono ?_
  rintro e w3 ⟨rfl, hb3⟩
  clear hl c0 c1 c2 c3 c4 c5 c6 c7
  have B3 : Hid (Below w.heap.size w w3) := Lib.hid (B2.out.trans (hb3.mono (by omega)))
  have HZ3 := Lib.hid (HZ2.out.below hb3 (by omega))
  clear hb3 B2 HZ2
  go_wp2_with fail
  refine (toIntNone w3).mono ?_
  rintro e w4 ⟨rfl, rfl⟩
  go_wp2_with fail
  refine (toPubNone _ w3).mono ?_
  rintro e w5 ⟨rfl, rfl⟩
  obtain ⟨c0, c1, c2, c3, c4, c5, c6, c7⟩ := HZ3.out
  clear HZ3
  go_wp2_with fail
  go_ret
  exact ⟨rfl, B3.out⟩

theorem big (pr ab : Bool) (F N : ByteArray) (i j k : Int) (T S : ByteArray) (w : World) (hF : F.size ≤ maxLen) (hN : N.size ≤ maxLen) (hT : T.size ≤ maxLen) (hS : S.size ≤ maxLen) (h : ¬ F.size + N.size + T.size + S.size ≤ 1048576) :
    Calls Try.prog 3 #[zv pr F N i j k T S, .bool ab] w fun e w' => e = .returned (.bool true) ∧ Below w.heap.size w w' := by
  unfold zv
  go_enter Try.func3, Try.ntmps3
  go_wp2_with fail
  have hz0 : Zb (w.alloc (.cells #[.bool pr, .string F, .string N, .int .i64 i, .int .i64 j, .int .i64 k, .string T, .string S] 23)) w.heap.size pr F N i j k T S := Zb.of (heap_alloc_new _ _)
  have HB0 : Hid (Below w.heap.size w (w.alloc (.cells #[.bool pr, .string F, .string N, .int .i64 i, .int .i64 j, .int .i64 k, .string T, .string S] 23))) := Lib.hid ((Below.refl _ _).alloc (Nat.le_refl _) _)
  have hs0 : w.heap.size < (w.alloc (.cells #[.bool pr, .string F, .string N, .int .i64 i, .int .i64 j, .int .i64 k, .string T, .string S] 23)).heap.size := by simp
  generalize w.alloc (.cells #[.bool pr, .string F, .string N, .int .i64 i, .int .i64 j, .int .i64 k, .string T, .string S] 23) = w0 at *
  have hz := decZ false (decide_eq_false h) (zz5 pr F N i j k T S ab w0 hF hN hT hS)
  unfold zv at hz
  refine hz.mono ?_
  rintro e w1 ⟨rfl, hb1⟩
  clear hz
  have B1 : Hid (Below w.heap.size w w1) := Lib.hid (HB0.out.trans (hb1.mono (by omega)))
  clear hb1 hz0 HB0
  go_wp2_with fail
  go_ret
  exact ⟨rfl, B1.out⟩
theorem fnConvertLocationRoundTripThroughPublic.walk (pr ab : Bool) (F N : ByteArray) (i j k : Int) (T S : ByteArray) (w : World) (hF : F.size ≤ maxLen) (hN : N.size ≤ maxLen) (hT : T.size ≤ maxLen) (hS : S.size ≤ maxLen) :
    Calls Try.prog 3 #[zv pr F N i j k T S, .bool ab] w fun e w' => e = .returned (.bool true) ∧ Below w.heap.size w w' := by
  by_cases h : F.size + N.size + T.size + S.size ≤ 1048576
  · cases pr
    · cases ab
      · exact mainNoneFalse F N i j k T S w hF hN hT hS h
      · exact mainNoneTrue F N i j k T S w hF hN hT hS h
    · cases hE : N.toList.isEmpty
      · cases ab
        · exact mainTrueFalseF F N i j k T S w hF hN hT hS h hE
        · exact mainTrueTrueF F N i j k T S w hF hN hT hS h hE
      · cases ab
        · exact mainTrueFalseE F N i j k T S w hF hN hT hS h hE
        · exact mainTrueTrueE F N i j k T S w hF hN hT hS h hE
  · exact big pr ab F N i j k T S w hF hN hT hS h
end Go.Proofs.Ytmfccgapgmjidaa
