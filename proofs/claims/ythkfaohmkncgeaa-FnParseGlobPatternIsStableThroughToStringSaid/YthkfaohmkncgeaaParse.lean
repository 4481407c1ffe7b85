/- ParseGlobPattern (printed by genP.py). -/
import Derived.Test.YthkfaohmkncgeaaGlobMath
import Derived.IntWalk
import Derived.WalkSmall
namespace Go.Proofs.Ythkfaohmkncgeaa
open Go.RowKit
set_option linter.unusedVariables false
set_option linter.unusedSimpArgs false

theorem edge_at {cur : ByteArray} {i : Nat} (h : i < cur.size) : edge (cur.data.toList[i]?) = ((((cur[i]'h).toNat : Int) == 47) || (((cur[i]'h).toNat : Int) == 92)) := by
  have e : cur.data.toList[i]? = some (cur[i]'h) := by
    rw [List.getElem?_eq_getElem (by rw [size_list]; exact h)]
    rfl
  rw [e]
  generalize cur[i]'h = x
  have key : ∀ k : UInt8, ((x.toNat : Int) == (k.toNat : Int)) = (some x == some k) := fun k => by
    rw [Bool.eq_iff_iff]
    simp [← UInt8.toNat_inj]
    omega
  rw [show (47 : Int) = ((47 : UInt8).toNat : Int) from rfl, show (92 : Int) = ((92 : UInt8).toNat : Int) from rfl, key, key]
  simp [edge]
theorem not_at {cur : ByteArray} {i : Nat} (h : i < cur.size) (hne : (((cur[i]'h).toNat : Int) == 42) = false) : cur.data.toList[i]? ≠ some 42 := by
  have e : cur.data.toList[i]? = some (cur[i]'h) := by
    rw [List.getElem?_eq_getElem (by rw [size_list]; exact h)]
    rfl
  rw [e]
  intro e2
  injection e2 with e2
  rw [e2] at hne
  exact absurd hne (by decide)
theorem is_at {cur : ByteArray} {i : Nat} (h : i < cur.size) (he : (((cur[i]'h).toNat : Int) == 42) = true) : cur.data.toList[i]? = some 42 := by
  have e : cur.data.toList[i]? = some (cur[i]'h) := by
    rw [List.getElem?_eq_getElem (by rw [size_list]; exact h)]
    rfl
  rw [e]
  simp at he
  congr 1
  exact UInt8.toNat_inj.1 (by have : (42 : UInt8).toNat = 42 := rfl
                              omega)
theorem end_at {cur : ByteArray} {i : Nat} (h : cur.size ≤ i) : cur.data.toList[i]? = none := List.getElem?_eq_none (by rw [size_list]; exact h)
theorem wild2 {p r : List UInt8} {c : Nat} (h : 1 < c) (hl : edge p.getLast? = true) (hr : edge r.head? = true) : wild p c r = 2 := by simp [wild, h, hl, hr]
theorem wild1a {p r : List UInt8} {c : Nat} (h : ¬ 1 < c) : wild p c r = 1 := by simp [wild, h]
theorem wild1b {p r : List UInt8} {c : Nat} (h : edge p.getLast? = false) : wild p c r = 1 := by simp [wild, h]
theorem wild1c {p r : List UInt8} {c : Nat} (h : edge r.head? = false) : wild p c r = 1 := by simp [wild, h]
theorem step {s cur P N : ByteArray} {acc : List (ByteArray × Int)} {o c : Nat} {V : Int} (HP : ∀ ps, Parses cur.data.toList ps → Parses s.data.toList (acc ++ ps)) (hbe : ∀ k, k < o → cur.data.toList[k]? ≠ some 42) (hol : o + c ≤ cur.size) (hc0 : 0 < c)
    (HC : ∀ k, k < c → cur.data.toList[o + k]? = some 42) (hnext : cur.data.toList[o + c]? ≠ some 42) (hV : wild (cur.data.toList.take o) c (cur.data.toList.drop (o + c)) = V) (hP : P.data.toList = cur.data.toList.take o) (hN : N.data.toList = cur.data.toList.drop (o + c)) :
    ∀ ps, Parses N.data.toList ps → Parses s.data.toList ((acc ++ [(P, V)]) ++ ps) := fun ps h => by
  obtain ⟨e1, e2⟩ := split_at hbe (by rw [size_list]; exact hol) HC
  rw [List.append_assoc]
  refine HP _ ?_
  rw [e1, ← hN, ← hP]
  rw [hN] at h
  have := Parses.star P c (cur.data.toList.drop (o + c)) ps (by rw [hP]; exact e2) hc0 (by rw [head_drop]; exact hnext) h
  rw [hP, hV] at this
  rw [hN, hP]
  exact this
theorem pcells_snoc (acc : List (ByteArray × Int)) (P : ByteArray) (V : Int) : pcells (acc ++ [(P, V)]) = pcells acc ++ [.string P, .int .u8 V] := by simp [pcells]
theorem ext_take (cur : ByteArray) (o : Nat) : (cur.extract 0 o).data.toList = cur.data.toList.take o := by simp [List.extract_eq_take_drop]
theorem ext_drop (cur : ByteArray) (n : Nat) : (cur.extract n cur.size).data.toList = cur.data.toList.drop n := by
  rw [ByteArray.data_extract, Array.toList_extract, List.extract_eq_take_drop, List.take_of_length_le (by rw [List.length_drop, size_list]; omega)]

set_option maxHeartbeats 8000000 in
set_option maxRecDepth 100000 in
theorem parseGlob (s : ByteArray) (w : World) (hs : s.size ≤ 1048576) :
    Calls Try.prog 6 #[.string s] w fun e w' => ∃ v ps, e = .returned v ∧ Parses s.data.toList ps ∧ w'.ownsRow w.heap.size 35 2 v ps.length (pcells ps) ∧ Below w.heap.size w w' := by
  obtain ⟨i0, hi, hz0, hz1, hz2⟩ := info_parts Try.info35
  have HI := Lib.hid hi
  have HZ0 := Lib.hid hz0
  have HZ1 := Lib.hid hz1
  have HZ2 := Lib.hid hz2
  clear hi hz0 hz1 hz2
  go_enter Try.func6, Try.ntmps6
  go_wp2_with fail
  go_loopg [0, 2] s.size (fun g t v wr => ∃ (cur : ByteArray) (acc : List (ByteArray × Int)), g = cur.size ∧ t = .string cur ∧ Hid (∀ ps, Parses cur.data.toList ps → Parses s.data.toList (acc ++ ps)) ∧ cur.size + acc.length ≤ s.size ∧ wr.ownsRow w.heap.size 35 2 v acc.length (pcells acc) ∧ Below w.heap.size w wr)
  case atStart => exact ⟨s, [], rfl, rfl, Lib.hid (fun ps h => h), by simp, World.ownsRow_nil _ _ _ _, Below.refl _ _⟩
  case round =>
    obtain ⟨cur, acc, rfl, rfl, HP, hsz, ho, hb⟩ := hrel
    have HO := Lib.hid ho
    have HB := Lib.hid hb
    have hws := hb.size
    clear ho hb
    go_wp2_with fail
    refine (Try.strings_IndexByte cur 42 wr).mono ?_
    rintro e w1 ⟨rfl, rfl⟩
    rw [show (42 : Int).toNat.toUInt8 = 42 from rfl]
    rcases (show Lib.indexByte cur.data.toList 42 = -1 ∨ ∃ o : Nat, Lib.indexByte cur.data.toList 42 = o by
      have := Lib.indexByte_ge cur.data.toList 42
      rcases (show Lib.indexByte cur.data.toList 42 = -1 ∨ 0 ≤ Lib.indexByte cur.data.toList 42 by omega) with h | h
      · exact .inl h
      · exact .inr ⟨(Lib.indexByte cur.data.toList 42).toNat, by omega⟩) with hix | ⟨o, hix⟩
    · have hno : 42 ∉ cur.data.toList := fun hm => by
        obtain ⟨k, hk, e⟩ := List.getElem_of_mem hm
        exact Lib.indexByte_none hix k (by rw [List.getElem?_eq_getElem hk, e])
      rw [hix]
      have HF : Hid (Parses s.data.toList (acc ++ [(cur, 0)])) := Lib.hid (HP.out _ (.last cur hno))
      clear hix hno
      go_wp2_with (at_builtin; refine wpList_append_own _ rfl (.tmp 10) (.tmp 13) 23 rfl w.heap.size 35 i0 _ 2 24 Try.underlying23 HI.out HZ0.out HZ1.out HZ2.out rfl (by decide) _ _ _ rfl (by exact HO.out.alloc _) ⟨w1.heap.size, 0, none⟩ 1 1 [.string cur, .int .u8 0] rfl rfl (cell_two_new _ _ _ _) (by intro u hu; simp at hu; rcases hu with rfl | rfl <;> rfl) (by unfold maxLen; omega) (by omega) (by simp; omega) ?_; intro v2 w2 hown2 hgr2 _; have HO2 := Lib.hid hown2; have HB2 : Hid (Below w.heap.size w w2) := Lib.hid ((HB.out.alloc hws _).grown hgr2 (by simp; omega) (fun q hq => (HO.out.lt q hq).1)); clear hown2 hgr2)
      go_ret
      exact ⟨_, _, rfl, HF.out, by have := HO2.out; rw [List.length_append]; simpa [pcells] using this, HB2.out⟩
    · obtain ⟨hat, hbe⟩ := Lib.indexByte_some hix
      have hol : o < cur.size := by
        have := (List.getElem?_eq_some_iff.1 hat).1
        rw [size_list] at this
        exact this
      rw [hix]
      have HBE := Lib.hid hbe
      have HAT := Lib.hid hat
      clear hix hat hbe
      go_wp2_with fail
      go_loopg [4] (cur.size - 1) (fun g z wr => wr = w1 ∧ ∃ c : Nat, g = cur.size - c ∧ z = .int .i64 c ∧ 0 < c ∧ o + c ≤ cur.size ∧ Hid (∀ k, k < c → cur.data.toList[o + k]? = some 42))
      case atStart =>
        refine ⟨rfl, 1, rfl, rfl, by omega, by omega, Lib.hid (fun k hk => ?_)⟩
        obtain rfl : k = 0 := by omega
        exact HAT.out
      case round =>
        obtain ⟨rfl, c, rfl, rfl, hc0, hcl, HC⟩ := hrel
        by_cases hlt : o + c < cur.size
        · by_cases h42 : (((cur[o + c]'hlt).toNat : Int) == 42) = true
          · go_wp2_with fail
            go_roundg (cur.size - (c + 1))
            case rel =>
              refine ⟨rfl, c + 1, rfl, by go_num, by omega, by omega, Lib.hid (fun k hk => ?_)⟩
              rcases (show k < c ∨ k = c by omega) with h | rfl
              · exact HC.out k h
              · exact is_at hlt h42
            case measure => omega
          · have h42 : (((cur[o + c]'hlt).toNat : Int) == 42) = false := by simpa using h42
            by_cases h1 : 1 < c
            · by_cases h0 : o = 0
              · subst h0
                have hlt2 : c < cur.size := by omega
                have h42 : (((cur[c]'hlt2).toNat : Int) == 42) = false := by simpa using h42
                by_cases r47 : (((cur[c]'hlt2).toNat : Int) == 47) = true
                · skip
                  have HV : Hid (wild (cur.data.toList.take 0) c (cur.data.toList.drop (0 + c)) = 2) := Lib.hid (wild2 h1 (by rfl) (by rw [head_drop, Nat.zero_add, edge_at hlt2, r47]; rfl))
                  have HX : Hid (cur.data.toList[0 + c]? ≠ some 42) := Lib.hid (by have := not_at hlt2 h42; rw [Nat.zero_add]; exact this)
                  go_wp2_with (at_builtin; refine wpList_append_own _ rfl (.tmp 75) (.tmp 81) 23 rfl w.heap.size 35 i0 _ 2 24 Try.underlying23 HI.out HZ0.out HZ1.out HZ2.out rfl (by decide) _ _ _ rfl (by exact HO.out.alloc _) ⟨wr.heap.size, 0, none⟩ 1 1 [_, _] rfl rfl (cell_two_new _ _ _ _) (by intro u hu; simp at hu; rcases hu with rfl | rfl <;> rfl) (by unfold maxLen; omega) (by omega) (by simp; omega) ?_; intro v2 w2 hown2 hgr2 _; have HO2 := Lib.hid hown2; have HB2 : Hid (Below w.heap.size w w2) := Lib.hid ((HB.out.alloc hws _).grown hgr2 (by simp; omega) (fun q hq => (HO.out.lt q hq).1)); clear hown2 hgr2)
                  go_roundg (cur.size - (0 + c))
                  case rel => exact ⟨_, acc ++ [(ByteArray.empty, 2)], by simp, rfl, Lib.hid (step HP.out HBE.out hcl hc0 HC.out HX.out HV.out (by rfl) (by rw [Nat.zero_add]; exact ext_drop _ _)), by simp; omega, by rw [List.length_append, pcells_snoc]; exact HO2.out, HB2.out⟩
                  case measure => omega
                · have r47 : (((cur[c]'hlt2).toNat : Int) == 47) = false := by simpa using r47
                  by_cases r92 : (((cur[c]'hlt2).toNat : Int) == 92) = true
                  · skip
                    have HV : Hid (wild (cur.data.toList.take 0) c (cur.data.toList.drop (0 + c)) = 2) := Lib.hid (wild2 h1 (by rfl) (by rw [head_drop, Nat.zero_add, edge_at hlt2, r47, r92]; rfl))
                    have HX : Hid (cur.data.toList[0 + c]? ≠ some 42) := Lib.hid (by have := not_at hlt2 h42; rw [Nat.zero_add]; exact this)
                    go_wp2_with (at_builtin; refine wpList_append_own _ rfl (.tmp 75) (.tmp 81) 23 rfl w.heap.size 35 i0 _ 2 24 Try.underlying23 HI.out HZ0.out HZ1.out HZ2.out rfl (by decide) _ _ _ rfl (by exact HO.out.alloc _) ⟨wr.heap.size, 0, none⟩ 1 1 [_, _] rfl rfl (cell_two_new _ _ _ _) (by intro u hu; simp at hu; rcases hu with rfl | rfl <;> rfl) (by unfold maxLen; omega) (by omega) (by simp; omega) ?_; intro v2 w2 hown2 hgr2 _; have HO2 := Lib.hid hown2; have HB2 : Hid (Below w.heap.size w w2) := Lib.hid ((HB.out.alloc hws _).grown hgr2 (by simp; omega) (fun q hq => (HO.out.lt q hq).1)); clear hown2 hgr2)
                    go_roundg (cur.size - (0 + c))
                    case rel => exact ⟨_, acc ++ [(ByteArray.empty, 2)], by simp, rfl, Lib.hid (step HP.out HBE.out hcl hc0 HC.out HX.out HV.out (by rfl) (by rw [Nat.zero_add]; exact ext_drop _ _)), by simp; omega, by rw [List.length_append, pcells_snoc]; exact HO2.out, HB2.out⟩
                    case measure => omega
                  · have r92 : (((cur[c]'hlt2).toNat : Int) == 92) = false := by simpa using r92
                    have HV : Hid (wild (cur.data.toList.take 0) c (cur.data.toList.drop (0 + c)) = 1) := Lib.hid (wild1c (by rw [head_drop, Nat.zero_add, edge_at hlt2, r47, r92]; rfl))
                    have HX : Hid (cur.data.toList[0 + c]? ≠ some 42) := Lib.hid (by have := not_at hlt2 h42; rw [Nat.zero_add]; exact this)
                    go_wp2_with (at_builtin; refine wpList_append_own _ rfl (.tmp 75) (.tmp 81) 23 rfl w.heap.size 35 i0 _ 2 24 Try.underlying23 HI.out HZ0.out HZ1.out HZ2.out rfl (by decide) _ _ _ rfl (by exact HO.out.alloc _) ⟨wr.heap.size, 0, none⟩ 1 1 [_, _] rfl rfl (cell_two_new _ _ _ _) (by intro u hu; simp at hu; rcases hu with rfl | rfl <;> rfl) (by unfold maxLen; omega) (by omega) (by simp; omega) ?_; intro v2 w2 hown2 hgr2 _; have HO2 := Lib.hid hown2; have HB2 : Hid (Below w.heap.size w w2) := Lib.hid ((HB.out.alloc hws _).grown hgr2 (by simp; omega) (fun q hq => (HO.out.lt q hq).1)); clear hown2 hgr2)
                    go_roundg (cur.size - (0 + c))
                    case rel => exact ⟨_, acc ++ [(ByteArray.empty, 1)], by simp, rfl, Lib.hid (step HP.out HBE.out hcl hc0 HC.out HX.out HV.out (by rfl) (by rw [Nat.zero_add]; exact ext_drop _ _)), by simp; omega, by rw [List.length_append, pcells_snoc]; exact HO2.out, HB2.out⟩
                    case measure => omega
              · have hm : o - 1 < cur.size := by omega
                by_cases l47 : (((cur[o - 1]'hm).toNat : Int) == 47) = true
                · skip
                  by_cases r47 : (((cur[o + c]'hlt).toNat : Int) == 47) = true
                  · skip
                    have HV : Hid (wild (cur.data.toList.take o) c (cur.data.toList.drop (o + c)) = 2) := Lib.hid (wild2 h1 (by rw [last_take (by rw [size_list]; omega), if_neg h0, edge_at hm, l47]; rfl) (by rw [head_drop, edge_at hlt, r47]; rfl))
                    have HX : Hid (cur.data.toList[o + c]? ≠ some 42) := Lib.hid (not_at hlt h42)
                    go_wp2_with (at_builtin; refine wpList_append_own _ rfl (.tmp 75) (.tmp 81) 23 rfl w.heap.size 35 i0 _ 2 24 Try.underlying23 HI.out HZ0.out HZ1.out HZ2.out rfl (by decide) _ _ _ rfl (by exact HO.out.alloc _) ⟨wr.heap.size, 0, none⟩ 1 1 [_, _] rfl rfl (cell_two_new _ _ _ _) (by intro u hu; simp at hu; rcases hu with rfl | rfl <;> rfl) (by unfold maxLen; omega) (by omega) (by simp; omega) ?_; intro v2 w2 hown2 hgr2 _; have HO2 := Lib.hid hown2; have HB2 : Hid (Below w.heap.size w w2) := Lib.hid ((HB.out.alloc hws _).grown hgr2 (by simp; omega) (fun q hq => (HO.out.lt q hq).1)); clear hown2 hgr2)
                    go_roundg (cur.size - (o + c))
                    case rel => exact ⟨_, acc ++ [(_, 2)], by simp, rfl, Lib.hid (step HP.out HBE.out hcl hc0 HC.out HX.out HV.out (ext_take _ _) (ext_drop _ _)), by simp; omega, by rw [List.length_append, pcells_snoc]; exact HO2.out, HB2.out⟩
                    case measure => omega
                  · have r47 : (((cur[o + c]'hlt).toNat : Int) == 47) = false := by simpa using r47
                    by_cases r92 : (((cur[o + c]'hlt).toNat : Int) == 92) = true
                    · skip
                      have HV : Hid (wild (cur.data.toList.take o) c (cur.data.toList.drop (o + c)) = 2) := Lib.hid (wild2 h1 (by rw [last_take (by rw [size_list]; omega), if_neg h0, edge_at hm, l47]; rfl) (by rw [head_drop, edge_at hlt, r47, r92]; rfl))
                      have HX : Hid (cur.data.toList[o + c]? ≠ some 42) := Lib.hid (not_at hlt h42)
                      go_wp2_with (at_builtin; refine wpList_append_own _ rfl (.tmp 75) (.tmp 81) 23 rfl w.heap.size 35 i0 _ 2 24 Try.underlying23 HI.out HZ0.out HZ1.out HZ2.out rfl (by decide) _ _ _ rfl (by exact HO.out.alloc _) ⟨wr.heap.size, 0, none⟩ 1 1 [_, _] rfl rfl (cell_two_new _ _ _ _) (by intro u hu; simp at hu; rcases hu with rfl | rfl <;> rfl) (by unfold maxLen; omega) (by omega) (by simp; omega) ?_; intro v2 w2 hown2 hgr2 _; have HO2 := Lib.hid hown2; have HB2 : Hid (Below w.heap.size w w2) := Lib.hid ((HB.out.alloc hws _).grown hgr2 (by simp; omega) (fun q hq => (HO.out.lt q hq).1)); clear hown2 hgr2)
                      go_roundg (cur.size - (o + c))
                      case rel => exact ⟨_, acc ++ [(_, 2)], by simp, rfl, Lib.hid (step HP.out HBE.out hcl hc0 HC.out HX.out HV.out (ext_take _ _) (ext_drop _ _)), by simp; omega, by rw [List.length_append, pcells_snoc]; exact HO2.out, HB2.out⟩
                      case measure => omega
                    · have r92 : (((cur[o + c]'hlt).toNat : Int) == 92) = false := by simpa using r92
                      have HV : Hid (wild (cur.data.toList.take o) c (cur.data.toList.drop (o + c)) = 1) := Lib.hid (wild1c (by rw [head_drop, edge_at hlt, r47, r92]; rfl))
                      have HX : Hid (cur.data.toList[o + c]? ≠ some 42) := Lib.hid (not_at hlt h42)
                      go_wp2_with (at_builtin; refine wpList_append_own _ rfl (.tmp 75) (.tmp 81) 23 rfl w.heap.size 35 i0 _ 2 24 Try.underlying23 HI.out HZ0.out HZ1.out HZ2.out rfl (by decide) _ _ _ rfl (by exact HO.out.alloc _) ⟨wr.heap.size, 0, none⟩ 1 1 [_, _] rfl rfl (cell_two_new _ _ _ _) (by intro u hu; simp at hu; rcases hu with rfl | rfl <;> rfl) (by unfold maxLen; omega) (by omega) (by simp; omega) ?_; intro v2 w2 hown2 hgr2 _; have HO2 := Lib.hid hown2; have HB2 : Hid (Below w.heap.size w w2) := Lib.hid ((HB.out.alloc hws _).grown hgr2 (by simp; omega) (fun q hq => (HO.out.lt q hq).1)); clear hown2 hgr2)
                      go_roundg (cur.size - (o + c))
                      case rel => exact ⟨_, acc ++ [(_, 1)], by simp, rfl, Lib.hid (step HP.out HBE.out hcl hc0 HC.out HX.out HV.out (ext_take _ _) (ext_drop _ _)), by simp; omega, by rw [List.length_append, pcells_snoc]; exact HO2.out, HB2.out⟩
                      case measure => omega
                · have l47 : (((cur[o - 1]'hm).toNat : Int) == 47) = false := by simpa using l47
                  by_cases l92 : (((cur[o - 1]'hm).toNat : Int) == 92) = true
                  · skip
                    by_cases r47 : (((cur[o + c]'hlt).toNat : Int) == 47) = true
                    · skip
                      have HV : Hid (wild (cur.data.toList.take o) c (cur.data.toList.drop (o + c)) = 2) := Lib.hid (wild2 h1 (by rw [last_take (by rw [size_list]; omega), if_neg h0, edge_at hm, l47, l92]; rfl) (by rw [head_drop, edge_at hlt, r47]; rfl))
                      have HX : Hid (cur.data.toList[o + c]? ≠ some 42) := Lib.hid (not_at hlt h42)
                      go_wp2_with (at_builtin; refine wpList_append_own _ rfl (.tmp 75) (.tmp 81) 23 rfl w.heap.size 35 i0 _ 2 24 Try.underlying23 HI.out HZ0.out HZ1.out HZ2.out rfl (by decide) _ _ _ rfl (by exact HO.out.alloc _) ⟨wr.heap.size, 0, none⟩ 1 1 [_, _] rfl rfl (cell_two_new _ _ _ _) (by intro u hu; simp at hu; rcases hu with rfl | rfl <;> rfl) (by unfold maxLen; omega) (by omega) (by simp; omega) ?_; intro v2 w2 hown2 hgr2 _; have HO2 := Lib.hid hown2; have HB2 : Hid (Below w.heap.size w w2) := Lib.hid ((HB.out.alloc hws _).grown hgr2 (by simp; omega) (fun q hq => (HO.out.lt q hq).1)); clear hown2 hgr2)
                      go_roundg (cur.size - (o + c))
                      case rel => exact ⟨_, acc ++ [(_, 2)], by simp, rfl, Lib.hid (step HP.out HBE.out hcl hc0 HC.out HX.out HV.out (ext_take _ _) (ext_drop _ _)), by simp; omega, by rw [List.length_append, pcells_snoc]; exact HO2.out, HB2.out⟩
                      case measure => omega
                    · have r47 : (((cur[o + c]'hlt).toNat : Int) == 47) = false := by simpa using r47
                      by_cases r92 : (((cur[o + c]'hlt).toNat : Int) == 92) = true
                      · skip
                        have HV : Hid (wild (cur.data.toList.take o) c (cur.data.toList.drop (o + c)) = 2) := Lib.hid (wild2 h1 (by rw [last_take (by rw [size_list]; omega), if_neg h0, edge_at hm, l47, l92]; rfl) (by rw [head_drop, edge_at hlt, r47, r92]; rfl))
                        have HX : Hid (cur.data.toList[o + c]? ≠ some 42) := Lib.hid (not_at hlt h42)
                        go_wp2_with (at_builtin; refine wpList_append_own _ rfl (.tmp 75) (.tmp 81) 23 rfl w.heap.size 35 i0 _ 2 24 Try.underlying23 HI.out HZ0.out HZ1.out HZ2.out rfl (by decide) _ _ _ rfl (by exact HO.out.alloc _) ⟨wr.heap.size, 0, none⟩ 1 1 [_, _] rfl rfl (cell_two_new _ _ _ _) (by intro u hu; simp at hu; rcases hu with rfl | rfl <;> rfl) (by unfold maxLen; omega) (by omega) (by simp; omega) ?_; intro v2 w2 hown2 hgr2 _; have HO2 := Lib.hid hown2; have HB2 : Hid (Below w.heap.size w w2) := Lib.hid ((HB.out.alloc hws _).grown hgr2 (by simp; omega) (fun q hq => (HO.out.lt q hq).1)); clear hown2 hgr2)
                        go_roundg (cur.size - (o + c))
                        case rel => exact ⟨_, acc ++ [(_, 2)], by simp, rfl, Lib.hid (step HP.out HBE.out hcl hc0 HC.out HX.out HV.out (ext_take _ _) (ext_drop _ _)), by simp; omega, by rw [List.length_append, pcells_snoc]; exact HO2.out, HB2.out⟩
                        case measure => omega
                      · have r92 : (((cur[o + c]'hlt).toNat : Int) == 92) = false := by simpa using r92
                        have HV : Hid (wild (cur.data.toList.take o) c (cur.data.toList.drop (o + c)) = 1) := Lib.hid (wild1c (by rw [head_drop, edge_at hlt, r47, r92]; rfl))
                        have HX : Hid (cur.data.toList[o + c]? ≠ some 42) := Lib.hid (not_at hlt h42)
                        go_wp2_with (at_builtin; refine wpList_append_own _ rfl (.tmp 75) (.tmp 81) 23 rfl w.heap.size 35 i0 _ 2 24 Try.underlying23 HI.out HZ0.out HZ1.out HZ2.out rfl (by decide) _ _ _ rfl (by exact HO.out.alloc _) ⟨wr.heap.size, 0, none⟩ 1 1 [_, _] rfl rfl (cell_two_new _ _ _ _) (by intro u hu; simp at hu; rcases hu with rfl | rfl <;> rfl) (by unfold maxLen; omega) (by omega) (by simp; omega) ?_; intro v2 w2 hown2 hgr2 _; have HO2 := Lib.hid hown2; have HB2 : Hid (Below w.heap.size w w2) := Lib.hid ((HB.out.alloc hws _).grown hgr2 (by simp; omega) (fun q hq => (HO.out.lt q hq).1)); clear hown2 hgr2)
                        go_roundg (cur.size - (o + c))
                        case rel => exact ⟨_, acc ++ [(_, 1)], by simp, rfl, Lib.hid (step HP.out HBE.out hcl hc0 HC.out HX.out HV.out (ext_take _ _) (ext_drop _ _)), by simp; omega, by rw [List.length_append, pcells_snoc]; exact HO2.out, HB2.out⟩
                        case measure => omega
                  · have l92 : (((cur[o - 1]'hm).toNat : Int) == 92) = false := by simpa using l92
                    have HV : Hid (wild (cur.data.toList.take o) c (cur.data.toList.drop (o + c)) = 1) := Lib.hid (wild1b (by rw [last_take (by rw [size_list]; omega), if_neg h0, edge_at hm, l47, l92]; rfl))
                    have HX : Hid (cur.data.toList[o + c]? ≠ some 42) := Lib.hid (not_at hlt h42)
                    go_wp2_with (at_builtin; refine wpList_append_own _ rfl (.tmp 75) (.tmp 81) 23 rfl w.heap.size 35 i0 _ 2 24 Try.underlying23 HI.out HZ0.out HZ1.out HZ2.out rfl (by decide) _ _ _ rfl (by exact HO.out.alloc _) ⟨wr.heap.size, 0, none⟩ 1 1 [_, _] rfl rfl (cell_two_new _ _ _ _) (by intro u hu; simp at hu; rcases hu with rfl | rfl <;> rfl) (by unfold maxLen; omega) (by omega) (by simp; omega) ?_; intro v2 w2 hown2 hgr2 _; have HO2 := Lib.hid hown2; have HB2 : Hid (Below w.heap.size w w2) := Lib.hid ((HB.out.alloc hws _).grown hgr2 (by simp; omega) (fun q hq => (HO.out.lt q hq).1)); clear hown2 hgr2)
                    go_roundg (cur.size - (o + c))
                    case rel => exact ⟨_, acc ++ [(_, 1)], by simp, rfl, Lib.hid (step HP.out HBE.out hcl hc0 HC.out HX.out HV.out (ext_take _ _) (ext_drop _ _)), by simp; omega, by rw [List.length_append, pcells_snoc]; exact HO2.out, HB2.out⟩
                    case measure => omega
            · skip
              have HV : Hid (wild (cur.data.toList.take o) c (cur.data.toList.drop (o + c)) = 1) := Lib.hid (wild1a h1)
              have HX : Hid (cur.data.toList[o + c]? ≠ some 42) := Lib.hid (not_at hlt h42)
              go_wp2_with (at_builtin; refine wpList_append_own _ rfl (.tmp 75) (.tmp 81) 23 rfl w.heap.size 35 i0 _ 2 24 Try.underlying23 HI.out HZ0.out HZ1.out HZ2.out rfl (by decide) _ _ _ rfl (by exact HO.out.alloc _) ⟨wr.heap.size, 0, none⟩ 1 1 [_, _] rfl rfl (cell_two_new _ _ _ _) (by intro u hu; simp at hu; rcases hu with rfl | rfl <;> rfl) (by unfold maxLen; omega) (by omega) (by simp; omega) ?_; intro v2 w2 hown2 hgr2 _; have HO2 := Lib.hid hown2; have HB2 : Hid (Below w.heap.size w w2) := Lib.hid ((HB.out.alloc hws _).grown hgr2 (by simp; omega) (fun q hq => (HO.out.lt q hq).1)); clear hown2 hgr2)
              go_roundg (cur.size - (o + c))
              case rel => exact ⟨_, acc ++ [(_, 1)], by simp, rfl, Lib.hid (step HP.out HBE.out hcl hc0 HC.out HX.out HV.out (ext_take _ _) (ext_drop _ _)), by simp; omega, by rw [List.length_append, pcells_snoc]; exact HO2.out, HB2.out⟩
              case measure => omega
        · have heq : o + c = cur.size := by omega
          by_cases h1 : 1 < c
          · by_cases h0 : o = 0
            · subst h0
              have HV : Hid (wild (cur.data.toList.take 0) c (cur.data.toList.drop (0 + c)) = 2) := Lib.hid (wild2 h1 (by rfl) (by rw [head_drop, end_at (by omega)]; rfl))
              have HX : Hid (cur.data.toList[0 + c]? ≠ some 42) := Lib.hid (by rw [end_at (by omega)]; simp)
              go_wp2_with (at_builtin; refine wpList_append_own _ rfl (.tmp 75) (.tmp 81) 23 rfl w.heap.size 35 i0 _ 2 24 Try.underlying23 HI.out HZ0.out HZ1.out HZ2.out rfl (by decide) _ _ _ rfl (by exact HO.out.alloc _) ⟨wr.heap.size, 0, none⟩ 1 1 [_, _] rfl rfl (cell_two_new _ _ _ _) (by intro u hu; simp at hu; rcases hu with rfl | rfl <;> rfl) (by unfold maxLen; omega) (by omega) (by simp; omega) ?_; intro v2 w2 hown2 hgr2 _; have HO2 := Lib.hid hown2; have HB2 : Hid (Below w.heap.size w w2) := Lib.hid ((HB.out.alloc hws _).grown hgr2 (by simp; omega) (fun q hq => (HO.out.lt q hq).1)); clear hown2 hgr2)
              go_roundg (cur.size - (0 + c))
              case rel => exact ⟨_, acc ++ [(ByteArray.empty, 2)], by show _ = 0; omega, rfl, Lib.hid (step HP.out HBE.out hcl hc0 HC.out HX.out HV.out (by rfl) (by rw [List.drop_of_length_le (by rw [size_list]; omega)]; rfl)), by rw [List.length_append, show ByteArray.empty.size = 0 from rfl]; simp; omega, by rw [List.length_append, pcells_snoc]; exact HO2.out, HB2.out⟩
              case measure => omega
            · have hm : o - 1 < cur.size := by omega
              by_cases l47 : (((cur[o - 1]'hm).toNat : Int) == 47) = true
              · skip
                have HV : Hid (wild (cur.data.toList.take o) c (cur.data.toList.drop (o + c)) = 2) := Lib.hid (wild2 h1 (by rw [last_take (by rw [size_list]; omega), if_neg h0, edge_at hm, l47]; rfl) (by rw [head_drop, end_at (by omega)]; rfl))
                have HX : Hid (cur.data.toList[o + c]? ≠ some 42) := Lib.hid (by rw [end_at (by omega)]; simp)
                go_wp2_with (at_builtin; refine wpList_append_own _ rfl (.tmp 75) (.tmp 81) 23 rfl w.heap.size 35 i0 _ 2 24 Try.underlying23 HI.out HZ0.out HZ1.out HZ2.out rfl (by decide) _ _ _ rfl (by exact HO.out.alloc _) ⟨wr.heap.size, 0, none⟩ 1 1 [_, _] rfl rfl (cell_two_new _ _ _ _) (by intro u hu; simp at hu; rcases hu with rfl | rfl <;> rfl) (by unfold maxLen; omega) (by omega) (by simp; omega) ?_; intro v2 w2 hown2 hgr2 _; have HO2 := Lib.hid hown2; have HB2 : Hid (Below w.heap.size w w2) := Lib.hid ((HB.out.alloc hws _).grown hgr2 (by simp; omega) (fun q hq => (HO.out.lt q hq).1)); clear hown2 hgr2)
                go_roundg (cur.size - (o + c))
                case rel => exact ⟨_, acc ++ [(_, 2)], by show _ = 0; omega, rfl, Lib.hid (step HP.out HBE.out hcl hc0 HC.out HX.out HV.out (ext_take _ _) (by rw [List.drop_of_length_le (by rw [size_list]; omega)]; rfl)), by rw [List.length_append, show ByteArray.empty.size = 0 from rfl]; simp; omega, by rw [List.length_append, pcells_snoc]; exact HO2.out, HB2.out⟩
                case measure => omega
              · have l47 : (((cur[o - 1]'hm).toNat : Int) == 47) = false := by simpa using l47
                by_cases l92 : (((cur[o - 1]'hm).toNat : Int) == 92) = true
                · skip
                  have HV : Hid (wild (cur.data.toList.take o) c (cur.data.toList.drop (o + c)) = 2) := Lib.hid (wild2 h1 (by rw [last_take (by rw [size_list]; omega), if_neg h0, edge_at hm, l47, l92]; rfl) (by rw [head_drop, end_at (by omega)]; rfl))
                  have HX : Hid (cur.data.toList[o + c]? ≠ some 42) := Lib.hid (by rw [end_at (by omega)]; simp)
                  go_wp2_with (at_builtin; refine wpList_append_own _ rfl (.tmp 75) (.tmp 81) 23 rfl w.heap.size 35 i0 _ 2 24 Try.underlying23 HI.out HZ0.out HZ1.out HZ2.out rfl (by decide) _ _ _ rfl (by exact HO.out.alloc _) ⟨wr.heap.size, 0, none⟩ 1 1 [_, _] rfl rfl (cell_two_new _ _ _ _) (by intro u hu; simp at hu; rcases hu with rfl | rfl <;> rfl) (by unfold maxLen; omega) (by omega) (by simp; omega) ?_; intro v2 w2 hown2 hgr2 _; have HO2 := Lib.hid hown2; have HB2 : Hid (Below w.heap.size w w2) := Lib.hid ((HB.out.alloc hws _).grown hgr2 (by simp; omega) (fun q hq => (HO.out.lt q hq).1)); clear hown2 hgr2)
                  go_roundg (cur.size - (o + c))
                  case rel => exact ⟨_, acc ++ [(_, 2)], by show _ = 0; omega, rfl, Lib.hid (step HP.out HBE.out hcl hc0 HC.out HX.out HV.out (ext_take _ _) (by rw [List.drop_of_length_le (by rw [size_list]; omega)]; rfl)), by rw [List.length_append, show ByteArray.empty.size = 0 from rfl]; simp; omega, by rw [List.length_append, pcells_snoc]; exact HO2.out, HB2.out⟩
                  case measure => omega
                · have l92 : (((cur[o - 1]'hm).toNat : Int) == 92) = false := by simpa using l92
                  have HV : Hid (wild (cur.data.toList.take o) c (cur.data.toList.drop (o + c)) = 1) := Lib.hid (wild1b (by rw [last_take (by rw [size_list]; omega), if_neg h0, edge_at hm, l47, l92]; rfl))
                  have HX : Hid (cur.data.toList[o + c]? ≠ some 42) := Lib.hid (by rw [end_at (by omega)]; simp)
                  go_wp2_with (at_builtin; refine wpList_append_own _ rfl (.tmp 75) (.tmp 81) 23 rfl w.heap.size 35 i0 _ 2 24 Try.underlying23 HI.out HZ0.out HZ1.out HZ2.out rfl (by decide) _ _ _ rfl (by exact HO.out.alloc _) ⟨wr.heap.size, 0, none⟩ 1 1 [_, _] rfl rfl (cell_two_new _ _ _ _) (by intro u hu; simp at hu; rcases hu with rfl | rfl <;> rfl) (by unfold maxLen; omega) (by omega) (by simp; omega) ?_; intro v2 w2 hown2 hgr2 _; have HO2 := Lib.hid hown2; have HB2 : Hid (Below w.heap.size w w2) := Lib.hid ((HB.out.alloc hws _).grown hgr2 (by simp; omega) (fun q hq => (HO.out.lt q hq).1)); clear hown2 hgr2)
                  go_roundg (cur.size - (o + c))
                  case rel => exact ⟨_, acc ++ [(_, 1)], by simp, rfl, Lib.hid (step HP.out HBE.out hcl hc0 HC.out HX.out HV.out (ext_take _ _) (ext_drop _ _)), by simp; omega, by rw [List.length_append, pcells_snoc]; exact HO2.out, HB2.out⟩
                  case measure => omega
          · skip
            have HV : Hid (wild (cur.data.toList.take o) c (cur.data.toList.drop (o + c)) = 1) := Lib.hid (wild1a h1)
            have HX : Hid (cur.data.toList[o + c]? ≠ some 42) := Lib.hid (by rw [end_at (by omega)]; simp)
            go_wp2_with (at_builtin; refine wpList_append_own _ rfl (.tmp 75) (.tmp 81) 23 rfl w.heap.size 35 i0 _ 2 24 Try.underlying23 HI.out HZ0.out HZ1.out HZ2.out rfl (by decide) _ _ _ rfl (by exact HO.out.alloc _) ⟨wr.heap.size, 0, none⟩ 1 1 [_, _] rfl rfl (cell_two_new _ _ _ _) (by intro u hu; simp at hu; rcases hu with rfl | rfl <;> rfl) (by unfold maxLen; omega) (by omega) (by simp; omega) ?_; intro v2 w2 hown2 hgr2 _; have HO2 := Lib.hid hown2; have HB2 : Hid (Below w.heap.size w w2) := Lib.hid ((HB.out.alloc hws _).grown hgr2 (by simp; omega) (fun q hq => (HO.out.lt q hq).1)); clear hown2 hgr2)
            go_roundg (cur.size - (o + c))
            case rel => exact ⟨_, acc ++ [(_, 1)], by show _ = 0; omega, rfl, Lib.hid (step HP.out HBE.out hcl hc0 HC.out HX.out HV.out (ext_take _ _) (by rw [List.drop_of_length_le (by rw [size_list]; omega)]; rfl)), by rw [List.length_append, show ByteArray.empty.size = 0 from rfl]; simp; omega, by rw [List.length_append, pcells_snoc]; exact HO2.out, HB2.out⟩
            case measure => omega
end Go.Proofs.Ythkfaohmkncgeaa
