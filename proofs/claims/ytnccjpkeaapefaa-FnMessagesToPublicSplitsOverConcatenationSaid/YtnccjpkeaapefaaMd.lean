/- pickB, pickS, the id's text. -/
import Derived.Test.YtnccjpkeaapefaaMb
import Derived.Test.YtnccjpkeaapefaaMc
import Derived.Test.YtnccjpkeaapefaaMem
namespace Go.Proofs.Ytnccjpkeaapefaa
open Go.RowKit
set_option linter.unusedVariables false
set_option linter.unusedSimpArgs false
def idText (a : Int) : ByteArray := match (idOf a : Value) with
  | Value.agg cs => match (cs[0]? : Option Value) with
    | some (Value.string t) => t
    | _ => ⟨#[]⟩
  | _ => ⟨#[]⟩
theorem id_eq (a : Int) : ∃ n, idOf a = .agg #[.string (idText a), .int .u8 n] := by
  obtain ⟨t, n, h⟩ := idStr a
  refine ⟨n, ?_⟩
  unfold idText
  rw [h]
  rfl
@[go_sem] theorem field64 (t : ByteArray) (n : Int) (w : World) : (Instr.field 64 (.agg #[.string t, .int .u8 n]) 0).run Try.prog w = .ok (.string t) w := by kernel_rfl
theorem msgStr (a : Int) (h0 : 0 ≤ a) (w : World) : Calls Try.prog 18 #[.int .u8 a] w fun e w' => e = .returned (.string (idText a)) ∧ Below w.heap.size w w' := by
  obtain ⟨n, hi⟩ := id_eq a
  generalize idText a = t at *
  go_enter Try.func18, Try.ntmps18
  go_wp2_with (go_at_call 20; refine (info a h0 _).mono ?_; rw [hi]; rintro e w' ⟨rfl, hb⟩)
  go_ret
  exact ⟨rfl, hb⟩
theorem pickB (A : Option Addr) (n c B : Nat) (f : Nat → Int) (i : Nat) (w : World) (hrow : RowF w B A n (fun j => .int .u8 (f j))) (hn : n ≤ 1099511627776) (hi : i ≤ 1099511627776) :
    Calls Try.prog 11 #[.slice A n c, .int .i64 i] w fun e w' => e = .returned (.int .u8 (if i < n then f i else 0)) ∧ w' = w := by
  by_cases h : i < n
  · obtain ⟨b, o, rfl, hb, hc⟩ := hrow.at_ h
    rw [if_pos h]
    clear hrow
    go_enter Try.func11, Try.ntmps11
    go_wp2
    all_goals go_ret
    all_goals exact ⟨rfl, rfl⟩
  · rw [if_neg h]
    clear hrow
    go_enter Try.func11, Try.ntmps11
    go_wp2
    all_goals go_ret
    all_goals exact ⟨rfl, rfl⟩
theorem pickS (A : Option Addr) (n c B : Nat) (f : Nat → ByteArray) (i : Nat) (w : World) (hrow : RowF w B A n (fun j => .string (f j))) (hn : n ≤ 1099511627776) (hi : i ≤ 1099511627776) :
    Calls Try.prog 12 #[.slice A n c, .int .i64 i] w fun e w' => e = .returned (.string (if i < n then f i else ⟨#[]⟩)) ∧ w' = w := by
  by_cases h : i < n
  · obtain ⟨b, o, rfl, hb, hc⟩ := hrow.at_ h
    rw [if_pos h]
    clear hrow
    go_enter Try.func12, Try.ntmps12
    go_wp2
    all_goals go_ret
    all_goals exact ⟨rfl, rfl⟩
  · rw [if_neg h]
    clear hrow
    go_enter Try.func12, Try.ntmps12
    go_wp2
    all_goals go_ret
    all_goals exact ⟨rfl, rfl⟩
end Go.Proofs.Ytnccjpkeaapefaa
