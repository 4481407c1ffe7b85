/- Go's double-quoted form of an ASCII string, byte by byte: what fmt's told text is there. No program in sight. -/
import Derived.Stop.FmtQuoteTie
import Derived.Lib.Strings
namespace Go.Proofs.YtcjbnieeoggfkaaFmt
open Go.Extern.FmtText
set_option linter.unusedVariables false

/-- One byte, as the law's model writes it. -/
def esc (b : UInt8) : List UInt8 :=
  if b = 34 ∨ b = 92 then [92, b]
  else if 32 ≤ b ∧ b ≤ 126 then [b]
  else if b = 7 then [92, 97] else if b = 8 then [92, 98] else if b = 12 then [92, 102] else if b = 10 then [92, 110]
  else if b = 13 then [92, 114] else if b = 9 then [92, 116] else if b = 11 then [92, 118]
  else [92, 120, (if b / 16 < 10 then 48 + b / 16 else 87 + b / 16), (if b % 16 < 10 then 48 + b % 16 else 87 + b % 16)]
theorem esc_eq : ∀ b : UInt8, b < 128 → escRune 34 false b.toNat = esc b := by
  have h : (List.range 128).all (fun n => decide (escRune 34 false n = esc (UInt8.ofNat n))) = true := by decide +kernel
  intro b hb
  have hn : b.toNat < 128 := UInt8.lt_iff_toNat_lt.1 hb
  have := List.all_eq_true.1 h b.toNat (List.mem_range.2 hn)
  simp only [decide_eq_true_eq] at this
  rw [this, UInt8.ofNat_toNat]
/-- The first k bytes, quoted. -/
def escs (l : List UInt8) : List UInt8 := l.flatMap esc
def quo (s : ByteArray) : List UInt8 := 34 :: (escs s.data.toList ++ [34])
theorem get_bang (s : ByteArray) (i : Nat) (h : i < s.size) : s.get! i = s.data.toList[i]'(by simpa using h) := by
  rcases s with ⟨a⟩
  show a[i]! = _
  rw [getElem!_pos a i h]
  simp
theorem quoteFrom_ascii (s : ByteArray) (hs : ∀ i, i < s.size → s.get! i < 128) : ∀ (fuel pos : Nat), s.size ≤ pos + fuel → quoteFrom 34 false s fuel pos = escs (s.data.toList.drop pos)
  | 0, pos, h => by
    have : s.data.toList.drop pos = [] := List.drop_eq_nil_of_le (by simpa using h)
    rw [this]; rfl
  | fuel + 1, pos, h => by
    unfold quoteFrom
    by_cases hp : pos < s.size
    · have hb := hs pos hp
      have hn : (s.get! pos).toNat < 128 := UInt8.lt_iff_toNat_lt.1 hb
      have hd : Utf8.decode s pos = ((s.get! pos).toNat, 1) := by
        unfold Utf8.decode
        simp only [Nat.add_zero]
        rw [if_pos (by omega)]
      rw [if_pos hp, hd]
      have hne : ((1 : Nat) == 1 && (s.get! pos).toNat == 65533) = false := by
        have : ((s.get! pos).toNat == 65533) = false := by rw [beq_eq_false_iff_ne]; omega
        rw [this]; rfl
      simp only []
      rw [hne]
      simp only [Bool.false_eq_true, if_false]
      rw [esc_eq _ hb, quoteFrom_ascii s hs fuel (pos + 1) (by omega)]
      have e : s.data.toList.drop pos = s.get! pos :: s.data.toList.drop (pos + 1) := by
        rw [get_bang s pos hp]
        exact List.drop_eq_getElem_cons (by simpa using hp)
      rw [e]
      simp only [escs, List.flatMap_cons]
    · rw [if_neg hp]
      have : s.data.toList.drop pos = [] := List.drop_eq_nil_of_le (by simpa using hp)
      rw [this]; rfl
theorem quote_ascii (s : ByteArray) (hs : ∀ i, i < s.size → s.get! i < 128) : quote false s.data.toList = quo s := by
  unfold quote quo
  have e : arr s.data.toList = s := by
    unfold arr; rcases s with ⟨⟨l⟩⟩; rfl
  rw [e, quoteFrom_ascii s hs _ 0 (by simp), List.drop_zero]
theorem esc_len (b : UInt8) : (esc b).length ≤ 4 := by
  unfold esc
  repeat' split
  all_goals simp
theorem escs_len (l : List UInt8) : (escs l).length ≤ 4 * l.length := by
  induction l with
  | nil => exact Nat.le_refl _
  | cons b l ih =>
    have := esc_len b
    simp only [escs, List.flatMap_cons, List.length_append, List.length_cons] at *
    omega
/-- The quoted forms, joined by a comma and a blank. -/
def joinQ (f : Nat → ByteArray) : Nat → List UInt8
  | 0 => []
  | k + 1 => joinQ f k ++ ((if k = 0 then [] else [44, 32]) ++ quo (f k))
end Go.Proofs.YtcjbnieeoggfkaaFmt
