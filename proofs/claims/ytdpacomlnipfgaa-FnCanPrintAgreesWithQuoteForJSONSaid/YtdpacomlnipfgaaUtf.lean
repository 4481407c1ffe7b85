/- UTF-8 in plain words: a scalar's bytes, a text as a chain of scalars, what quoting writes. -/
namespace Go.Proofs.Ytdpacomlnipfgaa
set_option linter.unusedVariables false
set_option linter.unusedSimpArgs false

def bt (s : ByteArray) (i : Nat) : Nat := (s.data.toList.getD i 0).toNat
theorem bt_get (s : ByteArray) (i : Nat) (h : i < s.size) : (s[i]'h).toNat = bt s i := by
  unfold bt
  rw [List.getD_eq_getElem?_getD, List.getElem?_eq_getElem (by simpa using h)]
  rfl
theorem bt_lt (s : ByteArray) (i : Nat) : bt s i < 256 := UInt8.toNat_lt _

/-- The bytes at i are those of the scalar c, w of them. -/
def Dec (s : ByteArray) (i c w : Nat) : Prop :=
  (w = 1 ∧ i + 1 ≤ s.size ∧ bt s i < 128 ∧ c = bt s i) ∨
  (w = 2 ∧ i + 2 ≤ s.size ∧ 194 ≤ bt s i ∧ bt s i ≤ 223 ∧ 128 ≤ bt s (i + 1) ∧ bt s (i + 1) < 192 ∧ c = (bt s i - 192) * 64 + (bt s (i + 1) - 128)) ∨
  (w = 3 ∧ i + 3 ≤ s.size ∧ 224 ≤ bt s i ∧ bt s i ≤ 239 ∧ 128 ≤ bt s (i + 1) ∧ bt s (i + 1) < 192 ∧ 128 ≤ bt s (i + 2) ∧ bt s (i + 2) < 192 ∧
    c = (bt s i - 224) * 4096 + (bt s (i + 1) - 128) * 64 + (bt s (i + 2) - 128) ∧ 2048 ≤ c ∧ (c < 55296 ∨ 57343 < c)) ∨
  (w = 4 ∧ i + 4 ≤ s.size ∧ 240 ≤ bt s i ∧ bt s i ≤ 244 ∧ 128 ≤ bt s (i + 1) ∧ bt s (i + 1) < 192 ∧ 128 ≤ bt s (i + 2) ∧ bt s (i + 2) < 192 ∧ 128 ≤ bt s (i + 3) ∧ bt s (i + 3) < 192 ∧
    c = (bt s i - 240) * 262144 + (bt s (i + 1) - 128) * 4096 + (bt s (i + 2) - 128) * 64 + (bt s (i + 3) - 128) ∧ 65536 ≤ c ∧ c ≤ 1114111)

theorem Dec.width {s : ByteArray} {i c w : Nat} (h : Dec s i c w) : 1 ≤ w ∧ w ≤ 4 ∧ i + w ≤ s.size := by
  unfold Dec at h; omega
theorem Dec.scalar {s : ByteArray} {i c w : Nat} (h : Dec s i c w) : c ≤ 1114111 ∧ (c < 55296 ∨ 57343 < c) ∧ (c < 128 → w = 1) := by
  unfold Dec at h; omega

/-- The text from i on is a chain of scalars. -/
inductive Chain (s : ByteArray) : Nat → List Nat → Prop
  | nil : Chain s s.size []
  | cons {i c w : Nat} {cs : List Nat} (h : Dec s i c w) (r : Chain s (i + w) cs) : Chain s i (c :: cs)
theorem Chain.le {s : ByteArray} {i : Nat} {cs : List Nat} (h : Chain s i cs) : i ≤ s.size := by
  cases h with
  | nil => exact Nat.le_refl _
  | cons h r => have := h.width; omega
theorem Chain.open_ {s : ByteArray} {i : Nat} {cs : List Nat} (h : Chain s i cs) (hi : i < s.size) : ∃ c w rest, cs = c :: rest ∧ Dec s i c w ∧ Chain s (i + w) rest := by
  cases h with
  | nil => omega
  | cons h r => exact ⟨_, _, _, rfl, h, r⟩
theorem Chain.end_ {s : ByteArray} {i : Nat} {cs : List Nat} (h : Chain s i cs) (hi : ¬ i < s.size) : cs = [] := by
  cases h with
  | nil => rfl
  | cons h r => have := h.width; omega

/-- The bytes of a scalar. -/
def enc (c : Nat) : List UInt8 :=
  if c < 128 then [UInt8.ofNat c]
  else if c < 2048 then [UInt8.ofNat (192 + c / 64), UInt8.ofNat (128 + c % 64)]
  else if c < 65536 then [UInt8.ofNat (224 + c / 4096), UInt8.ofNat (128 + c / 64 % 64), UInt8.ofNat (128 + c % 64)]
  else [UInt8.ofNat (240 + c / 262144), UInt8.ofNat (128 + c / 4096 % 64), UInt8.ofNat (128 + c / 64 % 64), UInt8.ofNat (128 + c % 64)]
theorem enc_len (c : Nat) : 1 ≤ (enc c).length ∧ (enc c).length ≤ 4 ∧ (128 ≤ c → 2 ≤ (enc c).length) ∧ (c < 128 → (enc c).length = 1) := by
  unfold enc
  split
  · simp; omega
  · split
    · simp; omega
    · split <;> (simp; omega)

/-- Can it stand as it is? -/
def plain (a : Bool) (c : Nat) : Bool :=
  if c ≤ 126 then decide (32 ≤ c) && (c != 92) && (c != 34)
  else !a && (c != 65279) && (decide (c < 55296) || decide (57343 < c))

def hex (d : Nat) : UInt8 := UInt8.ofNat (if d < 10 then 48 + d else 55 + d)
def u4 (c : Nat) : List UInt8 := [92, 117, hex (c / 4096), hex (c / 256 % 16), hex (c / 16 % 16), hex (c % 16)]
/-- What is written for a scalar between quotes q. -/
def esc (a : Bool) (q : Nat) (c : Nat) : List UInt8 :=
  if plain a c then enc c
  else if c = 8 then [92, 98] else if c = 12 then [92, 102] else if c = 10 then [92, 110] else if c = 13 then [92, 114] else if c = 9 then [92, 116]
  else if c = 92 then [92, 92] else if c = 34 then (if q = 34 then [92, 34] else [34])
  else if c ≤ 65535 then u4 c
  else u4 (55296 + (c - 65536) / 1024 % 1024) ++ u4 (56320 + (c - 65536) % 1024)
theorem u4_len (c : Nat) : (u4 c).length = 6 := rfl
theorem esc_len (a : Bool) (q c : Nat) : (esc a q c).length ≤ 12 := by
  unfold esc
  have := enc_len c
  repeat' split
  all_goals first | (simp [u4_len]; done) | omega

/-- A stretch of a text's bytes. -/
theorem ext_cat (s : ByteArray) {a b c : Nat} (h1 : a ≤ b) (h2 : b ≤ c) : (s.extract a c).data.toList = (s.extract a b).data.toList ++ (s.extract b c).data.toList := by
  simp only [ByteArray.data_extract, Array.toList_extract, List.extract_eq_take_drop]
  rw [show c - a = (b - a) + (c - b) by omega, List.take_add, List.drop_drop, show a + (b - a) = b by omega]
theorem ext_none (s : ByteArray) (a : Nat) : (s.extract a a).data.toList = [] := by
  simp [ByteArray.data_extract, Array.toList_extract, List.extract_eq_take_drop]
theorem ext_step (s : ByteArray) {a b : Nat} (h : a < b) (hb : b ≤ s.size) : (s.extract a b).data.toList = UInt8.ofNat (bt s a) :: (s.extract (a + 1) b).data.toList := by
  have hs : s.data.toList.length = s.size := by simp
  simp only [ByteArray.data_extract, Array.toList_extract, List.extract_eq_take_drop]
  rw [List.drop_eq_getElem_cons (by omega), show b - a = (b - (a + 1)) + 1 by omega, List.take_succ_cons]
  congr 1
  unfold bt
  rw [List.getD_eq_getElem?_getD, List.getElem?_eq_getElem (by omega)]
  simp
theorem bt_ext (s : ByteArray) {a b k : Nat} (h : a + k < b) (hb : b ≤ s.size) : bt (s.extract a b) k = bt s (a + k) := by
  unfold bt
  simp only [ByteArray.data_extract, Array.toList_extract, List.extract_eq_take_drop, List.getD_eq_getElem?_getD]
  rw [List.getElem?_take_of_lt (by omega), List.getElem?_drop]
theorem Dec.bytes {s : ByteArray} {i c w : Nat} (h : Dec s i c w) : (s.extract i (i + w)).data.toList = enc c := by
  unfold Dec at h
  rcases h with ⟨rfl, h1, h2, rfl⟩ | ⟨rfl, h1, h2, h3, h4, h5, h6⟩ | ⟨rfl, h1, h2, h3, h4, h5, h6, h7, h8, h9, h10⟩ | ⟨rfl, h1, h2, h3, h4, h5, h6, h7, h8, h9, h10, h11, h12⟩
  · rw [ext_step s (by omega) h1, ext_none]
    unfold enc; rw [if_pos h2]
  · rw [ext_step s (by omega) h1, ext_step s (by omega) h1, ext_none]
    unfold enc; rw [if_neg (by omega), if_pos (by omega)]
    rw [show 192 + c / 64 = bt s i by omega, show 128 + c % 64 = bt s (i + 1) by omega]
  · rw [ext_step s (by omega) h1, ext_step s (by omega) h1, ext_step s (by omega) h1, ext_none]
    unfold enc; rw [if_neg (by omega), if_neg (by omega), if_pos (by omega)]
    rw [show 224 + c / 4096 = bt s i by omega, show 128 + c / 64 % 64 = bt s (i + 1) by omega, show 128 + c % 64 = bt s (i + 2) by omega]
  · rw [ext_step s (by omega) h1, ext_step s (by omega) h1, ext_step s (by omega) h1, ext_step s (by omega) h1, ext_none]
    unfold enc; rw [if_neg (by omega), if_neg (by omega), if_neg (by omega)]
    rw [show 240 + c / 262144 = bt s i by omega, show 128 + c / 4096 % 64 = bt s (i + 1) by omega, show 128 + c / 64 % 64 = bt s (i + 2) by omega, show 128 + c % 64 = bt s (i + 3) by omega]
theorem Dec.shift {s : ByteArray} {i c w : Nat} (h : Dec s i c w) : Dec (s.extract i s.size) 0 c w := by
  have hw := h.width
  have hz : (s.extract i s.size).size = s.size - i := by simp
  have e0 : bt (s.extract i s.size) 0 = bt s i := bt_ext s (by omega) (Nat.le_refl _)
  have e1 : 2 ≤ w → bt (s.extract i s.size) (0 + 1) = bt s (i + 1) := fun _ => bt_ext s (by omega) (Nat.le_refl _)
  have e2 : 3 ≤ w → bt (s.extract i s.size) (0 + 2) = bt s (i + 2) := fun _ => bt_ext s (by omega) (Nat.le_refl _)
  have e3 : 4 ≤ w → bt (s.extract i s.size) (0 + 3) = bt s (i + 3) := fun _ => bt_ext s (by omega) (Nat.le_refl _)
  unfold Dec at h ⊢
  rw [hz, e0]
  rcases h with h | h | h | h
  · left; omega
  · right; left; rw [e1 (by omega)]; omega
  · right; right; left; rw [e1 (by omega), e2 (by omega)]; omega
  · right; right; right; rw [e1 (by omega), e2 (by omega), e3 (by omega)]; omega
end Go.Proofs.Ytdpacomlnipfgaa
