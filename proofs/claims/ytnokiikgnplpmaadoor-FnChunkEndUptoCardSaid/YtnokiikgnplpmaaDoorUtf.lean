/-
  UTF-8 as plain arithmetic: what is encoded is decoded; texts made of runes. Conditions: as each lemma says.
-/
import Derived.Laws.RangeAny
import Derived.Laws.Runes
import Derived.Laws.Strings
namespace Go.Proofs.YtnokiikgnplpmaaDoor

/-- A rune that texts may hold here: a scalar value other than the one for what is no UTF-8. -/
def good (r : Nat) : Bool := Utf8.valid (r : Int) && decide (r ≠ 65533)

/-- The bytes of a rune. -/
def enc (r : Nat) : List UInt8 := if r < 128 then [UInt8.ofNat r] else if r < 2048 then [UInt8.ofNat (192 + r / 64), UInt8.ofNat (128 + r % 64)] else if r < 65536 then [UInt8.ofNat (224 + r / 4096), UInt8.ofNat (128 + r / 64 % 64), UInt8.ofNat (128 + r % 64)] else [UInt8.ofNat (240 + r / 262144), UInt8.ofNat (128 + r / 4096 % 64), UInt8.ofNat (128 + r / 64 % 64), UInt8.ofNat (128 + r % 64)]
/-- The bytes of runes. -/
def encs (rs : List Nat) : List UInt8 := rs.flatMap enc

theorem u8n (n : Nat) (h : n < 256) : (UInt8.ofNat n).toNat = n := by simp; omega

theorem encode_of (z : Int) (n : Nat) (hz : z.toNat = n) (hv : Utf8.valid z = true) : Utf8.encode z = (if n < 128 then (⟨#[UInt8.ofNat n]⟩ : ByteArray) else if n < 2048 then ⟨#[UInt8.ofNat (192 + n / 64), UInt8.ofNat (128 + n % 64)]⟩ else if n < 65536 then ⟨#[UInt8.ofNat (224 + n / 4096), UInt8.ofNat (128 + n / 64 % 64), UInt8.ofNat (128 + n % 64)]⟩ else ⟨#[UInt8.ofNat (240 + n / 262144), UInt8.ofNat (128 + n / 4096 % 64), UInt8.ofNat (128 + n / 64 % 64), UInt8.ofNat (128 + n % 64)]⟩) := by
  unfold Utf8.encode
  simp only [hv, if_true, hz]

theorem enc1 (r : Nat) (_hv : Utf8.valid (r : Int) = true) (h1 : r < 128) : enc r = [UInt8.ofNat r] := by
  unfold enc; rw [if_pos h1]
theorem enc2 (r : Nat) (_hv : Utf8.valid (r : Int) = true) (h1 : ¬ r < 128) (h2 : r < 2048) : enc r = [UInt8.ofNat (192 + r / 64), UInt8.ofNat (128 + r % 64)] := by
  unfold enc; rw [if_neg h1, if_pos h2]
theorem enc3 (r : Nat) (_hv : Utf8.valid (r : Int) = true) (h1 : ¬ r < 128) (h2 : ¬ r < 2048) (h3 : r < 65536) : enc r = [UInt8.ofNat (224 + r / 4096), UInt8.ofNat (128 + r / 64 % 64), UInt8.ofNat (128 + r % 64)] := by
  unfold enc; rw [if_neg h1, if_neg h2, if_pos h3]
theorem enc4 (r : Nat) (_hv : Utf8.valid (r : Int) = true) (h1 : ¬ r < 128) (h2 : ¬ r < 2048) (h3 : ¬ r < 65536) : enc r = [UInt8.ofNat (240 + r / 262144), UInt8.ofNat (128 + r / 4096 % 64), UInt8.ofNat (128 + r / 64 % 64), UInt8.ofNat (128 + r % 64)] := by
  unfold enc; rw [if_neg h1, if_neg h2, if_neg h3]
theorem encode_enc (z : Int) (r : Nat) (hz : z.toNat = r) (hv : Utf8.valid z = true) : Utf8.encode z = ⟨(enc r).toArray⟩ := by
  rw [encode_of z r hz hv]
  unfold enc
  repeat' split
  all_goals rfl

theorem valid_le (r : Nat) (hv : Utf8.valid (r : Int) = true) : r ≤ 1114111 := by
  simp [Utf8.valid] at hv; omega

theorem dec1 (s : ByteArray) (i r : Nat) (h1 : r < 128) (b0 : (s.get! i).toNat = r) : Utf8.decode s i = (r, 1) := by
  unfold Utf8.decode
  simp only [Nat.add_zero, b0]
  rw [if_pos h1]
theorem dec2 (s : ByteArray) (i r : Nat) (h1 : ¬ r < 128) (h2 : r < 2048) (hi : i + 2 ≤ s.size) (b0 : (s.get! i).toNat = 192 + r / 64) (b1 : (s.get! (i + 1)).toNat = 128 + r % 64) : Utf8.decode s i = (r, 2) := by
  have e : (192 + r / 64) % 32 * 64 + (128 + r % 64) % 64 = r := by omega
  unfold Utf8.decode
  simp only [Nat.add_zero, b0, b1, e]
  rw [if_neg (by omega), if_pos (by simp; omega), if_pos (by omega)]
theorem dec3 (s : ByteArray) (i r : Nat) (hv : Utf8.valid (r : Int) = true) (h2 : ¬ r < 2048) (h3 : r < 65536) (hi : i + 3 ≤ s.size) (b0 : (s.get! i).toNat = 224 + r / 4096) (b1 : (s.get! (i + 1)).toNat = 128 + r / 64 % 64) (b2 : (s.get! (i + 2)).toNat = 128 + r % 64) : Utf8.decode s i = (r, 3) := by
  have e : (224 + r / 4096) % 16 * 4096 + (128 + r / 64 % 64) % 64 * 64 + (128 + r % 64) % 64 = r := by omega
  unfold Utf8.decode
  simp only [Nat.add_zero, b0, b1, b2, e]
  rw [if_neg (by omega), if_neg (by simp; omega), if_pos (by simp; omega), if_pos (by simp [hv]; omega)]
theorem dec4 (s : ByteArray) (i r : Nat) (hv : Utf8.valid (r : Int) = true) (h3 : ¬ r < 65536) (hi : i + 4 ≤ s.size) (b0 : (s.get! i).toNat = 240 + r / 262144) (b1 : (s.get! (i + 1)).toNat = 128 + r / 4096 % 64) (b2 : (s.get! (i + 2)).toNat = 128 + r / 64 % 64) (b3 : (s.get! (i + 3)).toNat = 128 + r % 64) : Utf8.decode s i = (r, 4) := by
  have hr := valid_le r hv
  have e : (240 + r / 262144) % 8 * 262144 + (128 + r / 4096 % 64) % 64 * 4096 + (128 + r / 64 % 64) % 64 * 64 + (128 + r % 64) % 64 = r := by omega
  unfold Utf8.decode
  simp only [Nat.add_zero, b0, b1, b2, b3, e]
  rw [if_neg (by omega), if_neg (by simp; omega), if_neg (by simp; omega), if_pos (by simp; omega), if_pos (by simp [hv]; omega)]

/-- What is encoded is decoded, wherever it stands. -/
theorem decode_enc (s : ByteArray) (i r : Nat) (hv : Utf8.valid (r : Int) = true) (hi : i + (enc r).length ≤ s.size) (h : ∀ k, k < (enc r).length → s.get! (i + k) = (enc r).getD k 0) : Utf8.decode s i = (r, (enc r).length) := by
  have hr := valid_le r hv
  by_cases h1 : r < 128
  · rw [enc1 r hv h1] at hi h ⊢
    have a0 : s.get! i = UInt8.ofNat r := h 0 (by simp)
    exact dec1 s i r h1 (by rw [a0, u8n]; omega)
  by_cases h2 : r < 2048
  · rw [enc2 r hv h1 h2] at hi h ⊢
    have a0 : s.get! i = UInt8.ofNat (192 + r / 64) := h 0 (by simp)
    have a1 : s.get! (i + 1) = UInt8.ofNat (128 + r % 64) := h 1 (by simp)
    exact dec2 s i r h1 h2 hi (by rw [a0, u8n]; omega) (by rw [a1, u8n]; omega)
  by_cases h3 : r < 65536
  · rw [enc3 r hv h1 h2 h3] at hi h ⊢
    have a0 : s.get! i = UInt8.ofNat (224 + r / 4096) := h 0 (by simp)
    have a1 : s.get! (i + 1) = UInt8.ofNat (128 + r / 64 % 64) := h 1 (by simp)
    have a2 : s.get! (i + 2) = UInt8.ofNat (128 + r % 64) := h 2 (by simp)
    exact dec3 s i r hv h2 h3 hi (by rw [a0, u8n]; omega) (by rw [a1, u8n]; omega) (by rw [a2, u8n]; omega)
  · rw [enc4 r hv h1 h2 h3] at hi h ⊢
    have a0 : s.get! i = UInt8.ofNat (240 + r / 262144) := h 0 (by simp)
    have a1 : s.get! (i + 1) = UInt8.ofNat (128 + r / 4096 % 64) := h 1 (by simp)
    have a2 : s.get! (i + 2) = UInt8.ofNat (128 + r / 64 % 64) := h 2 (by simp)
    have a3 : s.get! (i + 3) = UInt8.ofNat (128 + r % 64) := h 3 (by simp)
    exact dec4 s i r hv h3 hi (by rw [a0, u8n]; omega) (by rw [a1, u8n]; omega) (by rw [a2, u8n]; omega) (by rw [a3, u8n]; omega)

theorem enc_len (r : Nat) (hv : Utf8.valid (r : Int) = true) : 1 ≤ (enc r).length ∧ (enc r).length ≤ 4 := by
  by_cases h1 : r < 128
  · rw [enc1 r hv h1]; simp
  by_cases h2 : r < 2048
  · rw [enc2 r hv h1 h2]; simp
  by_cases h3 : r < 65536
  · rw [enc3 r hv h1 h2 h3]; simp
  · rw [enc4 r hv h1 h2 h3]; simp

/-- decode, byte by byte. -/
def dec (n b0 b1 b2 b3 : Nat) : Nat × Nat :=
  if b0 < 128 then (b0, 1)
  else if (b0 / 32 == 6 && (decide (1 < n) && b1 / 64 == 2)) = true then
    if b0 % 32 * 64 + b1 % 64 ≥ 128 then (b0 % 32 * 64 + b1 % 64, 2) else (65533, 1)
  else if (b0 / 16 == 14 && (decide (1 < n) && b1 / 64 == 2) && (decide (2 < n) && b2 / 64 == 2)) = true then
    if (decide (b0 % 16 * 4096 + b1 % 64 * 64 + b2 % 64 ≥ 2048) && Utf8.valid ((b0 % 16 * 4096 + b1 % 64 * 64 + b2 % 64 : Nat) : Int)) = true then (b0 % 16 * 4096 + b1 % 64 * 64 + b2 % 64, 3) else (65533, 1)
  else if (b0 / 8 == 30 && (decide (1 < n) && b1 / 64 == 2) && (decide (2 < n) && b2 / 64 == 2) && (decide (3 < n) && b3 / 64 == 2)) = true then
    if (decide (b0 % 8 * 262144 + b1 % 64 * 4096 + b2 % 64 * 64 + b3 % 64 ≥ 65536) && Utf8.valid ((b0 % 8 * 262144 + b1 % 64 * 4096 + b2 % 64 * 64 + b3 % 64 : Nat) : Int)) = true then (b0 % 8 * 262144 + b1 % 64 * 4096 + b2 % 64 * 64 + b3 % 64, 4) else (65533, 1)
  else (65533, 1)

theorem decode_dec (s : ByteArray) (i : Nat) : Utf8.decode s i = dec (s.size - i) (s.get! i).toNat (s.get! (i + 1)).toNat (s.get! (i + 2)).toNat (s.get! (i + 3)).toNat := by
  have e : ∀ k, decide (k < s.size - i) = decide (i + k < s.size) := fun k => by rw [decide_eq_decide]; omega
  unfold Utf8.decode dec
  simp only [e, Nat.add_zero]
  rfl

theorem dec_width (n b0 b1 b2 b3 : Nat) (h0 : b0 < 256) (h : (dec n b0 b1 b2 b3).1 ≠ 65533) : Utf8.valid ((dec n b0 b1 b2 b3).1 : Int) = true ∧ (enc (dec n b0 b1 b2 b3).1).length = (dec n b0 b1 b2 b3).2 := by
  revert h
  unfold dec
  split
  · rename_i q
    intro _
    have hv : Utf8.valid ((b0 : Nat) : Int) = true := by simp [Utf8.valid]; omega
    exact ⟨hv, by simp only; rw [enc1 _ hv q]; rfl⟩
  split
  · rename_i q1 q2
    simp at q2
    split
    · rename_i q3
      intro _
      have hv : Utf8.valid ((b0 % 32 * 64 + b1 % 64 : Nat) : Int) = true := by simp [Utf8.valid]; omega
      exact ⟨hv, by simp only; rw [enc2 _ hv (by omega) (by omega)]; rfl⟩
    · intro q; exact absurd rfl q
  split
  · rename_i q1 q2 q3
    simp at q3
    split
    · rename_i q4
      intro _
      rw [Bool.and_eq_true] at q4
      have hv := q4.2
      have q5 := of_decide_eq_true q4.1
      exact ⟨hv, by simp only; rw [enc3 _ hv (by omega) (by omega) (by omega)]; rfl⟩
    · intro q; exact absurd rfl q
  split
  · rename_i q1 q2 q3 q4
    split
    · rename_i q5
      intro _
      rw [Bool.and_eq_true] at q5
      have hv := q5.2
      have q6 := of_decide_eq_true q5.1
      exact ⟨hv, by simp only; rw [enc4 _ hv (by omega) (by omega) (by omega)]; rfl⟩
    · intro q; exact absurd rfl q
  · intro q; exact absurd rfl q

/-- A rune that was read takes as many bytes as it is written with; what is read is a scalar value. -/
theorem decode_width (s : ByteArray) (i : Nat) (h : (Utf8.decode s i).1 ≠ 65533) : Utf8.valid ((Utf8.decode s i).1 : Int) = true ∧ (enc (Utf8.decode s i).1).length = (Utf8.decode s i).2 := by
  rw [decode_dec] at h ⊢
  exact dec_width _ _ _ _ _ (s.get! i).toNat_lt h
end Go.Proofs.YtnokiikgnplpmaaDoor
