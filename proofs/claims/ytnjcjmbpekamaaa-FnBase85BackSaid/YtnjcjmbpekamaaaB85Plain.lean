/- Git's base85, plainly: four bytes are five signs, and are told by them. No program in sight. -/
namespace Go.Proofs.Ytnjcjmbpekamaaa

/-- The 85 signs. -/
def b85Alpha : List UInt8 := [48,49,50,51,52,53,54,55,56,57,65,66,67,68,69,70,71,72,73,74,75,76,77,78,79,80,81,82,83,84,85,86,87,88,89,90,97,98,99,100,101,102,103,104,105,106,107,108,109,110,111,112,113,114,115,116,117,118,119,120,121,122,33,35,36,37,38,40,41,42,43,45,59,60,61,62,63,64,94,95,96,123,124,125,126]
def b85Sign (d : Nat) : UInt8 := b85Alpha.getD d 0
/-- digit j (0: the greatest) of a number -/
def b85Dig (v j : Nat) : Nat := v / 85 ^ (4 - j) % 85
/-- The number of four bytes from place k on; 0 behind the end. -/
def b85Num (bs : List UInt8) (k : Nat) : Nat := (bs.getD k 0).toNat * 16777216 + (bs.getD (k + 1) 0).toNat * 65536 + (bs.getD (k + 2) 0).toNat * 256 + (bs.getD (k + 3) 0).toNat
/-- The signs written, by their places. -/
def b85At (bs : List UInt8) (i : Nat) : UInt8 := b85Sign (b85Dig (b85Num bs (4 * (i / 5))) (i % 5))
/-- the number of the first j digits -/
def b85Pre (v j : Nat) : Nat := v / 85 ^ (5 - j)

theorem b85Sign_val : ∀ d, d < 85 → ∀ k, k < 85 → ((b85Sign k).toNat = (b85Sign d).toNat ↔ k = d) := by decide +kernel
theorem b85Num_lt (bs : List UInt8) (k : Nat) : b85Num bs k < 4294967296 := by
  unfold b85Num
  have h1 := (bs.getD k 0).toNat_lt
  have h2 := (bs.getD (k + 1) 0).toNat_lt
  have h3 := (bs.getD (k + 2) 0).toNat_lt
  have h4 := (bs.getD (k + 3) 0).toNat_lt
  omega
theorem b85Dig_lt (v j : Nat) : b85Dig v j < 85 := Nat.mod_lt _ (by decide)
theorem b85Pre_zero (v : Nat) (h : v < 4294967296) : b85Pre v 0 = 0 := by
  unfold b85Pre
  rw [show (85 : Nat) ^ (5 - 0) = 4437053125 from rfl]
  omega
theorem b85Pre_five (v : Nat) : b85Pre v 5 = v := by
  unfold b85Pre
  rw [show (85 : Nat) ^ (5 - 5) = 1 from rfl]
  omega
/-- One digit more. -/
theorem b85Pre_succ (v j : Nat) (h : j < 5) : b85Pre v (j + 1) = 85 * b85Pre v j + b85Dig v j := by
  unfold b85Pre b85Dig
  have h5 : j = 0 ∨ j = 1 ∨ j = 2 ∨ j = 3 ∨ j = 4 := by omega
  rcases h5 with rfl | rfl | rfl | rfl | rfl
  · rw [show (85 : Nat) ^ (5 - (0 + 1)) = 52200625 from rfl, show (85 : Nat) ^ (5 - 0) = 4437053125 from rfl]
    omega
  · rw [show (85 : Nat) ^ (5 - (1 + 1)) = 614125 from rfl, show (85 : Nat) ^ (5 - 1) = 52200625 from rfl]
    omega
  · rw [show (85 : Nat) ^ (5 - (2 + 1)) = 7225 from rfl, show (85 : Nat) ^ (5 - 2) = 614125 from rfl]
    omega
  · rw [show (85 : Nat) ^ (5 - (3 + 1)) = 85 from rfl, show (85 : Nat) ^ (5 - 3) = 7225 from rfl]
    omega
  · rw [show (85 : Nat) ^ (5 - (4 + 1)) = 1 from rfl, show (85 : Nat) ^ (5 - 4) = 85 from rfl]
    omega
theorem b85Pre_lt (v j : Nat) (h : v < 4294967296) : b85Pre v j < 4294967296 := Nat.lt_of_le_of_lt (Nat.div_le_self _ _) h
/-- The bytes of a number of four bytes. -/
theorem b85_byte0 (bs : List UInt8) (k : Nat) : b85Num bs k / 16777216 % 256 = (bs.getD k 0).toNat := by
  unfold b85Num
  have h1 := (bs.getD k 0).toNat_lt
  have h2 := (bs.getD (k + 1) 0).toNat_lt
  have h3 := (bs.getD (k + 2) 0).toNat_lt
  have h4 := (bs.getD (k + 3) 0).toNat_lt
  omega
theorem b85_byte1 (bs : List UInt8) (k : Nat) : b85Num bs k / 65536 % 256 = (bs.getD (k + 1) 0).toNat := by
  unfold b85Num
  have h1 := (bs.getD k 0).toNat_lt
  have h2 := (bs.getD (k + 1) 0).toNat_lt
  have h3 := (bs.getD (k + 2) 0).toNat_lt
  have h4 := (bs.getD (k + 3) 0).toNat_lt
  omega
theorem b85_byte2 (bs : List UInt8) (k : Nat) : b85Num bs k / 256 % 256 = (bs.getD (k + 2) 0).toNat := by
  unfold b85Num
  have h1 := (bs.getD k 0).toNat_lt
  have h2 := (bs.getD (k + 1) 0).toNat_lt
  have h3 := (bs.getD (k + 2) 0).toNat_lt
  have h4 := (bs.getD (k + 3) 0).toNat_lt
  omega
theorem b85_byte3 (bs : List UInt8) (k : Nat) : b85Num bs k % 256 = (bs.getD (k + 3) 0).toNat := by
  unfold b85Num
  have h1 := (bs.getD k 0).toNat_lt
  have h2 := (bs.getD (k + 1) 0).toNat_lt
  have h3 := (bs.getD (k + 2) 0).toNat_lt
  have h4 := (bs.getD (k + 3) 0).toNat_lt
  omega
end Go.Proofs.Ytnjcjmbpekamaaa
