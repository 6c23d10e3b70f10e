/-
  THE PLAIN MATHEMATICS of the seat b6619351a: the shortest form of an unsigned number ('enc'), its length ('sz'), the decoder ('dec'), ZigZag. No Go in sight.
-/
import Derived.Lib.BitFns
import Derived.Lib.EndianZ
namespace Go.Proofs.Qxb6619351a.Plain
open Go

/-- The length of the shortest form. -/
def sz (u : Int) : Nat :=
  if u < 128 then 1 else if u < 16384 then 2 else if u < 2097152 then 3 else if u < 268435456 then 4 else if u < 34359738368 then 5
  else if u < 4398046511104 then 6 else if u < 562949953421312 then 7 else if u < 72057594037927936 then 8 else 9

/-- The k low bytes of x, the least first. -/
def byts : Nat → Int → List Int
  | 0, _ => []
  | k + 1, x => x % 256 :: byts k (x / 256)

/-- The shortest form of u. -/
def enc (u : Int) : List Int :=
  if u < 128 then byts 1 (u * 2 + 1) else if u < 16384 then byts 2 (u * 4 + 2) else if u < 2097152 then byts 3 (u * 8 + 4) else if u < 268435456 then byts 4 (u * 16 + 8)
  else if u < 34359738368 then byts 5 (u * 32 + 16) else if u < 4398046511104 then byts 6 (u * 64 + 32) else if u < 562949953421312 then byts 7 (u * 128 + 64)
  else if u < 72057594037927936 then byts 8 (u * 256 + 128) else 0 :: byts 8 u

/-- How many bytes the first byte announces. -/
def ann (b : Int) : Nat := Lib.trailingZeros8 b.toNat + 1

/-- What n bytes spell, n announced by the first. -/
def val (n : Nat) (zs : List Int) : Int :=
  if n = 9 then Lib.leZ ((zs.drop 1).take 8) else Lib.leZ (zs.take n) / (2 ^ n : Nat)

/-- The decoder. -/
def dec (zs : List Int) : Int × Nat :=
  match zs with
  | [] => (0, 0)
  | b :: r => if (b :: r).length < ann b then (0, 0) else (val (ann b) (b :: r), ann b)

theorem byts_len (k : Nat) (x : Int) : (byts k x).length = k := by
  induction k generalizing x with
  | zero => rfl
  | succ k ih => simp [byts, ih]

theorem byts_byte (k : Nat) (x : Int) : ∀ z ∈ byts k x, 0 ≤ z ∧ z ≤ 255 := by
  induction k generalizing x with
  | zero => intro z h; simp [byts] at h
  | succ k ih =>
    intro z h
    simp only [byts, List.mem_cons] at h
    rcases h with rfl | h
    · omega
    · exact ih _ z h

theorem enc_len (u : Int) : (enc u).length = sz u := by
  unfold enc sz
  repeat' split
  all_goals simp [byts_len]

theorem enc_byte (u : Int) : ∀ z ∈ enc u, 0 ≤ z ∧ z ≤ 255 := by
  unfold enc
  repeat' split
  all_goals first
    | exact byts_byte _ _
    | (intro z h; simp only [List.mem_cons] at h; exact h.elim (fun e => by omega) (fun h => byts_byte _ _ z h))

theorem sz_pos (u : Int) : 1 ≤ sz u ∧ sz u ≤ 9 := by
  unfold sz
  repeat' split
  all_goals omega

theorem tz_of : ∀ x : Fin 256, (x.val % 2 = 1 → Lib.trailingZeros8 x.val = 0) ∧ (x.val % 4 = 2 → Lib.trailingZeros8 x.val = 1) ∧ (x.val % 8 = 4 → Lib.trailingZeros8 x.val = 2) ∧
    (x.val % 16 = 8 → Lib.trailingZeros8 x.val = 3) ∧ (x.val % 32 = 16 → Lib.trailingZeros8 x.val = 4) ∧ (x.val % 64 = 32 → Lib.trailingZeros8 x.val = 5) ∧ (x.val % 128 = 64 → Lib.trailingZeros8 x.val = 6) ∧
    (x.val % 256 = 128 → Lib.trailingZeros8 x.val = 7) ∧ (x.val = 0 → Lib.trailingZeros8 x.val = 8) := by decide +kernel

theorem tz_at {b : Int} (h0 : 0 ≤ b) (h1 : b ≤ 255) : (b % 2 = 1 → Lib.trailingZeros8 b.toNat = 0) ∧ (b % 4 = 2 → Lib.trailingZeros8 b.toNat = 1) ∧ (b % 8 = 4 → Lib.trailingZeros8 b.toNat = 2) ∧
    (b % 16 = 8 → Lib.trailingZeros8 b.toNat = 3) ∧ (b % 32 = 16 → Lib.trailingZeros8 b.toNat = 4) ∧ (b % 64 = 32 → Lib.trailingZeros8 b.toNat = 5) ∧ (b % 128 = 64 → Lib.trailingZeros8 b.toNat = 6) ∧
    (b % 256 = 128 → Lib.trailingZeros8 b.toNat = 7) ∧ (b = 0 → Lib.trailingZeros8 b.toNat = 8) := by
  have h := tz_of ⟨b.toNat, by omega⟩
  refine ⟨fun e => h.1 ?_, fun e => h.2.1 ?_, fun e => h.2.2.1 ?_, fun e => h.2.2.2.1 ?_, fun e => h.2.2.2.2.1 ?_, fun e => h.2.2.2.2.2.1 ?_, fun e => h.2.2.2.2.2.2.1 ?_, fun e => h.2.2.2.2.2.2.2.1 ?_, fun e => h.2.2.2.2.2.2.2.2 ?_⟩
  all_goals (simp only; omega)

theorem tz_le (x : Fin 256) : Lib.trailingZeros8 x.val ≤ 8 := by revert x; decide +kernel

/-- The first byte of the shortest form announces its length. -/
theorem enc_head (u : Int) : ∃ b r, enc u = b :: r ∧ ann b = sz u := by
  unfold enc sz ann
  have key : ∀ x : Int, 0 ≤ x % 256 ∧ x % 256 ≤ 255 := fun x => by omega
  repeat' split
  all_goals first
    | exact ⟨_, _, rfl, by have := (tz_at (key (u * 2 + 1)).1 (key (u * 2 + 1)).2).1 (by omega); omega⟩
    | exact ⟨_, _, rfl, by have := (tz_at (key (u * 4 + 2)).1 (key (u * 4 + 2)).2).2.1 (by omega); omega⟩
    | exact ⟨_, _, rfl, by have := (tz_at (key (u * 8 + 4)).1 (key (u * 8 + 4)).2).2.2.1 (by omega); omega⟩
    | exact ⟨_, _, rfl, by have := (tz_at (key (u * 16 + 8)).1 (key (u * 16 + 8)).2).2.2.2.1 (by omega); omega⟩
    | exact ⟨_, _, rfl, by have := (tz_at (key (u * 32 + 16)).1 (key (u * 32 + 16)).2).2.2.2.2.1 (by omega); omega⟩
    | exact ⟨_, _, rfl, by have := (tz_at (key (u * 64 + 32)).1 (key (u * 64 + 32)).2).2.2.2.2.2.1 (by omega); omega⟩
    | exact ⟨_, _, rfl, by have := (tz_at (key (u * 128 + 64)).1 (key (u * 128 + 64)).2).2.2.2.2.2.2.1 (by omega); omega⟩
    | exact ⟨_, _, rfl, by have := (tz_at (key (u * 256 + 128)).1 (key (u * 256 + 128)).2).2.2.2.2.2.2.2.1 (by omega); omega⟩
    | exact ⟨_, _, rfl, by decide⟩

/-- What the k low bytes spell. -/
theorem leZ_byts (x : Int) (h : 0 ≤ x) : (x < 256 → Lib.leZ (byts 1 x) = x) ∧ (x < 65536 → Lib.leZ (byts 2 x) = x) ∧ (x < 16777216 → Lib.leZ (byts 3 x) = x) ∧ (x < 4294967296 → Lib.leZ (byts 4 x) = x) ∧
    (x < 1099511627776 → Lib.leZ (byts 5 x) = x) ∧ (x < 281474976710656 → Lib.leZ (byts 6 x) = x) ∧ (x < 72057594037927936 → Lib.leZ (byts 7 x) = x) ∧ (x < 18446744073709551616 → Lib.leZ (byts 8 x) = x) := by
  refine ⟨?_, ?_, ?_, ?_, ?_, ?_, ?_, ?_⟩
  all_goals (intro hx; simp only [byts, Lib.leZ]; omega)

theorem take_byts (k : Nat) (x : Int) (r : List Int) : (byts k x ++ r).take k = byts k x := List.take_left' (byts_len k x)

/-- What the shortest form of u, whatever follows it, spells. -/
theorem val_enc (u : Int) (h0 : 0 ≤ u) (h1 : u < 18446744073709551616) (r : List Int) : val (sz u) (enc u ++ r) = u := by
  unfold enc sz
  repeat' split
  · rw [val, if_neg (by decide), take_byts, (leZ_byts (u * 2 + 1) (by omega)).1 (by omega)]; show (u * 2 + 1) / 2 = u; omega
  · rw [val, if_neg (by decide), take_byts, (leZ_byts (u * 4 + 2) (by omega)).2.1 (by omega)]; show (u * 4 + 2) / 4 = u; omega
  · rw [val, if_neg (by decide), take_byts, (leZ_byts (u * 8 + 4) (by omega)).2.2.1 (by omega)]; show (u * 8 + 4) / 8 = u; omega
  · rw [val, if_neg (by decide), take_byts, (leZ_byts (u * 16 + 8) (by omega)).2.2.2.1 (by omega)]; show (u * 16 + 8) / 16 = u; omega
  · rw [val, if_neg (by decide), take_byts, (leZ_byts (u * 32 + 16) (by omega)).2.2.2.2.1 (by omega)]; show (u * 32 + 16) / 32 = u; omega
  · rw [val, if_neg (by decide), take_byts, (leZ_byts (u * 64 + 32) (by omega)).2.2.2.2.2.1 (by omega)]; show (u * 64 + 32) / 64 = u; omega
  · rw [val, if_neg (by decide), take_byts, (leZ_byts (u * 128 + 64) (by omega)).2.2.2.2.2.2.1 (by omega)]; show (u * 128 + 64) / 128 = u; omega
  · rw [val, if_neg (by decide), take_byts, (leZ_byts (u * 256 + 128) (by omega)).2.2.2.2.2.2.2 (by omega)]; show (u * 256 + 128) / 256 = u; omega
  · rw [val, if_pos rfl, List.cons_append, List.drop_one, List.tail_cons, take_byts, (leZ_byts u (by omega)).2.2.2.2.2.2.2 (by omega)]

/-- THE ROUND TRIP, whatever follows. -/
theorem dec_enc (u : Int) (h0 : 0 ≤ u) (h1 : u < 18446744073709551616) (r : List Int) : dec (enc u ++ r) = (u, sz u) := by
  obtain ⟨b, q, he, ha⟩ := enc_head u
  have hl := enc_len u
  have hv := val_enc u h0 h1 r
  rw [he] at hl hv ⊢
  simp only [List.cons_append, dec]
  rw [ha, if_neg (by simp only [List.length_cons, List.length_append] at hl ⊢; omega)]
  rw [List.cons_append] at hv
  rw [hv]

/-- Cut by one it is refused. -/
theorem dec_cut (u : Int) : dec ((enc u).take (sz u - 1)) = (0, 0) := by
  obtain ⟨b, q, he, ha⟩ := enc_head u
  have hl := enc_len u
  have hp := sz_pos u
  rw [he] at hl ⊢
  by_cases h : sz u = 1
  · simp [h, dec]
  · obtain ⟨k, hk⟩ : ∃ k, sz u - 1 = k + 1 := ⟨sz u - 2, by omega⟩
    rw [hk, List.take_succ_cons]
    simp only [dec, ha]
    rw [if_pos]
    simp only [List.length_cons, List.length_take] at hl ⊢
    omega

/-- ZigZag. -/
def zz (v : Int) : Int := if 0 ≤ v then 2 * v else -2 * v - 1
def unzz (u : Int) : Int := if u % 2 = 0 then u / 2 else -(u / 2) - 1
theorem unzz_zz (v : Int) : unzz (zz v) = v := by unfold unzz zz; split <;> split <;> omega
theorem zz_bd (v : Int) (h0 : -9223372036854775808 ≤ v) (h1 : v ≤ 9223372036854775807) : 0 ≤ zz v ∧ zz v < 18446744073709551616 := by unfold zz; split <;> omega

end Go.Proofs.Qxb6619351a.Plain
