/-
  OUR OWN WORK. PLAIN MATHEMATICS: no Go in sight. 'enc r': the bytes that WriteRune appends for the rune r; 'rl r': what utf8.RuneLen gives.
-/
namespace Go.Proofs.YoebnwDoor

def enc (r : Int) : List Int :=
  if r < 128 then [r % 256]
  else if r < 2048 then [192 + r / 64, 128 + r % 64]
  else if 1114111 < r ∨ (55296 ≤ r ∧ r ≤ 57343) then [239, 191, 189]
  else if r < 65536 then [224 + r / 4096, 128 + r / 64 % 64, 128 + r % 64]
  else [240 + r / 262144, 128 + r / 4096 % 64, 128 + r / 64 % 64, 128 + r % 64]

theorem enc_one {r : Int} (h : r < 128) : enc r = [r % 256] := by unfold enc; rw [if_pos h]
theorem enc_two {r : Int} (h0 : 128 ≤ r) (h1 : r ≤ 2047) : enc r = [192 + r / 64, 128 + r % 64] := by unfold enc; rw [if_neg (by omega), if_pos (by omega)]
theorem enc_bad {r : Int} (h : 1114111 < r ∨ (55296 ≤ r ∧ r ≤ 57343)) : enc r = [239, 191, 189] := by unfold enc; rw [if_neg (by omega), if_neg (by omega), if_pos h]
theorem enc_three {r : Int} (h0 : 2048 ≤ r) (h : ¬ (55296 ≤ r ∧ r ≤ 57343)) (h1 : r ≤ 65535) : enc r = [224 + r / 4096, 128 + r / 64 % 64, 128 + r % 64] := by
  unfold enc; rw [if_neg (by omega), if_neg (by omega), if_neg (by omega), if_pos (by omega)]
theorem enc_four {r : Int} (h0 : 65536 ≤ r) (h1 : r ≤ 1114111) : enc r = [240 + r / 262144, 128 + r / 4096 % 64, 128 + r / 64 % 64, 128 + r % 64] := by
  unfold enc; rw [if_neg (by omega), if_neg (by omega), if_neg (by omega), if_neg (by omega)]

theorem enc_length (r : Int) : 1 ≤ (enc r).length ∧ (enc r).length ≤ 4 := by
  unfold enc
  repeat' split
  all_goals simp

def rl (r : Int) : Int :=
  if r < 0 then -1
  else if r ≤ 127 then 1
  else if r ≤ 2047 then 2
  else if 55296 ≤ r ∧ r ≤ 57343 then -1
  else if r ≤ 65535 then 3
  else if r ≤ 1114111 then 4
  else -1

theorem rl_bd (r : Int) : -1 ≤ rl r ∧ rl r ≤ 4 := by
  unfold rl
  repeat' split
  all_goals omega

end Go.Proofs.YoebnwDoor
