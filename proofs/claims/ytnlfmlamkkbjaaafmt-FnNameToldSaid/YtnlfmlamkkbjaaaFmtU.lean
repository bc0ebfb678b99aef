/-
  No program is named here: code points and their bytes in UTF-8, how Go's decoding reads them, how they are quoted, and what their digits are.
-/
import Derived.Lib.TrimUEq
import Derived.Stop.FmtTextBases
namespace Go.Proofs.YtnlfmlamkkbjaaaFmt
open Go.Extern

/-- The bytes of a code point. -/
def encP (p : Nat) : List UInt8 :=
  if p < 128 then [UInt8.ofNat p]
  else if p < 2048 then [UInt8.ofNat (192 + p / 64), UInt8.ofNat (128 + p % 64)]
  else if p < 65536 then [UInt8.ofNat (224 + p / 4096), UInt8.ofNat (128 + p / 64 % 64), UInt8.ofNat (128 + p % 64)]
  else [UInt8.ofNat (240 + p / 262144), UInt8.ofNat (128 + p / 4096 % 64), UInt8.ofNat (128 + p / 64 % 64), UInt8.ofNat (128 + p % 64)]
/-- A code point that UTF-8 has. -/
def OkP (p : Nat) : Prop := p < 55296 ∨ (57344 ≤ p ∧ p ≤ 1114111)
def flat (ps : List Nat) : List UInt8 := ps.flatMap encP

theorem flat_append (a b : List Nat) : flat (a ++ b) = flat a ++ flat b := by simp [flat]
theorem flat_cons (p : Nat) (b : List Nat) : flat (p :: b) = encP p ++ flat b := by simp [flat]
theorem flat_snoc (a : List Nat) (p : Nat) : flat (a ++ [p]) = flat a ++ encP p := by simp [flat]
theorem encP_len (p : Nat) : 1 ≤ (encP p).length ∧ (encP p).length ≤ 4 := by
  unfold encP; repeat' split
  all_goals simp
theorem flat_len (ps : List Nat) : ps.length ≤ (flat ps).length := by
  induction ps with
  | nil => simp
  | cons p r ih => rw [flat_cons, List.length_append, List.length_cons]; have := encP_len p; omega

theorem encP_one {p : Nat} (h : p < 128) : encP p = [UInt8.ofNat p] := by unfold encP; rw [if_pos h]

/-- What Go's range reads where the bytes of a code point stand. -/
theorem decode_enc (s : ByteArray) (pos p : Nat) (rest : List UInt8) (h : s.data.toList.drop pos = encP p ++ rest) (hp : OkP p) : Utf8.decode s pos = (p, (encP p).length) := by
  have hg : ∀ k, s.data.toList.getD (pos + k) 0 = (encP p ++ rest).getD k 0 := fun k => by
    rw [← h]
    simp only [List.getD_eq_getElem?_getD, List.getElem?_drop]
  have hl : s.data.toList.length - pos = (encP p).length + rest.length := by
    have := congrArg List.length h
    rwa [List.length_drop, List.length_append] at this
  have g0 := hg 0
  rw [Nat.add_zero] at g0
  rw [Lib.decode_N, hl, g0, hg 1, hg 2, hg 3]
  unfold OkP at hp
  by_cases c1 : p < 128
  · rw [encP_one c1]
    simp [Lib.decodeN]
    have : p % 256 = p := by omega
    rw [this, if_pos c1]
  by_cases c2 : p < 2048
  · have e : encP p = [UInt8.ofNat (192 + p / 64), UInt8.ofNat (128 + p % 64)] := by unfold encP; rw [if_neg c1, if_pos c2]
    rw [e]
    simp [Lib.decodeN]
    have e0 : (192 + p / 64) % 256 = 192 + p / 64 := by omega
    have e1 : (128 + p % 64) % 256 = 128 + p % 64 := by omega
    rw [e0, e1, if_neg (by omega), if_pos (by omega), if_pos (by omega)]
    simp; omega
  by_cases c3 : p < 65536
  · have e : encP p = [UInt8.ofNat (224 + p / 4096), UInt8.ofNat (128 + p / 64 % 64), UInt8.ofNat (128 + p % 64)] := by unfold encP; rw [if_neg c1, if_neg c2, if_pos c3]
    rw [e]
    simp [Lib.decodeN]
    have e0 : (224 + p / 4096) % 256 = 224 + p / 4096 := by omega
    have e1 : (128 + p / 64 % 64) % 256 = 128 + p / 64 % 64 := by omega
    have e2 : (128 + p % 64) % 256 = 128 + p % 64 := by omega
    rw [e0, e1, e2, if_neg (by omega), if_neg (by omega), if_pos (by omega), if_pos (by omega)]
    simp; omega
  · have e : encP p = [UInt8.ofNat (240 + p / 262144), UInt8.ofNat (128 + p / 4096 % 64), UInt8.ofNat (128 + p / 64 % 64), UInt8.ofNat (128 + p % 64)] := by unfold encP; rw [if_neg c1, if_neg c2, if_neg c3]
    rw [e]
    simp [Lib.decodeN]
    have e0 : (240 + p / 262144) % 256 = 240 + p / 262144 := by omega
    have e1 : (128 + p / 4096 % 64) % 256 = 128 + p / 4096 % 64 := by omega
    have e2 : (128 + p / 64 % 64) % 256 = 128 + p / 64 % 64 := by omega
    have e3 : (128 + p % 64) % 256 = 128 + p % 64 := by omega
    rw [e0, e1, e2, e3, if_neg (by omega), if_neg (by omega), if_neg (by omega), if_pos (by omega), if_pos (by omega)]
    simp; omega

/-- A digit of base sixteen, in capitals. -/
def hx (d : Nat) : UInt8 := FmtText.digit true d
/-- How QuoteIdentifier writes a code point. -/
def qr (p : Nat) : List UInt8 :=
  if 32 ≤ p ∧ p ≤ 126 then [UInt8.ofNat p]
  else if p ≤ 65535 then [92, 117, hx (p / 4096), hx (p / 256 % 16), hx (p / 16 % 16), hx (p % 16)]
  else [92, 117, 123] ++ FmtText.numeral 16 true p ++ [125]
def quoted (ps : List Nat) : List UInt8 := ps.flatMap qr
theorem quoted_snoc (a : List Nat) (p : Nat) : quoted (a ++ [p]) = quoted a ++ qr p := by simp [quoted]
theorem quoted_cons (p : Nat) (b : List Nat) : quoted (p :: b) = qr p ++ quoted b := by simp [quoted]

theorem hx_nat (d : Nat) (h : d < 16) : (hx d).toNat = if d < 10 then 48 + d else 55 + d := by
  unfold hx FmtText.digit
  split <;> simp <;> omega

/-- The digits of a number. -/
def digs : Nat → Nat → List Nat → List Nat
  | 0, _, acc => acc
  | f + 1, u, acc => if u < 16 then u :: acc else digs f (u / 16) (u % 16 :: acc)
theorem digitsFrom_digs : ∀ (f u : Nat) (acc : List Nat), FmtText.digitsFrom 16 true f u (acc.map hx) = (digs f u acc).map hx
  | 0, _, acc => rfl
  | f + 1, u, acc => by
    rw [FmtText.digitsFrom, digs]
    split
    · rfl
    · exact digitsFrom_digs f (u / 16) (u % 16 :: acc)
def val (a : Nat) (ds : List Nat) : Nat := ds.foldl (fun a d => 16 * a + d) a
theorem digs_lt : ∀ (f u : Nat) (acc : List Nat), (∀ d ∈ acc, d < 16) → ∀ d ∈ digs f u acc, d < 16
  | 0, _, _, h => h
  | f + 1, u, acc, h => by
    rw [digs]
    split
    · intro d hd
      rcases List.mem_cons.1 hd with rfl | hd
      · assumption
      · exact h d hd
    · refine digs_lt f (u / 16) (u % 16 :: acc) (fun d hd => ?_)
      rcases List.mem_cons.1 hd with rfl | hd
      · omega
      · exact h d hd
theorem digs_val : ∀ (f u : Nat) (acc : List Nat), u < 16 ^ f → 0 < f → val 0 (digs f u acc) = val u acc
  | 0, _, _, _, h => by omega
  | f + 1, u, acc, h, _ => by
    rw [digs]
    split
    · simp [val]
    · by_cases hf : f = 0
      · subst hf; simp at h; omega
      · rw [digs_val f (u / 16) (u % 16 :: acc) (by rw [Nat.pow_succ] at h; omega) (by omega)]
        unfold val
        rw [List.foldl_cons]
        congr 1; omega
theorem digs_len : ∀ (f n u : Nat) (acc : List Nat), 0 < n → u < 16 ^ n → (digs f u acc).length ≤ n + acc.length
  | 0, _, _, _, _, _ => by simp [digs]
  | f + 1, n, u, acc, hn, h => by
    rw [digs]
    split
    · simp; omega
    · by_cases h1 : n = 1
      · subst h1; simp at h; omega
      · have := digs_len f (n - 1) (u / 16) (u % 16 :: acc) (by omega) (by
          have : 16 ^ n = 16 ^ (n - 1) * 16 := by rw [← Nat.pow_succ]; congr 1; omega
          omega)
        simp at this; omega
theorem digs_ne : ∀ (f u : Nat) (acc : List Nat), 0 < f → digs f u acc ≠ []
  | 0, _, _, h => by omega
  | f + 1, u, acc, _ => by
    rw [digs]
    split
    · simp
    · by_cases hf : f = 0
      · subst hf; simp [digs]
      · exact digs_ne f _ _ (by omega)
theorem numeral_digs (u : Nat) : FmtText.numeral 16 true u = (digs 64 u []).map hx := digitsFrom_digs 64 u []

theorem qr_len (p : Nat) (h : p ≤ 1114111) : 1 ≤ (qr p).length ∧ (qr p).length ≤ 10 := by
  unfold qr
  repeat' split
  · simp
  · simp
  · have := digs_len 64 6 p [] (by omega) (by omega)
    rw [numeral_digs]
    simp at this ⊢; omega
theorem quoted_len (ps : List Nat) (h : ∀ p ∈ ps, OkP p) : (quoted ps).length ≤ 10 * ps.length := by
  induction ps with
  | nil => simp [quoted]
  | cons p r ih =>
    rw [quoted_cons, List.length_append, List.length_cons]
    have h1 := qr_len p (by have := h p (by simp); unfold OkP at this; omega)
    have h2 := ih (fun q hq => h q (by simp [hq]))
    omega
end Go.Proofs.YtnlfmlamkkbjaaaFmt
