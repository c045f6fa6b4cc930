/-
  THE PLAIN FUNCTION that normalizePercent computes, and its steps. No Go in sight.
-/
import Derived.Test.Qxb6616416aFmtPlain
namespace Go.Proofs.Qxb6616416aFmt.Pl

/-- the upper-case hex digit of a value below 16 -/
def upN (v : Int) : Int := if v < 10 then v + 48 else v + 55
def byteOf (v : Int) : UInt8 := v.toNat.toUInt8
def b2i (c : UInt8) : Int := c.toNat
def codeOf (h l : UInt8) : Int := hexVal (b2i h) * 16 + hexVal (b2i l)
def piece (h l : UInt8) : Bytes := if unres (codeOf h l) then [byteOf (codeOf h l)] else [37, byteOf (upN (hexVal (b2i h))), byteOf (upN (hexVal (b2i l)))]
def hexes (h l : UInt8) : Bool := isHex (b2i h) && isHex (b2i l)

def norm : Bytes → Option Bytes
  | [] => some []
  | c :: r =>
    if c = 37 then
      match r with
      | h :: l :: t => if hexes h l then (norm t).map fun u => piece h l ++ u else none
      | _ => none
    else (norm r).map fun u => c :: u

theorem norm_char {c : UInt8} (r : Bytes) (hne : c ≠ 37) : norm (c :: r) = (norm r).map fun u => c :: u := by
  match r with
  | [] => simp [norm, hne]
  | [_] => rw [norm, if_neg hne]; simp
  | _ :: _ :: _ => rw [norm, if_neg hne]
theorem norm_esc (h l : UInt8) (t : Bytes) : norm (37 :: h :: l :: t) = if hexes h l then (norm t).map fun u => piece h l ++ u else none := by
  rw [norm, if_pos rfl]
theorem norm_short (r : Bytes) (hr : r.length ≤ 1) : norm (37 :: r) = none := by
  match r, hr with
  | [], _ => rfl
  | [_], _ => rfl
  | _ :: _ :: _, h => simp at h

theorem hexVal_range (c : Int) : 0 ≤ hexVal c ∧ hexVal c ≤ 15 := by
  unfold hexVal
  split
  · omega
  · split
    · omega
    · split <;> omega

theorem codeOf_range (h l : UInt8) : 0 ≤ codeOf h l ∧ codeOf h l ≤ 255 := by
  have a := hexVal_range (b2i h)
  have b := hexVal_range (b2i l)
  unfold codeOf
  omega

theorem upN_range (v : Int) (h0 : 0 ≤ v) (h1 : v ≤ 15) : 48 ≤ upN v ∧ upN v ≤ 70 := by
  unfold upN
  split <;> omega

theorem b2i_range (c : UInt8) : 0 ≤ b2i c ∧ b2i c ≤ 255 := by
  have := c.toNat_lt
  unfold b2i
  omega

theorem b2i_byteOf (v : Int) (h0 : 0 ≤ v) (h1 : v ≤ 255) : b2i (byteOf v) = v := by
  unfold b2i byteOf
  have : v.toNat.toUInt8.toNat = v.toNat := by
    rw [Nat.toUInt8_eq, UInt8.toNat_ofNat']
    exact Nat.mod_eq_of_lt (by omega)
  rw [this]; omega

theorem b2i_inj {c d : UInt8} (h : b2i c = b2i d) : c = d := by
  unfold b2i at h
  exact UInt8.toNat_inj.1 (by omega)

theorem norm_plain (p r : Bytes) (h : ∀ c ∈ p, c ≠ 37) : norm (p ++ r) = (norm r).map fun u => p ++ u := by
  induction p with
  | nil => simp
  | cons c p ih =>
    have hc : c ≠ 37 := h c (by simp)
    rw [List.cons_append, norm_char _ hc, ih (fun d hd => h d (by simp [hd]))]
    cases norm r <;> simp

/-- 'out' is what has come of the first k bytes. -/
def Done (L : Bytes) (k : Nat) (out : Bytes) : Prop := norm L = (norm (L.drop k)).map (fun u => out ++ u) ∧ out.length ≤ k

theorem done_start (L : Bytes) (o : Nat) (h : ∀ j, j < o → L[j]? ≠ some 37) : Done L o (L.take o) := by
  refine ⟨?_, List.length_take_le _ _⟩
  have e : L = L.take o ++ L.drop o := (List.take_append_drop o L).symm
  have := norm_plain (L.take o) (L.drop o) (fun c hc e => by
    obtain ⟨j, hj, hje⟩ := List.getElem_of_mem hc
    have hjo : j < o := by have := hj; simp at this; omega
    apply h j hjo
    rw [List.getElem_take] at hje
    rw [List.getElem?_eq_getElem (by have := hj; simp at this; omega), hje, e])
  rw [← e] at this
  exact this

theorem done_none (L : Bytes) (h : ∀ j : Nat, L[j]? ≠ some 37) : norm L = some L := by
  have := norm_plain L [] (fun c hc e => by
    obtain ⟨j, hj, hje⟩ := List.getElem_of_mem hc
    exact h j (by rw [List.getElem?_eq_getElem hj, hje, e]))
  simpa [norm] using this

theorem done_end {L : Bytes} {k : Nat} {out : Bytes} (h : Done L k out) (hk : L.length ≤ k) : norm L = some out := by
  rw [h.1, List.drop_of_length_le hk]
  simp [norm]

theorem done_char {L : Bytes} {k : Nat} {out : Bytes} {c : UInt8} (h : Done L k out) (hc : L[k]? = some c) (hne : c ≠ 37) : Done L (k + 1) (out ++ [c]) := by
  obtain ⟨hk, hkc⟩ := List.getElem?_eq_some_iff.1 hc
  refine ⟨?_, by have := h.2; simp; omega⟩
  rw [h.1, List.drop_eq_getElem_cons hk, hkc, norm_char _ hne]
  cases norm (List.drop (k + 1) L) <;> simp

theorem done_short {L : Bytes} {k : Nat} {out : Bytes} (h : Done L k out) (hc : L[k]? = some 37) (hs : L.length ≤ k + 2) : norm L = none := by
  obtain ⟨hk, hkc⟩ := List.getElem?_eq_some_iff.1 hc
  rw [h.1, List.drop_eq_getElem_cons hk, hkc, norm_short _ (by simp; omega)]
  rfl

theorem drop3 {L : Bytes} {k : Nat} {a b c : UInt8} (h0 : L[k]? = some a) (h1 : L[k + 1]? = some b) (h2 : L[k + 2]? = some c) : L.drop k = a :: b :: c :: L.drop (k + 3) := by
  obtain ⟨k0, e0⟩ := List.getElem?_eq_some_iff.1 h0
  obtain ⟨k1, e1⟩ := List.getElem?_eq_some_iff.1 h1
  obtain ⟨k2, e2⟩ := List.getElem?_eq_some_iff.1 h2
  rw [List.drop_eq_getElem_cons k0, List.drop_eq_getElem_cons k1, List.drop_eq_getElem_cons k2, e0, e1, e2]

theorem done_bad {L : Bytes} {k : Nat} {out : Bytes} {h l : UInt8} (hd : Done L k out) (h0 : L[k]? = some 37) (h1 : L[k + 1]? = some h) (h2 : L[k + 2]? = some l) (hx : hexes h l = false) : norm L = none := by
  rw [hd.1, drop3 h0 h1 h2, norm_esc]
  simp [hx]

theorem piece_length (h l : UInt8) : (piece h l).length ≤ 3 := by
  unfold piece
  split <;> simp

theorem done_esc {L : Bytes} {k : Nat} {out : Bytes} {h l : UInt8} (hd : Done L k out) (h0 : L[k]? = some 37) (h1 : L[k + 1]? = some h) (h2 : L[k + 2]? = some l) (hx : hexes h l = true) : Done L (k + 3) (out ++ piece h l) := by
  refine ⟨?_, by have := hd.2; have := piece_length h l; simp; omega⟩
  rw [hd.1, drop3 h0 h1 h2, norm_esc]
  simp only [hx, if_true]
  cases norm (List.drop (k + 3) L) <;> simp

theorem piece_code {h l : UInt8} (hu : unres (codeOf h l) = true) : piece h l = [byteOf (codeOf h l)] := by unfold piece; rw [if_pos hu]
theorem piece_keep {h l : UInt8} (hu : unres (codeOf h l) = false) : piece h l = [37, byteOf (upN (hexVal (b2i h))), byteOf (upN (hexVal (b2i l)))] := by unfold piece; rw [if_neg (by simp [hu])]

/-- nothing to change: the piece is as it was written -/
theorem piece_same {h l : UInt8} (hu : unres (codeOf h l) = false) (e1 : b2i h = upN (hexVal (b2i h))) (e2 : b2i l = upN (hexVal (b2i l))) : piece h l = [37, h, l] := by
  have r1 := hexVal_range (b2i h)
  have r2 := hexVal_range (b2i l)
  have u1 := upN_range _ r1.1 r1.2
  have u2 := upN_range _ r2.1 r2.2
  have g1 : byteOf (upN (hexVal (b2i h))) = h := b2i_inj (by rw [b2i_byteOf _ (by omega) (by omega)]; exact e1.symm)
  have g2 : byteOf (upN (hexVal (b2i l))) = l := b2i_inj (by rw [b2i_byteOf _ (by omega) (by omega)]; exact e2.symm)
  rw [piece_keep hu, g1, g2]

theorem take3 {L : Bytes} {k : Nat} {a b c : UInt8} (h0 : L[k]? = some a) (h1 : L[k + 1]? = some b) (h2 : L[k + 2]? = some c) : L.take k ++ [a, b, c] = L.take (k + 3) := by
  obtain ⟨k0, e0⟩ := List.getElem?_eq_some_iff.1 h0
  obtain ⟨k1, e1⟩ := List.getElem?_eq_some_iff.1 h1
  obtain ⟨k2, e2⟩ := List.getElem?_eq_some_iff.1 h2
  rw [List.take_succ_eq_append_getElem k2, List.take_succ_eq_append_getElem k1, List.take_succ_eq_append_getElem k0, e0, e1, e2]
  simp

theorem take1 {L : Bytes} {k : Nat} {a : UInt8} (h0 : L[k]? = some a) : L.take k ++ [a] = L.take (k + 1) := by
  obtain ⟨k0, e0⟩ := List.getElem?_eq_some_iff.1 h0
  rw [List.take_succ_eq_append_getElem k0, e0]

/-! ### the literal's own scan -/
/-- the bytes that a literal may hold, '%' aside -/
def punct : Bytes := [45, 46, 95, 126, 33, 36, 38, 39, 40, 41, 43, 44, 59, 61, 58, 64]
def alnum (c : Int) : Bool := decide (97 ≤ c ∧ c ≤ 122) || decide (65 ≤ c ∧ c ≤ 90) || decide (48 ≤ c ∧ c ≤ 57)
def allowed (c : UInt8) : Bool := alnum (b2i c) || punct.contains c
def letters : Bytes → Bool
  | [] => true
  | c :: r => if c = 37 then (match r with | _ :: _ :: t => letters t | _ => true) else if allowed c then letters r else false

/-- a literal segment that is taken -/
def okLit (s : Bytes) : Bool := decide (norm s = some s) && decide (s ≠ [46]) && decide (s ≠ [46, 46]) && letters s

end Go.Proofs.Qxb6616416aFmt.Pl
