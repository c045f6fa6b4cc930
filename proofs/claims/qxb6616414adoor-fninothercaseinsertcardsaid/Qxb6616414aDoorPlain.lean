/-
  THE PLAIN SIDE: unicode.SimpleFold over Go's tables. No model in this text.
-/
import Derived.Lib.CaseU
import Derived.Shelf.Unicode.CaseConvert
import Derived.KernelRfl
namespace Go.Proofs.Qxb6616414aDoor.Pl
open Go.Lib Go.Shelf Go.RowKit Go.Proofs
set_option maxRecDepth 100000

/-- unicode.asciiFold -/
def asciiF (r : Nat) : Nat := if 65 ≤ r ∧ r ≤ 90 then r + 32 else if r = 107 then 8490 else if r = 115 then 383 else if 97 ≤ r ∧ r ≤ 122 then r - 32 else r
/-- unicode.caseOrbit -/
def orb : List (Nat × Nat) := [(75, 107), (83, 115), (107, 8490), (115, 383), (181, 924), (197, 229), (223, 7838), (229, 8491), (304, 304), (305, 305), (383, 83), (452, 453), (453, 454), (454, 452), (455, 456), (456, 457), (457, 455), (458, 459), (459, 460), (460, 458), (497, 498), (498, 499), (499, 497), (837, 921), (912, 8147), (914, 946), (917, 949), (920, 952), (921, 953), (922, 954), (924, 956), (928, 960), (929, 961), (931, 962), (934, 966), (937, 969), (944, 8163), (946, 976), (949, 1013), (952, 977), (953, 8126), (954, 1008), (956, 181), (960, 982), (961, 1009), (962, 963), (963, 931), (966, 981), (969, 8486), (976, 914), (977, 1012), (981, 934), (982, 928), (1008, 922), (1009, 929), (1012, 920), (1013, 917), (1042, 1074), (1044, 1076), (1054, 1086), (1057, 1089), (1058, 1090), (1066, 1098), (1074, 7296), (1076, 7297), (1086, 7298), (1089, 7299), (1090, 7300), (1098, 7302), (1122, 1123), (1123, 7303), (7296, 1042), (7297, 1044), (7298, 1054), (7299, 1057), (7300, 7301), (7301, 1058), (7302, 1066), (7303, 1122), (7304, 42570), (7776, 7777), (7777, 7835), (7835, 7776), (7838, 223), (8126, 837), (8147, 912), (8163, 944), (8486, 937), (8490, 75), (8491, 197), (42570, 42571), (42571, 7304), (64261, 64262), (64262, 64261)]
/-- the binary search over it -/
def orbIdx (r : Int) : Nat → Nat → Nat → Nat
  | 0, lo, _ => lo
  | f + 1, lo, hi => if lo < hi then (if ((orb.getD ((lo + hi) / 2) (0, 0)).1 : Int) < r then orbIdx r f ((lo + hi) / 2 + 1) hi else orbIdx r f lo ((lo + hi) / 2)) else lo
def rowAt (i : Nat) : CaseRow := caseA.getD i (0, 0, 0, 0, 0)
/-- behind the two small tables -/
def sfCase (r : Int) : Int := match lookupIdx caseA r (caseA.size + 1) 0 caseA.size with
  | some i => if wrap32 (convertR 1 r (rowAt i)) = r then wrap32 (convertR 0 r (rowAt i)) else wrap32 (convertR 1 r (rowAt i))
  | none => r
/-- unicode.SimpleFold -/
def sf (r : Int) : Int :=
  if r < 0 ∨ 1114111 < r then r
  else if r < 128 then (asciiF r.toNat : Int)
  else if orbIdx r 95 0 94 < 94 ∧ ((orb.getD (orbIdx r 95 0 94) (0, 0)).1 : Int) = r then ((orb.getD (orbIdx r 95 0 94) (0, 0)).2 : Int)
  else sfCase r

/-- the orbit of a comes back to a within n steps more -/
def back : Nat → Int → Int → Bool
  | 0, a, r => decide (r = a)
  | n + 1, a, r => decide (r = a) || back n a (sf r)

theorem chk0 : ((List.range 128).all fun d => back 3 (d : Nat) (sf (d : Nat))) = true := by kernel_rfl
theorem chk1 : (orb.all fun p => back 3 (p.1 : Nat) (sf (p.1 : Nat))) = true := by kernel_rfl
theorem chk2 : (caseT.all fun row => (List.range (row.2.1 - row.1 + 1)).all fun d => back 3 ((row.1 + d : Nat) : Int) (sf ((row.1 + d : Nat) : Int))) = true := by kernel_rfl

theorem lookup_in (T : Array CaseRow) (r : Int) : ∀ (f lo hi i : Nat), hi ≤ T.size → lookupIdx T r f lo hi = some i → i < T.size ∧ ((T.getD i (0, 0, 0, 0, 0)).1 : Int) ≤ r ∧ r ≤ ((T.getD i (0, 0, 0, 0, 0)).2.1 : Int)
  | 0, _, _, _, _, h => by simp [lookupIdx] at h
  | f + 1, lo, hi, i, hh, h => by
    unfold lookupIdx at h
    by_cases hlt : lo < hi
    · rw [if_pos hlt] at h
      split at h
      · next hin =>
        cases h
        exact ⟨by omega, hin⟩
      · split at h
        · exact lookup_in T r f lo _ i (by omega) h
        · exact lookup_in T r f _ hi i hh h
    · rw [if_neg hlt] at h
      cases h

theorem caseA_mem (i : Nat) (h : i < caseA.size) : caseA.getD i (0, 0, 0, 0, 0) ∈ caseT := by
  have hs : i < caseT.length := by simpa [caseA] using h
  have : caseA.getD i (0, 0, 0, 0, 0) = caseT[i] := by simp [caseA, hs]
  rw [this]
  exact List.getElem_mem hs

/-- EVERY ORBIT COMES BACK -/
theorem closes (a : Int) (h0 : 0 ≤ a) (h1 : a ≤ 1114111) : back 3 a (sf a) = true := by
  obtain ⟨n, rfl⟩ := Int.eq_ofNat_of_zero_le h0
  by_cases hl : n < 128
  · exact List.all_eq_true.1 chk0 n (List.mem_range.2 hl)
  · by_cases ho : orbIdx n 95 0 94 < 94 ∧ ((orb.getD (orbIdx n 95 0 94) (0, 0)).1 : Int) = n
    · have hm : orb.getD (orbIdx n 95 0 94) (0, 0) ∈ orb := by
        have hlen : orb.length = 94 := by kernel_rfl
        have hi : orbIdx n 95 0 94 < orb.length := by omega
        have : orb.getD (orbIdx n 95 0 94) (0, 0) = orb[orbIdx n 95 0 94] := by simp [List.getD, List.getElem?_eq_getElem hi]
        rw [this]
        exact List.getElem_mem hi
      have := List.all_eq_true.1 chk1 _ hm
      rw [ho.2] at this
      exact this
    · cases hk : lookupIdx caseA n (caseA.size + 1) 0 caseA.size with
      | none =>
        have e : sf n = n := by
          unfold sf sfCase
          rw [if_neg (by omega), if_neg (by omega), if_neg ho, hk]
        rw [e]
        simp [back]
      | some i =>
        obtain ⟨hi, h2, h3⟩ := lookup_in caseA n _ _ _ i (Nat.le_refl _) hk
        have := List.all_eq_true.1 (List.all_eq_true.1 chk2 _ (caseA_mem i hi)) (n - (caseA.getD i (0, 0, 0, 0, 0)).1) (List.mem_range.2 (by omega))
        have e : (caseA.getD i (0, 0, 0, 0, 0)).1 + (n - (caseA.getD i (0, 0, 0, 0, 0)).1) = n := by omega
        simp only [e] at this
        exact this

end Go.Proofs.Qxb6616414aDoor.Pl
