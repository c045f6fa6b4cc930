/-
  Which names are taken: validUTF8, and the law's own zzValidUTF8.
-/
import Derived.Test.Qxb6616388aFmtW2
namespace Go.Proofs.Qxb6616388aFmt
open Go.RowKit

theorem ret_bool {a b : Bool} (h : a = b) : Ending.returned (.bool a) = .returned (.bool b) := by rw [h]
theorem ret_int {k : IntKind} {a b : Int} (h : a = b) : Ending.returned (.int k a) = .returned (.int k b) := by rw [h]

theorem or_u8 (m c : Nat) (hm : m < 256) (hc : c < 256) : bits .or .u8 (m : Int) (c : Int) = ((m ||| c : Nat) : Int) :=
  (bits_nat .u8 8 (by decide) wraps_u8 m c (by simpa using hm) (by simpa using hc)).2
theorem or_lt8 {m c : Nat} (hm : m < 256) (hc : c < 256) : m ||| c < 256 := Nat.or_lt_two_pow (n := 8) hm hc
theorem or_lt7 {m c : Nat} : m ||| c < 128 ↔ m < 128 ∧ c < 128 :=
  ⟨fun h => ⟨Nat.lt_of_le_of_lt Nat.left_le_or h, Nat.lt_of_le_of_lt Nat.right_le_or h⟩, fun h => Nat.or_lt_two_pow (n := 7) h.1 h.2⟩

theorem take_snoc (s : ByteArray) (k : Nat) (h : k < s.size) : s.data.toList.take (k + 1) = s.data.toList.take k ++ [s[k]] := by
  rw [List.take_succ_eq_append_getElem (by simpa using h)]; rfl

theorem assert_string (s : ByteArray) (w : World) : (Instr.typeAssert (.iface 9 (.string s)) 20 9 true).run Tryf.prog w = .ok (.tuple #[.string s, .bool true]) w := by kernel_rfl
attribute [local go_sem] assert_string

set_option maxHeartbeats 1000000 in
set_option maxRecDepth 100000 in
theorem validUTF8_any (s : ByteArray) (w : World) (hs : s.size ≤ 1048576) (hT : Lib.Utf8Tabs 0 1 w) :
    Calls Tryf.prog 28 #[.string s] w fun e w' => e = .returned (.bool (Lib.validD s.data.toList)) ∧ Below w.heap.size w w' := by
  go_enter Tryf.func28, Tryf.ntmps28
  go_wp2
  go_loop [3, 4, 9] (fun a _ i => ∃ k m : Nat, i = .int .i64 k ∧ k ≤ s.size ∧ a = .int .u8 m ∧ m < 256 ∧ (m < 128 ↔ ∀ b ∈ s.data.toList.take k, b.toNat < 128)) (fun _ _ i => s.size - (intOf i).toNat)
  case atStart => exact ⟨0, 0, rfl, Nat.zero_le _, rfl, by omega, by simp⟩
  case round =>
    obtain ⟨k, m, rfl, hk, rfl, hm, hiff⟩ := hrel
    by_cases hlt : k < s.size
    · have hc : s[k].toNat < 256 := s[k].toNat_lt
      have ho := or_u8 m s[k].toNat hm hc
      have ho1 := or_lt8 hm hc
      have ho2 := @or_lt7 m s[k].toNat
      have hiff2 : (m ||| s[k].toNat) < 128 ↔ ∀ b ∈ s.data.toList.take (k + 1), b.toNat < 128 := by
        rw [ho2, hiff, take_snoc s k hlt]
        simp only [List.mem_append, List.mem_singleton]
        constructor
        · rintro ⟨a, b⟩ c (h | rfl)
          · exact a c h
          · exact b
        · intro h
          exact ⟨fun b hb => h b (.inl hb), h _ (.inr rfl)⟩
      clear ho2 hiff
      go_wp2
      go_round
      case rel => exact ⟨k + 1, m ||| s[k].toNat, by go_num, by omega, rfl, ho1, hiff2⟩
      case measure => simp [intOf]; omega
    · have hk' : k = s.size := by omega
      subst hk'
      have e : s.data.toList.take s.size = s.data.toList := List.take_of_length_le (by simp)
      rw [e] at hiff
      by_cases hlow : m < 128
      · have hv := Pl.valid_low _ (hiff.1 hlow)
        go_wp2
        go_ret
        exact ⟨rfl, Below.refl _ _⟩
      · go_wp2_with fail
        refine (Tryf.utf8_ValidString s w (by omega) hT).mono ?_
        rintro e w1 ⟨rfl, hb⟩
        go_wp2
        go_ret
        exact ⟨rfl, hb⟩

theorem lead_cases {c n lo hi : Nat} (h : Pl.lead c = some (n, lo, hi)) :
    (194 ≤ c ∧ c ≤ 223 ∧ n = 1 ∧ lo = 128 ∧ hi = 191) ∨ (c = 224 ∧ n = 2 ∧ lo = 160 ∧ hi = 191) ∨ (225 ≤ c ∧ c ≤ 236 ∧ n = 2 ∧ lo = 128 ∧ hi = 191) ∨ (c = 237 ∧ n = 2 ∧ lo = 128 ∧ hi = 159) ∨
    ((c = 238 ∨ c = 239) ∧ n = 2 ∧ lo = 128 ∧ hi = 191) ∨ (c = 240 ∧ n = 3 ∧ lo = 144 ∧ hi = 191) ∨ (241 ≤ c ∧ c ≤ 243 ∧ n = 3 ∧ lo = 128 ∧ hi = 191) ∨ (c = 244 ∧ n = 3 ∧ lo = 128 ∧ hi = 143) := by
  unfold Pl.lead at h
  (repeat' split at h) <;> simp at h <;> omega
theorem lead_none {c : Nat} (h : Pl.lead c = none) : c < 194 ∨ 244 < c := by
  unfold Pl.lead at h
  (repeat' split at h) <;> simp at h <;> omega

set_option maxHeartbeats 2000000 in
set_option maxRecDepth 100000 in
theorem zzValid_any (s : ByteArray) (w : World) (hs : s.size ≤ 1048576) :
    Calls Tryf.prog 18 #[.string s] w fun e w' => e = .returned (.bool (Lib.validD s.data.toList)) ∧ w' = w := by
  go_enter Tryf.func18, Tryf.ntmps18
  go_wp2
  go_loop [3, 4, 5, 6, 7, 8, 9] (fun i _ _ _ _ _ _ => ∃ k : Nat, i = .int .i64 k ∧ k ≤ s.size ∧ Lib.validD (s.data.toList.drop k) = Lib.validD s.data.toList) (fun i _ _ _ _ _ _ => s.size - (intOf i).toNat)
  case atStart => exact ⟨0, rfl, Nat.zero_le _, by simp⟩
  case round =>
    obtain ⟨k, rfl, hk, hans⟩ := hrel
    by_cases hlt : k < s.size
    · have h0 : (s.data.toList.drop k)[0]? = some s[k] := by
        rw [List.getElem?_drop, Nat.add_zero]
        exact List.getElem?_eq_getElem (by simpa using hlt)
      have hc : s[k].toNat < 256 := s[k].toNat_lt
      by_cases hlow : s[k].toNat < 128
      · have hcons : s.data.toList.drop k = s[k] :: s.data.toList.drop (k + 1) := List.drop_eq_getElem_cons (by simpa using hlt)
        rw [hcons, Lib.validD_cons _ _ hlow] at hans
        have HA : Hid _ := hans
        clear hans hcons h0
        go_wp2
        go_round
        case rel => exact ⟨k + 1, by go_num, by omega, HA.out⟩
        case measure => simp [intOf]; omega
      · cases hl : Pl.lead s[k].toNat with
        | none =>
          have hbad := Pl.valid_bad _ _ h0 (by omega) hl
          rw [hbad] at hans
          have HA : Hid _ := hans
          have hn := lead_none hl
          clear hans hbad h0 hl
          go_wp2
          all_goals
            go_ret
            exact ⟨ret_bool HA.out, rfl⟩
        | some q =>
          obtain ⟨n, lo, hi⟩ := q
          have hlc := lead_cases hl
          obtain ⟨hn, hgood, hbad⟩ := Pl.valid_lead _ _ n lo hi h0 (by omega) hl
          rw [hans] at hgood hbad
          have HG : Hid _ := hgood
          have HB : Hid _ := hbad
          clear hans hgood hbad h0 hl
          have hget : ∀ j (h : k + j < s.size), (s.data.toList.drop k).getD j 0 = s[k + j] := fun j h => by
            rw [List.getD, List.getElem?_drop, List.getElem?_eq_getElem (by simpa using h)]
            rfl
          have hlen : (s.data.toList.drop k).length = s.size - k := by simp
          go_upto_region 9 with fail
          go_cut [26] from 10 to 91 (fun s26 wx => s26 = .bool (decide (194 ≤ s[k].toNat ∧ s[k].toNat ≤ 223)) ∧ w = wx)
          case first =>
            clear hget hlen
            go_wp2
            all_goals
              go_meet
              refine ⟨congrArg Value.bool ?_, rfl⟩
              rw [Bool.eq_iff_iff]
              simp only [decide_eq_true_eq, Bool.false_eq_true, false_iff]
              omega
          case rest =>
          obtain ⟨rfl, rfl⟩ := hcut
          go_upto_if 26 with fail
          go_cut [4, 5, 6, 7] from 10 to 91 (fun s4 s5 s6 s7 wx => s4 = .int .u8 s[k].toNat ∧ s5 = .int .i64 n ∧ s6 = .int .u8 lo ∧ s7 = .int .u8 hi ∧ w = wx)
          case first =>
            clear hget hlen
            go_wp2
            all_goals try simp only [beq_iff_eq, beq_eq_false_iff_ne, ne_eq] at *
            all_goals first
              | (exfalso; omega)
              | (go_meet
                 exact ⟨congrArg (Value.int .u8) (by omega), congrArg (Value.int .i64) (by omega), congrArg (Value.int .u8) (by omega), congrArg (Value.int .u8) (by omega), rfl⟩)
          case rest =>
            obtain ⟨rfl, rfl, rfl, rfl, rfl⟩ := hcut
            have hlo : lo < 256 := by omega
            have hhi : hi < 256 := by omega
            clear hlc
            by_cases g1 : k + n < s.size
            · have hk1 : k + 1 < s.size := by omega
              have hd := hget 1 hk1
              have hd256 : s[k + 1].toNat < 256 := s[k + 1].toNat_lt
              have g1' : ¬ ((s.size : Int) - 1 - (k : Int) < (n : Int)) := by omega
              by_cases g2 : lo ≤ s[k + 1].toNat ∧ s[k + 1].toNat ≤ hi
              · obtain ⟨g2a, g2b⟩ := g2
                have HGD : Hid _ := hd
                have HGET : Hid _ := hget
                clear hd hget
                have n1 : ¬ s[k + 1].toNat < lo := by omega
                have n2 : ¬ hi < s[k + 1].toNat := by omega
                go_wp2
                go_loop [8, 9] (fun _ jv => ∃ j : Nat, jv = .int .i64 j ∧ 2 ≤ j ∧ j ≤ n + 1 ∧ Hid (∀ i, 2 ≤ i → i < j → 128 ≤ ((s.data.toList.drop k).getD i 0).toNat ∧ ((s.data.toList.drop k).getD i 0).toNat ≤ 191)) (fun _ jv => n + 1 - (intOf jv).toNat)
                case atStart => exact ⟨2, rfl, Nat.le_refl _, by omega, fun i h1 h2 => by omega⟩
                case round =>
                  obtain ⟨j, rfl, hj2, hjn, hall⟩ := hrel
                  by_cases hj : j ≤ n
                  · have hkj : k + j < s.size := by omega
                    have hb256 : s[k + j].toNat < 256 := s[k + j].toNat_lt
                    by_cases hbyte : 128 ≤ s[k + j].toNat ∧ s[k + j].toNat ≤ 191
                    · obtain ⟨hb1, hb2⟩ := hbyte
                      go_wp2
                      go_round
                      case rel =>
                        refine ⟨j + 1, by go_num, by omega, by omega, fun i h1 h2 => ?_⟩
                        by_cases e : i = j
                        · subst e
                          rw [HGET.out i hkj]
                          exact ⟨hb1, hb2⟩
                        · exact hall.out i h1 (by omega)
                      case measure => simp [intOf]; omega
                    · have hb : Lib.validD s.data.toList = false := HB.out (fun g => hbyte (by rw [← HGET.out j hkj]; exact g.2.2 j hj2 hj))
                      have HBB : Hid _ := hb
                      clear hb
                      go_wp2
                      all_goals
                        go_ret
                        exact ⟨ret_bool HBB.out.symm, rfl⟩
                  · have hgd : Pl.Good (s.data.toList.drop k) n lo hi := ⟨by omega, by rw [HGD.out]; exact ⟨g2a, g2b⟩, fun i h1 h2 => hall.out i h1 (by omega)⟩
                    have hfin := HG.out hgd
                    rw [List.drop_drop] at hfin
                    have HF : Hid _ := hfin
                    clear hfin hgd
                    go_wp2
                    go_round
                    case rel => exact ⟨k + (n + 1), by go_num, by omega, HF.out.symm⟩
                    case measure => simp [intOf]; omega
              · have hb : Lib.validD s.data.toList = false := HB.out (fun g => g2 (by rw [← hd]; exact g.2.1))
                have HBB : Hid _ := hb
                clear hb hget hd
                go_wp2
                all_goals
                  go_ret
                  exact ⟨ret_bool HBB.out.symm, rfl⟩
            · have hb : Lib.validD s.data.toList = false := HB.out (fun g => g1 (by have := g.1; omega))
              have HBB : Hid _ := hb
              have g1' : (s.size : Int) - 1 - (k : Int) < (n : Int) := by omega
              clear hb hget
              go_wp2
              go_ret
              exact ⟨ret_bool HBB.out.symm, rfl⟩
    · have hk' : k = s.size := by omega
      subst hk'
      have e : s.data.toList.drop s.size = [] := List.drop_of_length_le (by simp)
      rw [e] at hans
      have HA : Hid _ := hans
      clear hans
      go_wp2
      go_ret
      exact ⟨ret_bool HA.out, rfl⟩

end Go.Proofs.Qxb6616388aFmt
