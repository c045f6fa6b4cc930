/-
  parsePattern: what it hands back is the plain parse ('Parses').
-/
import Derived.Test.Qxb6616416aFmtW6
import Derived.Test.Qxb6616416aFmtPlain3
namespace Go.Proofs.Qxb6616416aFmt
open Go.RowKit Go.Extern.Stop Go.Stop Go.Extern
attribute [local go_sem] call13 fmtGuard empty_p empty_r seg_p seg_r stands_p stands_r allow_p allow_r norm_p norm_r op3_100 op5_113 op21_113 op9_113 op9_115

theorem Tryf.info44 : (Tryf.prog.info? 44).map (fun i => (i.zero, i.size, i.bytes)) = some (some (.agg #[.int .i64 0, .string ⟨#[]⟩]), 2, 24) := by kernel_rfl

theorem made_segs (n : Nat) : madeCells #[.int .i64 0, .string ⟨#[]⟩] (n * 2) = (segCells [] n).toArray := by
  have e : segCells [] n = flat (List.replicate n (0, ⟨#[]⟩)) := by simp [segCells, flat]
  apply Array.ext
  · rw [e]; simp [madeCells, flat_length]
  · intro i h1 h2
    have hin : i < n * 2 := by simpa [madeCells] using h1
    have hq := flat_at (List.replicate n (0, ⟨#[]⟩)) (i / 2) (0, ⟨#[]⟩) (by rw [List.getElem?_replicate, if_pos (by omega)])
    rw [← e] at hq
    have hr : (segCells [] n).toArray[i]? = some (if i % 2 = 0 then .int .i64 0 else .string ⟨#[]⟩) := by
      rw [List.getElem?_toArray]
      rcases Nat.mod_two_eq_zero_or_one i with h | h
      · rw [if_pos h]; have := hq.1; rwa [show i / 2 * 2 = i by omega] at this
      · rw [if_neg (by omega)]; have := hq.2; rwa [show i / 2 * 2 + 1 = i by omega] at this
    rw [Array.getElem?_eq_getElem h2] at hr
    rw [Option.some.inj hr]
    simp only [madeCells]
    rcases Nat.mod_two_eq_zero_or_one i with h | h
    · simp [h]
    · simp [h]

theorem split_call (t : ByteArray) (w : World) (m : Int) (ht : t.size < 4294967281) (hm : w.cell? ⟨2, 0, none⟩ = some (.int .i64 m)) :
    Calls Tryf.prog 12 #[.string t, .string ⟨#[47]⟩] w fun e w' => e = .returned (.slice (some ⟨w.heap.size, 0, none⟩) (parts t).length (parts t).length) ∧ w' = w.alloc (.cells ((parts t).map Value.string).toArray 9) := by
  rw [parts_length]
  exact Tryf.strings_Split t ⟨#[47]⟩ m w ht hm (by decide)

/-- what parsePattern hands back -/
def Parses (s : ByteArray) (B : Nat) (e : Ending) (w' : World) : Prop :=
  match Pl.scan Pl.okLit 0 (-1) (Pl.split (s.data.toList.drop 1)) with
  | none => ∃ r : ByteArray, e = .returned (.tuple #[.agg #[.string ⟨#[]⟩, .slice none 0 0, .int .i64 0], .string r]) ∧ r.size ≠ 0
  | some (sg, many) => ∃ (b : Nat) (gs : List (Int × ByteArray)), e = .returned (.tuple #[.agg #[.string s, .slice (some ⟨b, 0, none⟩) gs.length gs.length, .int .i64 many], .string ⟨#[]⟩]) ∧ Row w' b 44 (flat gs) ∧ toSegs gs = sg ∧ B ≤ b

theorem refuse_post {s : ByteArray} {w X : World} {a : Act} {r : ByteArray} (ha2 : a.tmps[2]?.getD undef = .pointer (some ⟨w.heap.size, 0, none⟩)) (ha3 : a.tmps[3]?.getD undef = .string r) (hd : a.defers = [])
    (hR : Row X w.heap.size 25 [.string ⟨#[]⟩, .slice none 0 0, .int .i64 0]) (hb : Below w.heap.size w X) (hno : Pl.scan Pl.okLit 0 (-1) (Pl.split (s.data.toList.drop 1)) = none) (hr : r.size ≠ 0) :
    bodyPost Tryf.prog Tryf.f10 (fun e w' => Parses s w.heap.size e w' ∧ Below w.heap.size w w') Exit.ret a X := by
  have q0 := hR.cell 0 _ rfl
  have q1 := hR.cell 1 _ rfl
  have q2 := hR.cell 2 _ rfl
  refine bodyPost_ret (v := .tuple #[.agg #[.string ⟨#[]⟩, .slice none 0 0, .int .i64 0], .string r]) (by simp [results, Tryf.results10, go_sem, ha2, ha3, q0, q1, q2]) hd ⟨?_, hb⟩
  unfold Parses
  rw [hno]
  exact ⟨r, rfl, hr⟩

set_option maxRecDepth 100000 in
set_option maxHeartbeats 2000000 in
theorem parse_any (F : Interp) (s : ByteArray) (w : World) (hs : s.size ≤ 1048576) (hE : Env F w) (h0 : 0 < s.size) (hne : (s.toList == [47, 42]) = false)
    (hp : Lib.hasPrefix s.data.toList [47] = true) :
    Calls Tryf.prog 10 #[.string s] w fun e w' => Parses s w.heap.size e w' ∧ Below w.heap.size w w' := by
  obtain ⟨m, hm⟩ := hE.maxl
  obtain ⟨i44, h44, z44, s44, b44⟩ := info_parts Tryf.info44
  have hesz : (s.extract 1 s.size).size < 4294967281 := by simp; omega
  have hcnt := parts_count (s.extract 1 s.size)
  have hdata := parts_data (s.extract 1 s.size)
  have hsize := fun p hp => parts_size (s.extract 1 s.size) p hp
  have hex : (s.extract 1 s.size).data.toList = s.data.toList.drop 1 := Lib.extract_to_end s 1
  have hsp := fun (w : World) hm => split_call (s.extract 1 s.size) w m hesz hm
  have hes : (s.extract 1 s.size).size ≤ 1048576 := by simp; omega
  rw [hex] at hcnt hdata
  clear hex hesz
  generalize parts (s.extract 1 s.size) = ps at hcnt hdata hsize hsp
  have hnle : ps.length ≤ 1048577 := by
    have h1 : (s.data.toList.drop 1).count 47 ≤ (s.data.toList.drop 1).length := List.count_le_length
    have h2 : (s.data.toList.drop 1).length = s.size - 1 := by simp
    omega
  have hnpos : 0 < ps.length := by omega
  have hcnt' : Hid _ := hcnt
  have hdata' : Hid _ := hdata
  clear hcnt hdata
  have hsp' : Hid _ := hsp
  clear hsp
  have hsize' : Hid _ := hsize
  clear hsize
  have hmk := fun (w : World) => run_make (P := Tryf.prog) w 23 44 i44 _ Tryf.underlying23 h44 z44 .i64 .i64 ps.length ps.length (by omega) (Int.le_refl _) (by rw [b44]; omega) (by omega)
  rw [s44] at hmk
  have hE2 := hE.size
  go_enter Tryf.func10, Tryf.ntmps10
  go_wp2_with fail
  refine (Tryf.strings_HasPrefix _ _ _).mono ?_
  rintro e w1 ⟨rfl, rfl⟩
  have hp' : Lib.hasPrefix s.data.toList (⟨#[47]⟩ : ByteArray).data.toList = true := hp
  rw [hp']
  go_wp2_with fail
  refine (hsp'.out _ ?hmx).mono ?_
  case hmx =>
    rw [World.cell?_alloc_past _ _ _ (by simp; omega), World.cell?_alloc_past _ _ _ (by omega)]
    exact hm
  rintro e w1 ⟨rfl, rfl⟩
  go_wp2_with fail
  clear hmk hsp'
  go_loopw [30] (fun i wr => ∃ (k : Nat) (many : Int) (done : List (Int × ByteArray)), k ≤ ps.length ∧ i = .int .i64 k ∧ Parsed (ps.map (·.data.toList)) k many done ∧ -1 ≤ many ∧ many < ps.length ∧
      Row wr w.heap.size 25 [.string ⟨#[]⟩, .slice none 0 0, .int .i64 0] ∧ Row wr (w.heap.size + 1) 25 [.string s, .slice (some ⟨w.heap.size + 1 + 1 + 1, 0, none⟩) ps.length ps.length, .int .i64 many] ∧
      Row wr (w.heap.size + 1 + 1) 9 (ps.map Value.string) ∧ Row wr (w.heap.size + 1 + 1 + 1) 44 (segCells done ps.length) ∧ Below w.heap.size w wr) (fun i _ => ps.length - (intOf i).toNat)
  case atStart =>
    refine ⟨0, -1, [], Nat.zero_le _, rfl, parsed_start _, by omega, by omega, ?_, ?_, ?_, ?_, ?_⟩
    · exact (((Row.new w [.string ⟨#[]⟩, .slice none 0 0, .int .i64 0] 25).alloc _).alloc _).alloc _
    · have := ((Row.new (w.alloc (.cells #[.string ⟨#[]⟩, .slice none 0 0, .int .i64 0] 25)) [.string s, .slice (some ⟨w.heap.size + 1 + 1 + 1, 0, none⟩) ps.length ps.length, .int .i64 (-1)] 25).alloc (.cells (ps.map Value.string).toArray 9)).alloc (.cells (madeCells #[.int .i64 0, .string ⟨#[]⟩] (ps.length * 2)) 44)
      simpa using this
    · have := (Row.new ((w.alloc (.cells #[.string ⟨#[]⟩, .slice none 0 0, .int .i64 0] 25)).alloc (.cells #[.string s, .slice (some ⟨w.heap.size + 1 + 1 + 1, 0, none⟩) ps.length ps.length, .int .i64 (-1)] 25)) (ps.map Value.string) 9).alloc (.cells (madeCells #[.int .i64 0, .string ⟨#[]⟩] (ps.length * 2)) 44)
      simpa using this
    · have := Row.new (((w.alloc (.cells #[.string ⟨#[]⟩, .slice none 0 0, .int .i64 0] 25)).alloc (.cells #[.string s, .slice (some ⟨w.heap.size + 1 + 1 + 1, 0, none⟩) ps.length ps.length, .int .i64 (-1)] 25)).alloc (.cells (ps.map Value.string).toArray 9)) (segCells [] ps.length) 44
      rw [← made_segs] at this
      simpa using this
    · exact ((((Below.refl _ w).alloc (Nat.le_refl _) _).alloc (by simp) _).alloc (by simp; omega) _).alloc (by simp; omega) _
  case round =>
    obtain ⟨k, many, done, hk, rfl, hPd, hm1, hm2, hR0, hR1, hR2, hR3, hb⟩ := hrel
    have hPd' : Hid _ := hPd
    have hdl : Hid (done.length = k) := hPd.1
    clear hPd
    have cR0 := hR0.cell 0 _ rfl
    have cR1 := hR0.cell 1 _ rfl
    have cR2 := hR0.cell 2 _ rfl
    have fR0 := hR0.free 0
    have fR1 := hR0.free 1
    have fR2 := hR0.free 2
    have cP0 := hR1.cell 0 _ rfl
    have cP1 := hR1.cell 1 _ rfl
    have cP2 := hR1.cell 2 _ rfl
    have fP2 := hR1.free 2
    have zS := hR3.lt
    have zB : w.heap.size < wr.heap.size := by omega
    have zP : w.heap.size + 1 < wr.heap.size := by omega
    have zQ : w.heap.size + 1 + 1 < wr.heap.size := by omega
    by_cases hlt : k < ps.length
    · obtain ⟨p, hpk⟩ : ∃ p, ps[k]? = some p := ⟨ps[k], List.getElem?_eq_getElem hlt⟩
      have hpm : p ∈ ps := List.mem_of_getElem? hpk
      have hpsz : p.size ≤ 1048576 := by have := hsize'.out p hpm; omega
      have hPk : Hid ((ps.map (·.data.toList))[k]? = some p.data.toList) := by
        show _ = _
        rw [List.getElem?_map, hpk]; rfl
      have cp := hR2.cell k (.string p) (by rw [List.getElem?_map, hpk]; rfl)
      have hpl := Lib.toList_data p
      have hpl' : Hid _ := hpl
      clear hpl hpk hpm
      have hsk := seg_kind done ps.length (by rw [hdl.out]; exact hlt)
      rw [hdl.out] at hsk
      have cS0 := hR3.cell _ _ hsk.1
      have cS1 := hR3.cell _ _ hsk.2
      have fS0 := hR3.free (k * 2)
      have fS1 := hR3.free (k * 2 + 1)
      clear hsk
      by_cases e1 : p.data.toList = Pl.star1
      · have t1 : (p.toList == [123, 42, 125]) = true := by rw [hpl'.out, e1]; rfl
        have E1 : Hid _ := e1
        clear e1
        by_cases hmn : 0 ≤ many
        · have HNO : Hid _ := parsed_one_no hPd'.out hPk.out E1.out hmn
          go_wp2
          go_light
          exact refuse_post rfl rfl rfl (((hR0.set 0 _).set 1 _).set 2 _) (((hb.setCell (Nat.le_refl _) _).setCell (Nat.le_refl _) _).setCell (Nat.le_refl _) _) (by rw [← hdata'.out]; exact HNO.out) (by decide)
        · go_wp2
          go_light
          go_roundw
          case rel =>
            refine ⟨k + 1, many, done ++ [(1, ⟨#[]⟩)], by omega, by go_num, parsed_one hPd'.out hPk.out E1.out (by omega), hm1, hm2, hR0.other (by simp; omega) _, hR1.other (by simp) _, hR2.other (by simp) _, ?_, hb.setCell (by simp; omega) _⟩
            rw [← seg_setKind done ps.length 1 (by rw [hdl.out]; exact hlt), hdl.out]
            exact hR3.set _ _
          case measure => simp [intOf]; omega
      · have t1 : (p.toList == [123, 42, 125]) = false := by
          rw [hpl'.out]
          exact beq_eq_false_iff_ne.2 e1
        have E1 : Hid _ := e1
        clear e1
        by_cases e2 : p.data.toList = Pl.star2
        · have t2 : (p.toList == [123, 42, 42, 125]) = true := by rw [hpl'.out, e2]; rfl
          have E2 : Hid _ := e2
          clear e2
          by_cases hmn : 0 ≤ many
          · have HNO : Hid _ := parsed_many_no hPd'.out hPk.out E2.out hmn
            go_wp2
            go_light
            exact refuse_post rfl rfl rfl (((hR0.set 0 _).set 1 _).set 2 _) (((hb.setCell (Nat.le_refl _) _).setCell (Nat.le_refl _) _).setCell (Nat.le_refl _) _) (by rw [← hdata'.out]; exact HNO.out) (by decide)
          · go_wp2
            go_light
            go_roundw
            case rel =>
              refine ⟨k + 1, k, done ++ [(2, ⟨#[]⟩)], by omega, by go_num, parsed_many hPd'.out hPk.out E2.out (by omega), by omega, by omega, ?_, ?_, ?_, ?_, ?_⟩
              · exact (hR0.other (by simp; omega) _).other (by simp) _
              · exact (hR1.other (by simp) _).set 2 _
              · exact (hR2.other (by simp) _).other (by simp) _
              · rw [← seg_setKind done ps.length 2 (by rw [hdl.out]; exact hlt), hdl.out]
                exact (hR3.set _ _).other (by simp; omega) _
              · exact (hb.setCell (by simp; omega) _).setCell (by simp) _
            case measure => simp [intOf]; omega
        · have t2 : (p.toList == [123, 42, 42, 125]) = false := by
            rw [hpl'.out]
            exact beq_eq_false_iff_ne.2 e2
          have E2 : Hid _ := e2
          clear e2
          by_cases e3 : p.data.toList = []
          · have t3 : p.toList.isEmpty = true := by rw [hpl'.out, e3]; rfl
            have E3 : Hid _ := e3
            clear e3
            by_cases hl : k + 1 < ps.length
            · have HNO : Hid _ := parsed_empty_no hPd'.out hPk.out E3.out (by simpa using hl)
              have hFr := answers_open (hE.below hb hE.size).ans
              have ht := empty_told F ((k : Int) + 1) (WalkArith.wf_i64 (by omega))
              unfold emptyQ at ht
              rw [show (((k : Int) + 1) % 18446744073709551616).toNat = (k + 1) % 18446744073709551616 by omega] at ht
              go_wp2
              go_light
              exact refuse_post rfl rfl rfl ((((hR0.set 0 _).set 1 _).set 2 _).alloc _).drew (((((hb.setCell (Nat.le_refl _) _).setCell (Nat.le_refl _) _).setCell (Nat.le_refl _) _).alloc (by simp; omega) _).drew) (by rw [← hdata'.out]; exact HNO.out) ht.1
            · go_wp2
              go_light
              go_roundw
              case rel =>
                refine ⟨k + 1, many, done ++ [(0, ⟨#[]⟩)], by omega, by go_num, parsed_last hPd'.out hPk.out E3.out (by simp; omega), hm1, hm2, hR0, hR1, hR2, ?_, hb⟩
                rw [← seg_none done ps.length (by rw [hdl.out]; exact hlt)]
                exact hR3
              case measure => simp [intOf]; omega
          · have t3 : p.toList.isEmpty = false := by
              rw [hpl'.out]
              cases hd : p.data.toList with
              | nil => exact absurd hd e3
              | cons _ _ => rfl
            have E3 : Hid _ := e3
            clear e3
            have hE3 := hE.below hb hE.size
            go_wp2_with fail
            refine (lit_any F p _ hpsz hE3).mono ?_
            rintro e w2 ⟨⟨r, rfl, hr, hrl⟩, hb2⟩
            have hR0n := hR0.below hb2 hR0.lt
            have hR1n := hR1.below hb2 hR1.lt
            have hR2n := hR2.below hb2 hR2.lt
            have hR3n := hR3.below hb2 hR3.lt
            have hbn := hb.trans (hb2.mono hb.size)
            have hE4 := hE3.below hb2 hE3.size
            clear cR0 cR1 cR2 fR0 fR1 fR2 cP0 cP1 cP2 fP2 cp cS0 cS1 fS0 fS1 hR0 hR1 hR2 hR3 hb
            have cR0 := hR0n.cell 0 _ rfl
            have cR1 := hR0n.cell 1 _ rfl
            have cR2 := hR0n.cell 2 _ rfl
            have fR0 := hR0n.free 0
            have fR1 := hR0n.free 1
            have fR2 := hR0n.free 2
            have cP1 := hR1n.cell 1 _ rfl
            have zS := hR3n.lt
            have zB : w.heap.size < w2.heap.size := by omega
            have zP : w.heap.size + 1 < w2.heap.size := by omega
            have zQ : w.heap.size + 1 + 1 < w2.heap.size := by omega
            have hsk := seg_kind done ps.length (by rw [hdl.out]; exact hlt)
            rw [hdl.out] at hsk
            have cS1 := hR3n.cell _ _ hsk.2
            have fS1 := hR3n.free (k * 2 + 1)
            clear hsk
            by_cases hr0 : r.size = 0
            · have hok : Hid (Pl.okLit p.data.toList = true) := hr.1 hr0
              obtain rfl : r = ⟨#[]⟩ := by
                have : r = ByteArray.empty := by simpa using hr0
                rw [this]; rfl
              clear hr hr0 hrl
              go_wp2
              go_light
              go_roundw
              case rel =>
                refine ⟨k + 1, many, done ++ [(0, p)], by omega, by go_num, parsed_lit hPd'.out hPk.out rfl E1.out E2.out E3.out hok.out, hm1, hm2, hR0n.other (by simp; omega) _, hR1n.other (by simp) _, hR2n.other (by simp) _, ?_, hbn.setCell (by simp; omega) _⟩
                rw [← seg_setText done ps.length p (by rw [hdl.out]; exact hlt), hdl.out]
                exact hR3n.set _ _
              case measure => simp [intOf]; omega
            · have hno : Hid (¬ Pl.okLit p.data.toList = true) := fun h => hr0 (hr.2 h)
              have hnee : (!r.toList.isEmpty) = true := by
                rw [Lib.toList_data]
                cases hd : r.data.toList with
                | nil => exact absurd (by rw [← ByteArray.size_data, ← Array.length_toList, hd]; rfl) hr0
                | cons _ _ => rfl
              have HNO : Hid _ := parsed_lit_no hPd'.out hPk.out E1.out E2.out E3.out hno.out
              have hFr := answers_open hE4.ans
              have ht := seg_told F p.data.toList r.data.toList (by simpa using hpsz) (by simpa using hrl)
              have hr' : Hid _ := hr
              clear hr
              go_wp2
              go_light
              exact refuse_post rfl rfl rfl ((((hR0n.set 0 _).set 1 _).set 2 _).alloc _).drew (((((hbn.setCell (Nat.le_refl _) _).setCell (Nat.le_refl _) _).setCell (Nat.le_refl _) _).alloc (by simp; omega) _).drew) (by rw [← hdata'.out]; exact HNO.out) ht.1
    · go_wp2
      go_light
      have hR0' : Row (((wr.setCell ⟨w.heap.size, 0, none⟩ (.string s)).setCell ⟨w.heap.size, 1, none⟩ (.slice (some ⟨w.heap.size + 1 + 1 + 1, 0, none⟩) ps.length ps.length)).setCell ⟨w.heap.size, 2, none⟩ (.int .i64 many)) w.heap.size 25 [.string s, .slice (some ⟨w.heap.size + 1 + 1 + 1, 0, none⟩) ps.length ps.length, .int .i64 many] := ((hR0.set 0 _).set 1 _).set 2 _
      have hR3' : Row (((wr.setCell ⟨w.heap.size, 0, none⟩ (.string s)).setCell ⟨w.heap.size, 1, none⟩ (.slice (some ⟨w.heap.size + 1 + 1 + 1, 0, none⟩) ps.length ps.length)).setCell ⟨w.heap.size, 2, none⟩ (.int .i64 many)) (w.heap.size + 1 + 1 + 1) 44 (segCells done ps.length) := ((hR3.other (by simp; omega) _).other (by simp; omega) _).other (by simp; omega) _
      have hb' : Below w.heap.size w (((wr.setCell ⟨w.heap.size, 0, none⟩ (.string s)).setCell ⟨w.heap.size, 1, none⟩ (.slice (some ⟨w.heap.size + 1 + 1 + 1, 0, none⟩) ps.length ps.length)).setCell ⟨w.heap.size, 2, none⟩ (.int .i64 many)) := ((hb.setCell (Nat.le_refl _) _).setCell (Nat.le_refl _) _).setCell (Nat.le_refl _) _
      generalize (((wr.setCell ⟨w.heap.size, 0, none⟩ (.string s)).setCell ⟨w.heap.size, 1, none⟩ (.slice (some ⟨w.heap.size + 1 + 1 + 1, 0, none⟩) ps.length ps.length)).setCell ⟨w.heap.size, 2, none⟩ (.int .i64 many)) = wz at hR0' hR3' hb' ⊢
      have q0 := hR0'.cell 0 _ rfl
      have q1 := hR0'.cell 1 _ rfl
      have q2 := hR0'.cell 2 _ rfl
      refine bodyPost_ret (v := .tuple #[.agg #[.string s, .slice (some ⟨w.heap.size + 1 + 1 + 1, 0, none⟩) ps.length ps.length, .int .i64 many], .string ⟨#[]⟩]) (by simp [results, Tryf.results10, go_sem, q0, q1, q2]) rfl ⟨?_, hb'⟩
      unfold Parses
      have he := parsed_end hPd'.out (by simp; omega)
      rw [hdata'.out] at he
      rw [he]
      have hdn : done.length = ps.length := by rw [hdl.out]; omega
      refine ⟨w.heap.size + 1 + 1 + 1, done, by rw [hdn], ?_, rfl, by omega⟩
      rw [← hdn, seg_all] at hR3'
      exact hR3'

end Go.Proofs.Qxb6616416aFmt
