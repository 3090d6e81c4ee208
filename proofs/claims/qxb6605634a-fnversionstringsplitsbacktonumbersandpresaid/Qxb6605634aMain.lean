import Derived.Test.Qxb6605634aPlain
namespace Go.Proofs.Qxb6605634a
open Go.RowKit

theorem below3 (w : World) (o1 o2 o3 o4 : Obj) : Below (w.heap.size + 1) (w.alloc o1) ((((w.alloc o1).alloc o2).alloc o3).alloc o4) :=
  (((Below.refl _ _).alloc (by simp) _).alloc (by simp) _).alloc (by simp) _

/-- The parts cut off so far lie in block P; nothing below it has turned. -/
structure Parts (w wr : World) (P : Nat) (a b c : ByteArray) (i : Nat) : Prop where
  below : Below P w wr
  cell : ∀ q, q < 3 → wr.cell? ⟨P, q, none⟩ = some (.string (if q < i then num a b c q else ⟨#[]⟩))
  free : ∀ q, wr.frozen? ⟨P, q, none⟩ = false

theorem parts_start (w : World) (a b c : ByteArray) : Parts w (w.alloc (.cells #[.string ⟨#[]⟩, .string ⟨#[]⟩, .string ⟨#[]⟩] 23)) w.heap.size a b c 0 :=
  ⟨(Below.refl _ _).alloc (Nat.le_refl _) _, fun q hq => by
    rw [World.cell?_alloc_new]
    match q, hq with
    | 0, _ => rfl
    | 1, _ => rfl
    | 2, _ => rfl, fun q => World.frozen?_alloc_at _ _ _ _ rfl⟩

theorem Parts.step {w wr : World} {P : Nat} {a b c : ByteArray} {i : Nat} (h : Parts w wr P a b c i) (hi : i < 3) : Parts w (wr.setCell ⟨P, i, none⟩ (.string (num a b c i))) P a b c (i + 1) := by
  refine ⟨h.below.setCell (Nat.le_refl _) _, fun q hq => ?_, fun q => by rw [World.frozen?_setCell]; exact h.free q⟩
  by_cases e : q = i
  · subst e
    rw [World.cell?_setCell_same _ _ _ (h.cell q hq), if_pos (by omega)]
  · rw [World.cell?_setCell_other _ _ _ _ (fun e' => by injection e' with _ e2; exact e e2.symm), h.cell q hq]
    by_cases e2 : q < i
    · rw [if_pos e2, if_pos (by omega)]
    · rw [if_neg e2, if_neg (by omega)]

/-- Two ways: no pre-release, or one behind a dash. -/
def Mode (a b c p t : ByteArray) : Prop := (p = ⟨#[]⟩ ∧ t = coreOf a b c) ∨ ((!p.toList.isEmpty) = true ∧ t = textOf a b c p)

set_option maxHeartbeats 1600000 in
set_option maxRecDepth 100000 in
theorem main_any (a b c p t : ByteArray) (w : World) (ha : a.size ≤ 9223372036854775807) (hb : b.size ≤ 9223372036854775807) (hc : c.size ≤ 9223372036854775807) (hp : p.size ≤ 9223372036854775807) (hm : Mode a b c p t) :
    Calls Try.prog 7 #[.agg #[.string a, .string b, .string c], .string p] w fun e w' => e = .returned (.bool true) ∧ Below w.heap.size w w' := by
  have BB := below3 w (.cells #[.string a, .string b, .string c] 23) (.cells #[.string a, .string b, .string c] 23) (.cells #[.string a, .string b, .string c] 23) (.cells #[.string a, .string b, .string c] 23)
  have q0 : (w.alloc (.cells #[.string a, .string b, .string c] 23)).cell? ⟨w.heap.size, 0, none⟩ = some (.string a) := by simp
  have q1 : (w.alloc (.cells #[.string a, .string b, .string c] 23)).cell? ⟨w.heap.size, 1, none⟩ = some (.string b) := by simp
  have q2 : (w.alloc (.cells #[.string a, .string b, .string c] 23)).cell? ⟨w.heap.size, 2, none⟩ = some (.string c) := by simp
  have B1 : Below w.heap.size w (w.alloc (.cells #[.string a, .string b, .string c] 23)) := (Below.refl _ _).alloc (Nat.le_refl _) _
  have Q0 : Hid _ := q0
  have Q1 : Hid _ := q1
  have Q2 : Hid _ := q2
  clear q0 q1 q2
  go_enter Try.func7, Try.ntmps7
  go_wp2_with fail
  refine (zz33_any a b c p _ ha hb hc hp).mono ?_
  rintro e w' ⟨⟨r, rfl⟩, rfl⟩
  cases r
  · go_wp2_with fail
    go_ret
    exact ⟨rfl, ((Below.refl _ _).alloc (Nat.le_refl _) _).alloc (by simp) _⟩
  go_wp2_with fail
  refine (versionBytes_any a b c p _ ha hb hc hp).mono ?_
  rintro e w' ⟨⟨r, rfl, hr⟩, rfl⟩
  by_cases hr1 : 1048576 < r
  · clear hr
    go_wp2_with fail
    go_ret
    exact ⟨rfl, (((Below.refl _ _).alloc (Nat.le_refl _) _).alloc (by simp) _).alloc (by simp; omega) _⟩
  replace hr := hr (by omega)
  go_wp2_with fail
  refine (validVersion_any a b c p _ hr).mono ?_
  rintro e w' ⟨⟨r, rfl, hd⟩, rfl⟩
  cases r
  · clear hd
    go_wp2_with fail
    go_ret
    exact ⟨rfl, B1.trans (BB.mono (by omega))⟩
  replace hd : Hid (Digits a ∧ Digits b ∧ Digits c) := hd rfl
  go_wp2_with fail
  have hV : ∀ w, Calls Try.prog 54 #[.agg #[.string a, .string b, .string c], .string p] w fun e w' => Vers e t p ∧ Below w.heap.size w w' := by
    intro w
    rcases hm with ⟨rfl, rfl⟩ | ⟨hp, rfl⟩
    · exact makeVersion_none a b c w (by omega)
    · exact makeVersion_some a b c p w hr hp
  refine (zzmake_any a b c p t _ hV).mono ?_
  rintro e w5 ⟨⟨x, y, z, rfl⟩, hb5⟩
  clear hV
  replace hb5 := BB.trans (hb5.mono (by simp))
  clear BB
  go_wp2_with fail
  refine (string_any t p x y z w5).mono ?_
  rintro e w6 ⟨rfl, hb6⟩
  have hN : w.heap.size < w5.heap.size := by have := hb5.size; simp at this; omega
  have B6 : Below w.heap.size w w6 := (B1.trans (hb5.mono (by omega))).trans (hb6.mono (by omega))
  have c0 : w6.cell? ⟨w.heap.size, 0, none⟩ = some (.string a) := ((hb6.cell (p := ⟨w.heap.size, 0, none⟩) hN).trans (hb5.cell (p := ⟨w.heap.size, 0, none⟩) (by simp))).trans Q0.out
  have c1 : w6.cell? ⟨w.heap.size, 1, none⟩ = some (.string b) := ((hb6.cell (p := ⟨w.heap.size, 1, none⟩) hN).trans (hb5.cell (p := ⟨w.heap.size, 1, none⟩) (by simp))).trans Q1.out
  have c2 : w6.cell? ⟨w.heap.size, 2, none⟩ = some (.string c) := ((hb6.cell (p := ⟨w.heap.size, 2, none⟩) hN).trans (hb5.cell (p := ⟨w.heap.size, 2, none⟩) (by simp))).trans Q2.out
  have hN6 : w.heap.size < w6.heap.size := World.block_lt_of_cell? w6 _ c0
  clear hb5 hb6 hN B1 Q0 Q1 Q2
  obtain ⟨da, db, dc⟩ := hd.out
  obtain ⟨L, hL⟩ : ∃ L, L = (coreOf a b c).size := ⟨_, rfl⟩
  have hLs : L ≤ 1048578 := by rw [hL, core_size]; omega
  have hts : t.size ≤ 2097155 := by
    rcases hm with ⟨rfl, rfl⟩ | ⟨_, rfl⟩
    · omega
    · rw [text_size (dat_text a b c p), ← hL]; simp [dat_length]; omega
  have hLt : L ≤ t.size := by
    rcases hm with ⟨rfl, rfl⟩ | ⟨_, rfl⟩
    · omega
    · rw [text_size (dat_text a b c p), ← hL]; omega
  have nd : Hid (∀ k (hk : k < t.size), k < L → (((t[k]'hk).toNat : Int) != 45) = true) := by
    intro k hk hkL
    rcases hm with ⟨rfl, rfl⟩ | ⟨_, rfl⟩
    · exact text_nodash da db dc (r := []) (by simp) k (by omega) hk
    · exact text_nodash da db dc (dat_text a b c p) k (by omega) hk
  have hcore : Hid (t.extract 0 L = coreOf a b c) := by
    rcases hm with ⟨rfl, rfl⟩ | ⟨_, rfl⟩
    · have := text_core (a := a) (b := b) (c := c) (t := coreOf a b c) (r := []) (by simp); rw [← hL] at this; exact this
    · have := text_core (dat_text a b c p); rw [← hL] at this; exact this
  have HL : Hid (L = (coreOf a b c).size) := hL
  have HD : Hid (Digits a ∧ Digits b ∧ Digits c) := ⟨da, db, dc⟩
  clear hL da db dc hd
  have HM : Hid (Mode a b c p t) := hm
  clear hm
  go_wp2_with fail
  go_loopg [6] L (fun g i wr => ∃ k : Nat, k + g = L ∧ i = .int .i64 k ∧ w6 = wr)
  case atStart => exact ⟨0, by omega, rfl, rfl⟩
  case round =>
    obtain ⟨k, hk, rfl, rfl⟩ := hrel
    have HK : Hid (k + gk = L) := hk
    have hk1 : k ≤ L := by omega
    clear hk
    by_cases hlt : k < L
    · have hkt : k < t.size := by omega
      have hne := nd.out k hkt hlt
      go_wp2_with fail
      go_roundg (L - (k + 1))
      case measure => have := HK.out; omega
      case rel => exact ⟨k + 1, by omega, by go_num, rfl⟩
    · obtain rfl : k = L := by omega
      clear HK nd hk1 hlt
      rcases HM.out with ⟨rfl, ht⟩ | ⟨hp1, ht⟩
      · have hts2 : t.size ≤ k := by have := HL.out; rw [ht]; omega
        clear ht HM
        have hde : decide ((k : Int) < (t.size : Int)) = false := by simp; omega
        go_wp2_with fail
        clear hde hts2
        rename (r ≤ 1048576) => hh1
        clear hh1
        rename (r ≤ 1048576) => hh2
        clear hh2
        rw [hcore.out]
        have PS := parts_start w6 a b c
        have HB : Hid (∀ i, i < 3 → beg a b c (i + 1) = fin a b c i + 1) := beg_next a b c
        have HC : Hid (∀ i, i < 3 → (coreOf a b c).extract (beg a b c i) (fin a b c i) = num a b c i) := core_cut a b c
        have hCs : (coreOf a b c).size ≤ 1048578 := by have := HL.out; omega
        clear hts hLs hLt hcore HL
        generalize w6.alloc (.cells #[.string ⟨#[]⟩, .string ⟨#[]⟩, .string ⟨#[]⟩] 23) = w7 at PS ⊢
        generalize hPP : w6.heap.size = P at PS hN6 ⊢
        have HP : Hid (w6.heap.size = P) := hPP
        clear hPP
        go_loopg [11, 12, 13] ((coreOf a b c).size + 1) (fun g cnt st j wr => ∃ i m : Nat, i ≤ 3 ∧ m + g = (coreOf a b c).size + 1 ∧ j = .int .i64 m ∧ cnt = .int .i64 i ∧ st = .int .i64 (beg a b c i) ∧ beg a b c i ≤ m ∧ (i < 3 → m ≤ fin a b c i) ∧ (i = 3 → m = (coreOf a b c).size + 1) ∧ Parts w6 wr P a b c i)
        case atStart => exact ⟨0, 0, by omega, by omega, rfl, rfl, rfl, Nat.zero_le _, fun _ => Nat.zero_le _, fun h => by omega, PS⟩
        case round =>
          obtain ⟨i, m, hi3, hm, rfl, rfl, rfl, hbm, hmf, hm3, hPt⟩ := hrel
          have HMm : Hid (m + gk = (coreOf a b c).size + 1) := hm
          clear hm PS
          by_cases hi : i < 3
          · replace hmf := hmf hi
            clear hm3 hi3
            have hfC := fin_le a b c i hi
            by_cases hmlt : m < fin a b c i
            · have hmC : m < (coreOf a b c).size := by omega
              have hnd := core_nodot a b c HD.out.1 HD.out.2.1 HD.out.2.2 i m hi hbm hmlt hmC
              have hneq : ((m : Int) == ((coreOf a b c).size : Int)) = false := beq_eq_false_iff_ne.2 (by omega)
              have hend : Hid (m + 1 ≤ fin a b c i) := hmlt
              clear hmlt hmf hfC
              generalize coreOf a b c = C at *
              generalize hbg : beg a b c i = bg at *
              have HBG : Hid (beg a b c i = bg) := hbg
              clear hbg
              go_wp2_with fail
              go_roundg (C.size + 1 - (m + 1))
              case measure => have := HMm.out; omega
              case rel => exact ⟨i, m + 1, by omega, by omega, by go_num, rfl, by rw [HBG.out], by have := HBG.out; omega, fun _ => hend.out, fun h => by omega, hPt⟩
            · obtain rfl : m = fin a b c i := by omega
              have hq := hPt.cell i hi
              have hqf := hPt.free i
              rw [if_neg (Nat.lt_irrefl _)] at hq
              have HN : Hid (Parts w6 (wr.setCell ⟨P, i, none⟩ (.string (num a b c i))) P a b c (i + 1)) := hPt.step hi
              have hcut := HC.out i hi
              have hbf : beg a b c i ≤ fin a b c i := hbm
              have hbn := HB.out i hi
              have HBN : Hid (beg a b c (i + 1) = fin a b c i + 1) := hbn
              have hii : (i : Int) < 3 := by omega
              clear hbn hmlt hmf hbm hPt
              by_cases hi2 : i < 2
              · have hfl := fin_lt a b c i hi2
                have hfl3 : Hid (i + 1 < 3 → fin a b c i + 1 ≤ fin a b c (i + 1)) := fun _ => by have h1 : fin a b c (i + 1) = beg a b c (i + 1) + (num a b c (i + 1)).size := rfl; rw [h1, HBN.out]; omega
                have hnd := core_isdot a b c i hi2 hfl
                have hneq : ((fin a b c i : Int) == ((coreOf a b c).size : Int)) = false := beq_eq_false_iff_ne.2 (by omega)
                have Hi2 : Hid (i + 1 < 3) := show i + 1 < 3 by omega
                clear hi2
                generalize coreOf a b c = C at *
                generalize beg a b c i = bg at *
                generalize fin a b c i = fi at *
                generalize num a b c i = ni at *
                go_wp2_with fail
                go_roundg (C.size + 1 - (fi + 1))
                case measure => have := HMm.out; omega
                case rel => exact ⟨i + 1, fi + 1, by omega, by omega, by go_num, by go_num, by rw [HBN.out]; go_num, by rw [HBN.out]; exact Nat.le_refl _, hfl3.out, fun h => by have := Hi2.out; omega, HN.out⟩
              · obtain rfl : i = 2 := by omega
                have hfl := fin_two a b c
                have hneq : ((fin a b c 2 : Int) == ((coreOf a b c).size : Int)) = true := by rw [hfl]; simp
                have HFL : Hid (fin a b c 2 = (coreOf a b c).size) := hfl
                clear hi2 hfl
                generalize coreOf a b c = C at *
                generalize beg a b c 2 = bg at *
                generalize fin a b c 2 = fi at *
                generalize num a b c 2 = ni at *
                go_wp2_with fail
                go_roundg (C.size + 1 - (fi + 1))
                case measure => have := HMm.out; omega
                case rel => exact ⟨3, fi + 1, by omega, by omega, by go_num, by go_num, by rw [HBN.out]; go_num, by rw [HBN.out]; exact Nat.le_refl _, fun h => by omega, fun _ => by rw [HFL.out], HN.out⟩
          · obtain rfl : i = 3 := by omega
            have hm4 := hm3 rfl
            have e0 := hPt.cell 0 (by omega)
            have e1 := hPt.cell 1 (by omega)
            have e2 := hPt.cell 2 (by omega)
            simp only [num, if_pos (show 0 < 3 by omega), if_pos (show 1 < 3 by omega), if_pos (show 2 < 3 by omega)] at e0 e1 e2
            have g0 := (hPt.below.cell (p := ⟨w.heap.size, 0, none⟩) hN6).trans c0
            have g1 := (hPt.below.cell (p := ⟨w.heap.size, 1, none⟩) hN6).trans c1
            have g2 := (hPt.below.cell (p := ⟨w.heap.size, 2, none⟩) hN6).trans c2
            have B8 : Below w.heap.size w wr := B6.trans (hPt.below.mono (Nat.le_of_lt hN6))
            have hmC : ¬ m ≤ (coreOf a b c).size := by omega
            clear hm3 hm4 hmf hbm hPt hi c0 c1 c2 HB HC B6
            generalize coreOf a b c = C at *
            generalize beg a b c 3 = bg at *
            go_wp2_with (go_at_call 23; refine (sameNumbers_any a b c _).mono ?_; rintro e w9 ⟨rfl, hb9⟩)
            go_ret
            exact ⟨rfl, B8.trans (hb9.mono B8.size)⟩
      · have hts2 : k < t.size := by have := HL.out; rw [ht, text_size (dat_text a b c p)]; simp; omega
        have hdash : (((t[k]'hts2).toNat : Int) != 45) = false := by have := HL.out; subst ht; subst this; exact text_dash (dat_text a b c p) hts2
        have hrest : t.extract (k + 1) t.size = p := by have := HL.out; subst ht; subst this; exact text_rest (dat_text a b c p)
        clear ht HM
        go_wp2_with fail
        clear hdash hrest hp1
        rename (r ≤ 1048576) => hh1
        clear hh1
        rename (r ≤ 1048576) => hh2
        clear hh2
        rw [hcore.out]
        have PS := parts_start w6 a b c
        have HB : Hid (∀ i, i < 3 → beg a b c (i + 1) = fin a b c i + 1) := beg_next a b c
        have HC : Hid (∀ i, i < 3 → (coreOf a b c).extract (beg a b c i) (fin a b c i) = num a b c i) := core_cut a b c
        have hCs : (coreOf a b c).size ≤ 1048578 := by have := HL.out; omega
        clear hts hLs hLt hcore HL
        generalize w6.alloc (.cells #[.string ⟨#[]⟩, .string ⟨#[]⟩, .string ⟨#[]⟩] 23) = w7 at PS ⊢
        generalize hPP : w6.heap.size = P at PS hN6 ⊢
        have HP : Hid (w6.heap.size = P) := hPP
        clear hPP
        go_loopg [11, 12, 13] ((coreOf a b c).size + 1) (fun g cnt st j wr => ∃ i m : Nat, i ≤ 3 ∧ m + g = (coreOf a b c).size + 1 ∧ j = .int .i64 m ∧ cnt = .int .i64 i ∧ st = .int .i64 (beg a b c i) ∧ beg a b c i ≤ m ∧ (i < 3 → m ≤ fin a b c i) ∧ (i = 3 → m = (coreOf a b c).size + 1) ∧ Parts w6 wr P a b c i)
        case atStart => exact ⟨0, 0, by omega, by omega, rfl, rfl, rfl, Nat.zero_le _, fun _ => Nat.zero_le _, fun h => by omega, PS⟩
        case round =>
          obtain ⟨i, m, hi3, hm, rfl, rfl, rfl, hbm, hmf, hm3, hPt⟩ := hrel
          have HMm : Hid (m + gk = (coreOf a b c).size + 1) := hm
          clear hm PS
          by_cases hi : i < 3
          · replace hmf := hmf hi
            clear hm3 hi3
            have hfC := fin_le a b c i hi
            by_cases hmlt : m < fin a b c i
            · have hmC : m < (coreOf a b c).size := by omega
              have hnd := core_nodot a b c HD.out.1 HD.out.2.1 HD.out.2.2 i m hi hbm hmlt hmC
              have hneq : ((m : Int) == ((coreOf a b c).size : Int)) = false := beq_eq_false_iff_ne.2 (by omega)
              have hend : Hid (m + 1 ≤ fin a b c i) := hmlt
              clear hmlt hmf hfC
              generalize coreOf a b c = C at *
              generalize hbg : beg a b c i = bg at *
              have HBG : Hid (beg a b c i = bg) := hbg
              clear hbg
              go_wp2_with fail
              go_roundg (C.size + 1 - (m + 1))
              case measure => have := HMm.out; omega
              case rel => exact ⟨i, m + 1, by omega, by omega, by go_num, rfl, by rw [HBG.out], by have := HBG.out; omega, fun _ => hend.out, fun h => by omega, hPt⟩
            · obtain rfl : m = fin a b c i := by omega
              have hq := hPt.cell i hi
              have hqf := hPt.free i
              rw [if_neg (Nat.lt_irrefl _)] at hq
              have HN : Hid (Parts w6 (wr.setCell ⟨P, i, none⟩ (.string (num a b c i))) P a b c (i + 1)) := hPt.step hi
              have hcut := HC.out i hi
              have hbf : beg a b c i ≤ fin a b c i := hbm
              have hbn := HB.out i hi
              have HBN : Hid (beg a b c (i + 1) = fin a b c i + 1) := hbn
              have hii : (i : Int) < 3 := by omega
              clear hbn hmlt hmf hbm hPt
              by_cases hi2 : i < 2
              · have hfl := fin_lt a b c i hi2
                have hfl3 : Hid (i + 1 < 3 → fin a b c i + 1 ≤ fin a b c (i + 1)) := fun _ => by have h1 : fin a b c (i + 1) = beg a b c (i + 1) + (num a b c (i + 1)).size := rfl; rw [h1, HBN.out]; omega
                have hnd := core_isdot a b c i hi2 hfl
                have hneq : ((fin a b c i : Int) == ((coreOf a b c).size : Int)) = false := beq_eq_false_iff_ne.2 (by omega)
                have Hi2 : Hid (i + 1 < 3) := show i + 1 < 3 by omega
                clear hi2
                generalize coreOf a b c = C at *
                generalize beg a b c i = bg at *
                generalize fin a b c i = fi at *
                generalize num a b c i = ni at *
                go_wp2_with fail
                go_roundg (C.size + 1 - (fi + 1))
                case measure => have := HMm.out; omega
                case rel => exact ⟨i + 1, fi + 1, by omega, by omega, by go_num, by go_num, by rw [HBN.out]; go_num, by rw [HBN.out]; exact Nat.le_refl _, hfl3.out, fun h => by have := Hi2.out; omega, HN.out⟩
              · obtain rfl : i = 2 := by omega
                have hfl := fin_two a b c
                have hneq : ((fin a b c 2 : Int) == ((coreOf a b c).size : Int)) = true := by rw [hfl]; simp
                have HFL : Hid (fin a b c 2 = (coreOf a b c).size) := hfl
                clear hi2 hfl
                generalize coreOf a b c = C at *
                generalize beg a b c 2 = bg at *
                generalize fin a b c 2 = fi at *
                generalize num a b c 2 = ni at *
                go_wp2_with fail
                go_roundg (C.size + 1 - (fi + 1))
                case measure => have := HMm.out; omega
                case rel => exact ⟨3, fi + 1, by omega, by omega, by go_num, by go_num, by rw [HBN.out]; go_num, by rw [HBN.out]; exact Nat.le_refl _, fun h => by omega, fun _ => by rw [HFL.out], HN.out⟩
          · obtain rfl : i = 3 := by omega
            have hm4 := hm3 rfl
            have e0 := hPt.cell 0 (by omega)
            have e1 := hPt.cell 1 (by omega)
            have e2 := hPt.cell 2 (by omega)
            simp only [num, if_pos (show 0 < 3 by omega), if_pos (show 1 < 3 by omega), if_pos (show 2 < 3 by omega)] at e0 e1 e2
            have g0 := (hPt.below.cell (p := ⟨w.heap.size, 0, none⟩) hN6).trans c0
            have g1 := (hPt.below.cell (p := ⟨w.heap.size, 1, none⟩) hN6).trans c1
            have g2 := (hPt.below.cell (p := ⟨w.heap.size, 2, none⟩) hN6).trans c2
            have B8 : Below w.heap.size w wr := B6.trans (hPt.below.mono (Nat.le_of_lt hN6))
            have hmC : ¬ m ≤ (coreOf a b c).size := by omega
            clear hm3 hm4 hmf hbm hPt hi c0 c1 c2 HB HC B6
            generalize coreOf a b c = C at *
            generalize beg a b c 3 = bg at *
            go_wp2_with (go_at_call 23; refine (sameNumbers_any a b c _).mono ?_; rintro e w9 ⟨rfl, hb9⟩)
            go_ret
            exact ⟨rfl, B8.trans (hb9.mono B8.size)⟩
end Go.Proofs.Qxb6605634a
