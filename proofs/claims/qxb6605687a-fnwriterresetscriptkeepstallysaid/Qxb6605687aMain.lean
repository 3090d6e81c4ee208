import Derived.Test.Qxb6605687aSt
import Derived.Deep.DeepCutAuto
import Derived.Laws.CopyOwn
import Derived.Deep.OwnRows
namespace Go.Proofs.Qxb6605687a
open Go.RowKit

/-- A slice of bools that reads as l. -/
def BRow (w : World) (a : Option Addr) (l : List Bool) : Prop :=
  l = [] ∨ ∃ b off, a = some ⟨b, off, none⟩ ∧ ∀ i, i < l.length → w.cell? ⟨b, off + i, none⟩ = some (.bool (l.getD i false))

theorem SRow.below {B : Nat} {w w' : World} {a : Option Addr} {l : List ByteArray} (h : SRow w a l) (hb : Below B w w') (hB : w.heap.size ≤ B) : SRow w' a l :=
  h.elim .inl (fun ⟨b, off, e, hc⟩ => .inr ⟨b, off, e, fun i hi => by rw [hb.cell (Nat.lt_of_lt_of_le (World.block_lt_of_cell? w _ (hc i hi)) hB)]; exact hc i hi⟩)
theorem BRow.below {B : Nat} {w w' : World} {a : Option Addr} {l : List Bool} (h : BRow w a l) (hb : Below B w w') (hB : w.heap.size ≤ B) : BRow w' a l :=
  h.elim .inl (fun ⟨b, off, e, hc⟩ => .inr ⟨b, off, e, fun i hi => by rw [hb.cell (Nat.lt_of_lt_of_le (World.block_lt_of_cell? w _ (hc i hi)) hB)]; exact hc i hi⟩)

/-- The bytes of the first k strings. -/
def sz (l : List ByteArray) (k : Nat) : Nat := ((l.take k).map ByteArray.size).sum
theorem sz_succ (l : List ByteArray) (k : Nat) (h : k < l.length) : sz l (k + 1) = sz l k + (l.getD k ByteArray.empty).size := by
  unfold sz
  rw [List.take_add_one, List.getElem?_eq_getElem h, List.getD_eq_getElem?_getD, List.getElem?_eq_getElem h, List.map_append, List.sum_append]
  rfl
theorem sz_mono (l : List ByteArray) (k : Nat) : sz l k ≤ sz l l.length := by
  unfold sz
  rw [List.take_length]
  conv => rhs; rw [← List.take_append_drop k l, List.map_append, List.sum_append]
  omega

theorem Try.info9 : (Try.prog.info? 9).map (fun i => (i.zero, i.size, i.bytes)) = some (some (.string ⟨#[]⟩), 1, 16) := by kernel_rfl
theorem Try.info4 : (Try.prog.info? 4).map (fun i => (i.zero, i.size, i.bytes)) = some (some (.bool false), 1, 1) := by kernel_rfl

/-- 'c := make([]T, len(x)); copy(c, x)': the new row reads as x did. -/
theorem copy_made (T E : TypeId) (z : Value) (n c : Nat) (x : Addr) (vs : List Value) (w : World) (hu : Try.prog.underlying T = some (.slice E)) (hs : (Try.prog.info? E).map (·.size) = some 1) (hn : vs.length = n)
    (hsrc : ∀ j v, vs[j]? = some v → w.cell? (x.add j) = some v) (h1 : ∀ v ∈ vs, v.oneCell' = true) :
    ∃ w2, (Builtin.copy_ #[T, T] 3 #[.slice (some ⟨w.heap.size, 0, none⟩) n n, .slice (some x) n c]).run Try.prog (w.alloc (.cells (madeCells #[z] n) E)) = .ok (.int .i64 n) w2 ∧
      Below w.heap.size w w2 ∧ ∀ j v, vs[j]? = some v → w2.cell? ⟨w.heap.size, j, none⟩ = some v := by
  have hg : (w.alloc (.cells (madeCells #[z] n) E)).heap[w.heap.size]? = some (.cells (madeCells #[z] n) E (0, 0)) := Deep.blk_alloc_new _ _
  have hsz : (madeCells #[z] n).size = n := size_madeCells _ _
  have hr := run_copy_row (P := Try.prog) (w.alloc (.cells (madeCells #[z] n) E)) T T 3 E w.heap.size 0 n n x n c (madeCells #[z] n) E vs hu hs hg (by rw [hn]; exact (Nat.min_self n).symm)
    (fun j v hv => by rw [World.cell?_alloc_lt _ _ _ (World.block_lt_of_cell? w _ (hsrc j v hv))]; exact hsrc j v hv) (by omega) h1
  rw [hn] at hr
  refine ⟨_, hr, below_setRow ((Below.refl _ _).alloc (Nat.le_refl _) _) (Nat.le_refl _) _, fun j v hv => ?_⟩
  rw [cell_of_row _ _ _ _ _ _ (setRow_heap _ _ _ _ _ _ hg)]
  have e : (List.take 0 (madeCells #[z] n).toList ++ vs ++ List.drop (0 + n) (madeCells #[z] n).toList) = vs := by
    rw [List.take_zero, List.nil_append, List.drop_of_length_le (by rw [Array.length_toList, hsz]; omega), List.append_nil]
  rw [e]
  simpa using hv

theorem copy_strs (l : List ByteArray) (c : Nat) (x : Addr) (w : World) (h : SRow w (some x) l) :
    ∃ w2, (Builtin.copy_ #[22, 22] 3 #[.slice (some ⟨w.heap.size, 0, none⟩) l.length l.length, .slice (some x) l.length c]).run Try.prog (w.alloc (.cells (madeCells #[.string ⟨#[]⟩] l.length) 9)) = .ok (.int .i64 l.length) w2 ∧
      Below w.heap.size w w2 ∧ SRow w2 (some ⟨w.heap.size, 0, none⟩) l := by
  obtain ⟨w2, h1, h2, h3⟩ := copy_made 22 9 (.string ⟨#[]⟩) l.length c x (l.map Value.string) w Try.underlying22 (by kernel_rfl) (by simp) (fun j v hv => by
    rcases h with rfl | ⟨b, off, e, hc⟩
    · simp at hv
    · injection e with e
      rw [List.getElem?_map] at hv
      obtain ⟨y, hy, rfl⟩ := Option.map_eq_some_iff.1 hv
      have hj : j < l.length := (List.getElem?_eq_some_iff.1 hy).1
      rw [e, WideShapes.add_plain, hc j hj, List.getD_eq_getElem?_getD, hy]; rfl) (fun v hv => by
    obtain ⟨y, _, rfl⟩ := List.mem_map.1 hv; rfl)
  refine ⟨w2, h1, h2, .inr ⟨w.heap.size, 0, rfl, fun i hi => ?_⟩⟩
  rw [Nat.zero_add]
  exact h3 i _ (by rw [List.getElem?_map, List.getElem?_eq_getElem hi, List.getD_eq_getElem?_getD, List.getElem?_eq_getElem hi]; rfl)

theorem copy_bools (l : List Bool) (c : Nat) (x : Addr) (w : World) (h : BRow w (some x) l) :
    ∃ w2, (Builtin.copy_ #[23, 23] 3 #[.slice (some ⟨w.heap.size, 0, none⟩) l.length l.length, .slice (some x) l.length c]).run Try.prog (w.alloc (.cells (madeCells #[.bool false] l.length) 4)) = .ok (.int .i64 l.length) w2 ∧
      Below w.heap.size w w2 ∧ BRow w2 (some ⟨w.heap.size, 0, none⟩) l := by
  obtain ⟨w2, h1, h2, h3⟩ := copy_made 23 4 (.bool false) l.length c x (l.map Value.bool) w Try.underlying23 (by kernel_rfl) (by simp) (fun j v hv => by
    rcases h with rfl | ⟨b, off, e, hc⟩
    · simp at hv
    · injection e with e
      rw [List.getElem?_map] at hv
      obtain ⟨y, hy, rfl⟩ := Option.map_eq_some_iff.1 hv
      have hj : j < l.length := (List.getElem?_eq_some_iff.1 hy).1
      rw [e, WideShapes.add_plain, hc j hj, List.getD_eq_getElem?_getD, hy]; rfl) (fun v hv => by
    obtain ⟨y, _, rfl⟩ := List.mem_map.1 hv; rfl)
  refine ⟨w2, h1, h2, .inr ⟨w.heap.size, 0, rfl, fun i hi => ?_⟩⟩
  rw [Nat.zero_add]
  exact h3 i _ (by rw [List.getElem?_map, List.getElem?_eq_getElem hi, List.getD_eq_getElem?_getD, List.getElem?_eq_getElem hi]; rfl)

set_option maxHeartbeats 1600000 in
set_option maxRecDepth 100000 in
theorem tally_out (a ra : Option Addr) (l : List ByteArray) (c rn rc : Nat) (w : World) (h : SRow w a l) (hl : l.length ≤ 9223372036854775807) (hr : rn ≤ 9223372036854775807) (hb : 65536 < l.length ∨ 1048576 < rn ∨ 1048576 < 16 * l.length + rn) :
    Calls Try.prog 3 #[.slice a l.length c, .slice ra rn rc] w fun e w' => e = .returned (.bool true) ∧ Below w.heap.size w w' := by
  go_enter Try.func3, Try.ntmps3
  go_wp2_with fail
  refine (zz4_any a ra l c rn rc w h hl hr).mono ?_
  rintro e w' ⟨⟨r, rfl⟩, rfl⟩
  cases r
  · go_wp2_with fail
    go_ret
    exact ⟨rfl, Below.refl _ _⟩
  by_cases h1 : 65536 < l.length
  · go_wp2_with fail
    go_ret
    exact ⟨rfl, Below.refl _ _⟩
  · by_cases h2 : 1048576 < rn
    · go_wp2_with fail
      go_ret
      exact ⟨rfl, Below.refl _ _⟩
    · have h3 : 1048576 < 16 * l.length + rn := by omega
      go_wp2_with fail
      go_ret
      exact ⟨rfl, Below.refl _ _⟩

set_option maxHeartbeats 1600000 in
set_option maxRecDepth 100000 in
theorem tally_main (a ra : Option Addr) (l : List ByteArray) (rl : List Bool) (c rc : Nat) (w : World) (h : SRow w a l) (hr : BRow w ra rl) (hb : 16 * l.length + rl.length ≤ 1048576) (hb2 : l.length ≤ 65536) :
    Calls Try.prog 3 #[.slice a l.length c, .slice ra rl.length rc] w fun e w' => e = .returned (.bool true) ∧ Below w.heap.size w w' := by
  have hrl : rl.length ≤ 1048576 := by omega
  go_enter Try.func3, Try.ntmps3
  go_wp2_with fail
  refine (zz4_any a ra l c rl.length rc w h (by omega) (by omega)).mono ?_
  rintro e w' ⟨⟨r, rfl⟩, rfl⟩
  cases r
  · go_wp2_with fail
    go_ret
    exact ⟨rfl, Below.refl _ _⟩
  go_wp2_with fail
  go_loopg [5, 6] l.length (fun g tot i wr => ∃ k : Nat, k + g = l.length ∧ i = .int .i64 k ∧ tot = .int .i64 (16 * (l.length : Int) + (rl.length : Int) + (sz l k : Int)) ∧ 16 * l.length + rl.length + sz l k ≤ 1048576 ∧ w = wr)
  case atStart => exact ⟨0, by omega, rfl, by simp [sz], by simp [sz]; omega, rfl⟩
  case round =>
    obtain ⟨k, hk, rfl, rfl, ht, rfl⟩ := hrel
    have HK : Hid (k + gk = l.length) := hk
    have hk1 : k ≤ l.length := by omega
    clear hk
    by_cases hlt : k < l.length
    · rcases h with rfl | ⟨b, off, rfl, hc⟩
      · simp at hlt
      · have hcell := hc k hlt
        have HS : Hid (sz l (k + 1) = sz l k + (l.getD k ByteArray.empty).size) := sz_succ l k hlt
        obtain ⟨y, hy⟩ : ∃ y, y = l.getD k ByteArray.empty := ⟨_, rfl⟩
        rw [← hy] at hcell HS
        clear hc hr hy
        generalize sz l k = t at *
        go_wp2_with fail
        · go_ret
          exact ⟨rfl, Below.refl _ _⟩
        · go_ret
          exact ⟨rfl, Below.refl _ _⟩
        · have hle : 16 * (l.length : Int) + (rl.length : Int) + (t : Int) + (y.size : Int) ≤ 1048576 := by assumption
          go_roundg (l.length - (k + 1))
          case measure => have := HK.out; omega
          case rel => exact ⟨k + 1, by omega, by go_num, by rw [HS.out]; go_num, by rw [HS.out]; omega, rfl⟩
    · obtain rfl : k = l.length := by omega
      have hneq := fun (wx : World) (a : Option Addr) (n c : Nat) => run_neq_slice_nil_any (P := Try.prog) wx 22 9 a n c 0 0 Try.underlying22
      have hmk := run_make_row' (P := Try.prog) 22 9 (.string ⟨#[]⟩) 16 Try.underlying22 Try.info9 rfl .i64 .i64 l.length (by omega) (by omega)
      clear HK hk1 hlt
      go_upto_if 57 with (fail)
      go_cut [0] (fun s wc => ∃ a' c', s = .slice a' l.length c' ∧ SRow wc a' l ∧ BRow wc ra rl ∧ Below w.heap.size w wc)
      case first =>
        cases a with
        | none =>
          go_wp2_with fail
          go_meet
          case rel => exact ⟨none, c, rfl, h, hr, Below.refl _ _⟩
        | some x =>
          obtain ⟨w2, hcp, hB2, hS2⟩ := copy_strs l c x w h
          have hR2 := hr.below hB2 (Nat.le_refl _)
          clear h hr
          go_wp2_with fail
          go_meet
          case rel => exact ⟨_, _, rfl, hS2, hR2, hB2⟩
      case rest =>
        obtain ⟨a', c', rfl, hS, hR, hB⟩ := hcut
        have HT : Hid (sz l l.length ≤ 1048576) := show sz l l.length ≤ 1048576 by omega
        clear h hr hneq hmk ht
        have hneq := fun (wx : World) (a : Option Addr) (n c : Nat) => run_neq_slice_nil_any (P := Try.prog) wx 23 4 a n c 0 0 Try.underlying23
        have hmk := run_make_row' (P := Try.prog) 23 4 (.bool false) 1 Try.underlying23 Try.info4 rfl .i64 .i64 rl.length (by omega) (by omega)
        obtain ⟨wo, rfl⟩ : ∃ wo : World, wo = wc := ⟨_, rfl⟩
        go_upto_if 66 with (fail)
        go_cut [1] (fun s wc => ∃ ra' rc', s = .slice ra' rl.length rc' ∧ SRow wc a' l ∧ BRow wc ra' rl ∧ Below w.heap.size w wc)
        case first =>
          cases ra with
          | none =>
            go_wp2_with fail
            go_meet
            case rel => exact ⟨none, rc, rfl, hS, hR, hB⟩
          | some x =>
            obtain ⟨w2, hcp, hB2, hR2⟩ := copy_bools rl rc x wo hR
            have hS2 := hS.below hB2 (Nat.le_refl _)
            have hB3 := hB.trans (hB2.mono hB.size)
            clear hS hR hB hB2
            go_wp2_with fail
            go_meet
            case rel => exact ⟨_, _, rfl, hS2, hR2, hB3⟩
        case rest =>
          obtain ⟨ra', rc', rfl, hS1, hR1, hB1⟩ := hcut
          clear hS hR hB hneq hmk
          have S0 := st_start wc
          obtain ⟨wd, rfl⟩ : ∃ wd : World, wd = wc := ⟨_, rfl⟩
          go_wp2_with fail
          generalize wd.alloc (.cells #[.slice none 0 0, .bool false, .nilFunc, .nilIface, .int .i64 0] 31) = w0 at S0 ⊢
          generalize hWb : wd.heap.size = Wb at S0 ⊢
          have HWb : Hid (wd.heap.size = Wb) := hWb
          clear hWb
          go_loopg [10, 11, 12] l.length (fun g sn wt i wr => ∃ (k n : Nat) (va : Option Addr) (cv : Nat) (va2 : Option Addr) (cv2 : Nat) (dn : Int) (xs : List Value), k + g = l.length ∧ i = .int .i64 k ∧ sn = .slice va2 n cv2 ∧ wt = .int .i64 (dn + n) ∧ dn + n ≤ sz l k + 3 * k ∧ St wd wr Wb va cv va2 cv2 n dn xs)
          case atStart => exact ⟨0, 0, none, 0, none, 0, 0, [], by omega, rfl, rfl, rfl, by simp [sz], S0⟩
          case round =>
            obtain ⟨k, n, va, cv, va2, cv2, dn, xs, hk, rfl, rfl, rfl, htot, hSt⟩ := hrel
            have HK : Hid (k + gk = l.length) := hk
            have hk1 : k ≤ l.length := by omega
            clear hk S0
            have hszk := sz_mono l k
            have hd0 := hSt.dn0
            have hnb : (n : Int) + dn ≤ 1300000 := by have := HT.out; omega
            by_cases hlt : k < l.length
            · rcases hS1 with rfl | ⟨b, off, rfl, hc⟩
              · simp at hlt
              · have hcell0 := hc k hlt
                have HS : Hid (sz l (k + 1) = sz l k + (l.getD k ByteArray.empty).size) := sz_succ l k hlt
                have hszk1 := sz_mono l (k + 1)
                obtain ⟨s, hs⟩ : ∃ s, s = l.getD k ByteArray.empty := ⟨_, rfl⟩
                rw [← hs] at hcell0 HS
                have hss : s.size ≤ 1048576 := by have := HS.out; have := HT.out; omega
                clear hc hs hszk hszk1
                have hbW : b < Wb := by rw [← HWb.out]; exact World.block_lt_of_cell? wd _ hcell0
                have hcell : wr.cell? ⟨b, off + k, none⟩ = some (.string s) := (hSt.below.cell (p := ⟨b, off + k, none⟩) hbW).trans hcell0
                go_wp2_with fail
                refine (writeSimple_any Wb va n cv dn xs s wr hSt.wtr hSt.own (by omega)).mono ?_
                rintro e w1 ⟨rfl, hA1⟩
                obtain ⟨a1, c1, hM⟩ := mid_of hSt hA1 (hSt.bytes.append (bytes_reply s))
                have hcell1 : w1.cell? ⟨b, off + k, none⟩ = some (.string s) := (hM.below.cell (p := ⟨b, off + k, none⟩) hbW).trans hcell0
                clear hSt hA1 hcell
                go_wp2_with fail
                refine (zzSimple_any (Wb + 1) va2 n cv2 xs s w1 hM.wtr.lt hM.own2 (by omega)).mono ?_
                intro e w2 hG
                obtain ⟨a3, c3, rfl, hS2⟩ := st_of hM hG
                have hcell2 : w2.cell? ⟨b, off + k, none⟩ = some (.string s) := (hS2.below.cell (p := ⟨b, off + k, none⟩) hbW).trans hcell0
                clear hM hG hcell1
                obtain ⟨n1, hn1⟩ : ∃ n1, n1 = n + s.size + 3 := ⟨_, rfl⟩
                rw [← hn1] at hS2
                rw [← hn1]
                have HN1 : Hid (n1 = n + s.size + 3) := hn1
                have hn3 : 3 ≤ n1 := by omega
                have hn1b : (n1 : Int) ≤ 2400000 := by omega
                have hwr : ((dn + (n1 : Int)) != dn + (n : Int) + ((s.size : Int) + 3)) = false := by rw [hn1]; simp; omega
                clear hn1
                obtain ⟨g1, rfl, hg1, hg1m⟩ := own_some hS2.own (by omega)
                obtain ⟨g3, rfl, hg3, hg3m⟩ := own_some hS2.own2 (by omega)
                have hZ := zzBuf_any Wb _ n1 c1 dn w2 hS2.wtr
                have hDn := zzDone_any Wb _ dn w2 hS2.wtr
                go_wp2_with (first
                  | (go_at_call 7; refine hZ.mono ?_; rintro e w' ⟨rfl, rfl⟩)
                  | (go_at_call 8; refine hDn.mono ?_; rintro e w' ⟨rfl, rfl⟩))
                have hsub : (n1 : Int) - ((s.size : Int) + 3) = (n : Int) := by have := HN1.out; omega
                have hnn : n < n1 := by have := HN1.out; omega
                have b1 : (n : Int) < (n1 : Int) := by omega
                have b2 : (n : Int) < (c1 : Int) := by omega
                have b3 : (n : Int) < (c3 : Int) := by omega
                clear hZ hDn hwr
                have hr1 := rd_cut hS2.own (Nat.le_of_lt hnn)
                have hr3 := rd_cut hS2.own2 (Nat.le_of_lt hnn)
                have hby := hS2.bytes.drop n
                go_quiet ((go_at_call 9; exact Calls.quiet_of (eqBytes_any _ _ (n1 - n) _ _ ((xs ++ reply s).drop n) _ (hr1.drewN _) (hr3.drewN _) hby (by omega))))
                clear hr1 hr3 hby b1 b2 b3 hsub hcell2
                have hS3 := hS2.drewN nq
                clear hS2
                generalize w2.drewN nq = w3 at hS3 ⊢
                have HWT : Hid (dn + (n : Int) + ((s.size : Int) + 3) = dn + (n1 : Int)) := by have := HN1.out; unfold Hid; omega
                have HTot : Hid (dn + (n1 : Int) ≤ (sz l (k + 1) : Int) + 3 * ((k + 1 : Nat) : Int)) := by have := HN1.out; have := HS.out; unfold Hid; omega
                by_cases hkr : k < rl.length
                · rcases hR1 with rfl | ⟨br, offr, rfl, hcr⟩
                  · simp at hkr
                  · have hcr0 := hcr k hkr
                    have hbr : br < Wb := by rw [← HWb.out]; exact World.block_lt_of_cell? wd _ hcr0
                    have hcr3 := (hS3.below.cell (p := ⟨br, offr + k, none⟩) hbr).trans hcr0
                    clear hcr hcr0
                    have hkri : (k : Int) < (rl.length : Int) := by omega
                    cases hrb : rl.getD k false with
                    | false =>
                      rw [hrb] at hcr3
                      clear hrb
                      go_wp2_with fail
                      go_roundg (l.length - (k + 1))
                      case measure => have := HK.out; omega
                      case rel => exact ⟨k + 1, n1, _, _, _, _, dn, _, by omega, by go_num, rfl, by rw [HWT.out], HTot.out, hS3⟩
                    | true =>
                      rw [hrb] at hcr3
                      clear hrb
                      go_wp2_with fail
                      refine (eqBytes_any _ _ n1 _ _ _ w3 (rd_own hS3.own) (rd_own hS3.own2) hS3.bytes (by omega)).mono ?_
                      rintro e w' ⟨rfl, m9, rfl⟩
                      have hS4 := hS3.drewN m9
                      clear hS3 hcr3
                      generalize w3.drewN m9 = w4 at hS4 ⊢
                      go_wp2_with fail
                      refine (reset_any Wb _ n1 c1 dn _ w4 hS4.wtr hS4.own (by omega) hd0 (by omega)).mono ?_
                      rintro e w5 ⟨rfl, hA5⟩
                      obtain ⟨a5, c5, hS5⟩ := st_reset hS4 hA5 (by omega)
                      clear hS4 hA5
                      have hwr : ((dn + (n1 : Int)) != dn + (n : Int) + ((s.size : Int) + 3)) = false := by have := HN1.out; rw [this]; simp; omega
                      have hZ := zzBuf_any Wb _ 0 c5 (dn + n1) w5 hS5.wtr
                      have hDn := zzDone_any Wb _ (dn + n1) w5 hS5.wtr
                      go_wp2_with (first
                        | (go_at_call 7; refine hZ.mono ?_; rintro e w' ⟨rfl, rfl⟩)
                        | (go_at_call 8; refine hDn.mono ?_; rintro e w' ⟨rfl, rfl⟩))
                      go_roundg (l.length - (k + 1))
                      case measure => have := HK.out; omega
                      case rel => exact ⟨k + 1, 0, _, _, _, _, dn + n1, [], by omega, by go_num, rfl, by rw [HWT.out]; simp, by have := HTot.out; simp; omega, hS5⟩
                · have hkd : decide ((k : Int) < (rl.length : Int)) = false := by simp; omega
                  go_wp2_with fail
                  go_roundg (l.length - (k + 1))
                  case measure => have := HK.out; omega
                  case rel => exact ⟨k + 1, n1, _, _, _, _, dn, _, by omega, by go_num, rfl, by rw [HWT.out], HTot.out, hS3⟩
            · obtain rfl : k = l.length := by omega
              clear hlt hk1 hszk htot
              have ho1 := hSt.own
              have B9 : Below w.heap.size w wr := hB1.trans (hSt.below.mono (by rw [← HWb.out]; exact hB1.size))
              have hE := eqBytes_any va va2 n cv cv2 xs wr (rd_own hSt.own) (rd_own hSt.own2) hSt.bytes (by omega)
              have hZ := zzBuf_any Wb va n cv dn wr hSt.wtr
              clear hS1 hR1 hSt ho1
              go_wp2_with (first
                | (go_at_call 7; refine hZ.mono ?_; rintro e w' ⟨rfl, rfl⟩)
                | (go_at_call 9; refine hE.mono ?_; rintro e w' ⟨rfl, m9, rfl⟩))
              go_ret
              exact ⟨rfl, below_drewN B9 _⟩
end Go.Proofs.Qxb6605687a
