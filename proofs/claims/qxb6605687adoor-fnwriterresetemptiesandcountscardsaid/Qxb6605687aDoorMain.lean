import Derived.Test.Qxb6605687aDoorInt
import Derived.Test.Qxb6605687aDoorItoa
namespace Go.Proofs.Qxb6605687aDoor
open Go.RowKit

set_option maxHeartbeats 800000 in
set_option maxRecDepth 100000 in
theorem guard_out (s t : ByteArray) (n : Int) (w : World) (hs : s.size ≤ 9223372036854775807) (ht : t.size ≤ 9223372036854775807) (h : 1048576 < s.size + t.size) :
    Calls Tryd.prog 10 #[.string s, .int .i64 n, .string t] w fun e w' => e = .returned (.bool false) ∧ w = w' := by
  by_cases h1 : 1048576 < s.size
  · go_enter Tryd.func10, Tryd.ntmps10
    go_wp2_with fail
    go_ret
    exact ⟨rfl, rfl⟩
  · by_cases h2 : 1048576 < t.size
    · go_enter Tryd.func10, Tryd.ntmps10
      go_wp2_with fail
      go_ret
      exact ⟨rfl, rfl⟩
    · go_enter Tryd.func10, Tryd.ntmps10
      go_wp2_with fail
      go_ret
      exact ⟨rfl, rfl⟩

set_option maxHeartbeats 800000 in
set_option maxRecDepth 100000 in
theorem guard_in (s t : ByteArray) (n : Int) (w : World) (h : s.size + t.size ≤ 1048576) :
    Calls Tryd.prog 10 #[.string s, .int .i64 n, .string t] w fun e w' => e = .returned (.bool true) ∧ w = w' := by
  have h1 : s.size ≤ 1048576 := by omega
  have h2 : t.size ≤ 1048576 := by omega
  go_enter Tryd.func10, Tryd.ntmps10
  go_wp2_with fail
  go_ret
  exact ⟨rfl, rfl⟩

set_option maxHeartbeats 800000 in
set_option maxRecDepth 100000 in
theorem law_out (s t : ByteArray) (n : Int) (w : World) (hs : s.size ≤ 9223372036854775807) (ht : t.size ≤ 9223372036854775807) (h : 1048576 < s.size + t.size) :
    Calls Tryd.prog 3 #[.string s, .int .i64 n, .string t] w fun e w' => e = .returned (.bool true) ∧ Below w.heap.size w w' := by
  go_enter Tryd.func3, Tryd.ntmps3
  go_wp2_with fail
  refine (guard_out s t n w hs ht h).mono ?_
  rintro e w' ⟨rfl, rfl⟩
  go_wp2_with fail
  go_ret
  exact ⟨rfl, Below.refl _ _⟩

theorem Only.no_below {w w' : World} {B : Nat} (h : Only w w' (fun _ => False)) (hB : B ≤ w.heap.size) : Below B w w' := h.below hB (fun _ e => e.elim)

set_option maxHeartbeats 3200000 in
set_option maxRecDepth 100000 in
theorem law_main (s t : ByteArray) (n : Int) (w : World) (h0 : -9223372036854775808 ≤ n) (h1 : n ≤ 9223372036854775807) (h : s.size + t.size ≤ 1048576)
    (htab : Lib.TabBelow Tryd.prog w.heap.size w tabName .u64 Lib.pow10Tab) :
    Calls Tryd.prog 3 #[.string s, .int .i64 n, .string t] w fun e w' => e = .returned (.bool true) ∧ Below w.heap.size w w' := by
  have hs : s.size ≤ 1048576 := by omega
  have ht : t.size ≤ 1048576 := by omega
  have HT : Hid _ := htab
  clear htab
  go_enter Tryd.func3, Tryd.ntmps3
  go_wp2_with fail
  refine (guard_in s t n w h).mono ?_
  rintro e w' ⟨rfl, rfl⟩
  go_wp2_with fail
  have hW1 : Wtr (w.alloc (.cells #[.slice none 0 0, .bool false, .nilFunc, .nilIface, .int .i64 0] 29)) w.heap.size (.slice none 0 0) 0 := Deep.blk_alloc_new _ _
  have HB1 : Hid (Below w.heap.size w (w.alloc (.cells #[.slice none 0 0, .bool false, .nilFunc, .nilIface, .int .i64 0] 29))) := (Below.refl _ _).alloc (Nat.le_refl _) _
  generalize w.alloc (.cells #[.slice none 0 0, .bool false, .nilFunc, .nilIface, .int .i64 0] 29) = w1 at *
  have ho1 : w1.ownsRow (w.heap.size + 1) 5 1 (.slice none 0 0) 0 [] := World.ownsRow_nil _ _ _ _
  refine (writeSimple_any w.heap.size none 0 0 0 [] s w1 hW1 ho1 (by omega)).mono ?_
  rintro e w2 ⟨rfl, hA⟩
  have HB2 : Hid (Below w.heap.size w w2) := HB1.out.trans (hA.below ho1 hW1.lt)
  obtain ⟨a2, c2, hW2, ho2, -, -⟩ := hA
  clear hW1 ho1 HB1
  rw [Nat.zero_add] at hW2 ho2
  rw [List.nil_append] at ho2
  generalize reply s = xs2 at *
  go_wp2_with fail
  refine (writeInt_any w.heap.size a2 (s.size + 3) c2 0 xs2 n h0 h1 w2 hW2 ho2 (by omega) (Lib.TabBelow.on HT.out HB2.out)).mono ?_
  rintro e w3 ⟨rfl, hA⟩
  have hL20 := Lib.itoa_length_le n h0 h1
  have HZ : Hid (∀ w', Calls Tryd.prog 13 #[.int .i64 n] w' fun e w'' => Made e w' w'' (Lib.itoa n).length) := fun w' => itoa_any n h0 h1 w'
  generalize (Lib.itoa n).length = L at *
  obtain ⟨a3, c3, xs3, hW3, ho3, hB3⟩ := hA
  have HB3 : Hid (Below w.heap.size w w3) := HB2.out.trans hB3
  clear hW2 ho2 hB3 HB2 HT
  go_wp2_with fail
  refine (HZ.out w3).mono ?_
  rintro e w4 ⟨ai, ci, rfl, hO4⟩
  have HB4 : Hid (Below w.heap.size w w4) := HB3.out.trans (hO4.no_below (Nat.le_of_lt hW3.lt))
  have hW4 := hW3.only hO4 (fun e => e)
  have ho4 := owns_only ho3 hO4 (fun _ _ e => e)
  clear hW3 ho3 hO4 HB3 HZ
  go_wp2_with fail
  generalize hF : ((s.size : Int) + 3 + (1 + (L : Int) + 2)) = F
  have hFe : (0 : Int) + ((s.size + 3 + L + 3 : Nat) : Int) = F := by omega
  have hF0 : 0 ≤ F := by omega
  have hF1 : F ≤ 2000000 := by omega
  have hNle : s.size + 3 + L + 3 ≤ 90000000 := by omega
  clear hF hL20
  generalize s.size + 3 + L + 3 = N at *
  refine (reset_any w.heap.size a3 N c3 0 xs3 w4 hW4 ho4 hNle (by omega) (by omega)).mono ?_
  rintro e w5 ⟨rfl, hA⟩
  have HB5 : Hid (Below w.heap.size w w5) := HB4.out.trans (hA.below ho4 hW4.lt)
  rw [hFe] at hA
  obtain ⟨a5, c5, hW5, ho5, -, -⟩ := hA
  clear hW4 ho4 HB4 hFe hNle
  go_wp2_with fail
  refine (zzBuf_any w.heap.size a5 0 c5 F w5 hW5).mono ?_
  rintro e w' ⟨rfl, rfl⟩
  go_wp2_with fail
  refine (zzDone_any w.heap.size _ F w5 hW5).mono ?_
  rintro e w' ⟨rfl, rfl⟩
  go_wp2_with fail
  refine (reset_any w.heap.size a5 0 c5 F [] w5 hW5 ho5 (by omega) hF0 (by omega)).mono ?_
  rintro e w6 ⟨rfl, hA⟩
  have HB6 : Hid (Below w.heap.size w w6) := HB5.out.trans (hA.below ho5 hW5.lt)
  have hFe : F + ((0 : Nat) : Int) = F := by omega
  rw [hFe] at hA
  obtain ⟨a6, c6, hW6, ho6, -, -⟩ := hA
  clear hW5 ho5 HB5 hFe
  go_wp2_with fail
  refine (zzBuf_any w.heap.size a6 0 c6 F w6 hW6).mono ?_
  rintro e w' ⟨rfl, rfl⟩
  go_wp2_with fail
  refine (zzDone_any w.heap.size _ F w6 hW6).mono ?_
  rintro e w' ⟨rfl, rfl⟩
  go_wp2_with fail
  refine (writeSimple_any w.heap.size a6 0 c6 F [] t w6 hW6 ho6 (by omega)).mono ?_
  rintro e w7 ⟨rfl, hA⟩
  have HB7 : Hid (Below w.heap.size w w7) := HB6.out.trans (hA.below ho6 hW6.lt)
  rw [Nat.zero_add, List.nil_append] at hA
  obtain ⟨a7, c7, hW7, ho7, -, -⟩ := hA
  clear hW6 ho6 HB6
  go_wp2_with fail
  refine (zzSimple_any w7.heap.size none 0 0 [] t w7 (Nat.le_refl _) (World.ownsRow_nil _ _ _ _) (by omega)).mono ?_
  rintro e w8 ⟨a8, c8, rfl, ho8, hO8, -⟩
  rw [Nat.zero_add, List.nil_append] at ho8
  rw [Nat.zero_add]
  have hO : Only w7 w8 (fun _ => False) := hO8.weaken (fun _ _ e => by simp [Value.ownBlock] at e)
  have HB8 : Hid (Below w.heap.size w w8) := HB7.out.trans (hO.no_below (Nat.le_of_lt hW7.lt))
  have hW8 := hW7.only hO (fun e => e)
  have ho8' := owns_only ho7 hO (fun _ _ e => e)
  have hby := bytes_reply t
  have hm : t.size + 3 ≤ 100000000 := by omega
  clear hW7 ho7 HB7 hO hO8
  generalize reply t = xs8 at *
  generalize t.size + 3 = M at *
  have HE : Hid (Calls Tryd.prog 18 #[.slice a7 M c7, .slice a8 M c8] w8 fun e w' => e = .returned (.bool true) ∧ ∃ m, w' = w8.drewN m) := eqBytes_any a7 a8 M c7 c8 xs8 w8 (rd_own ho8') (rd_own ho8) hby hm
  clear ho8 ho8' hby
  go_wp2_with fail
  refine (zzBuf_any w.heap.size a7 M c7 F w8 hW8).mono ?_
  rintro e w' ⟨rfl, rfl⟩
  go_wp2_with fail
  refine HE.out.mono ?_
  rintro e w' ⟨rfl, m, rfl⟩
  have hW9 : Wtr (w8.drewN m) w.heap.size (.slice a7 M c7) F := hW8
  have HB9 : Hid (Below w.heap.size w (w8.drewN m)) := HB8.out.trans ((Only.of_drewN w8 m).no_below (Nat.le_of_lt hW8.lt))
  generalize w8.drewN m = w9 at *
  clear hW8 HB8 HE
  go_wp2_with fail
  refine (zzDone_any w.heap.size _ F w9 hW9).mono ?_
  rintro e w' ⟨rfl, rfl⟩
  clear hW9
  go_wp2_with fail
  go_ret
  exact ⟨rfl, HB9.out⟩
end Go.Proofs.Qxb6605687aDoor
