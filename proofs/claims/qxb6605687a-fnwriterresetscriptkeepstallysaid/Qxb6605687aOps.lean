import Derived.Test.Qxb6605687aWtr
import Derived.Deep.QuietTactic
import Derived.BigQuiet
import Derived.RegionTactic
namespace Go.Proofs.Qxb6605687a
open Go.RowKit

/-- WHAT zzSimple LEAVES: a slice that owns xs, n of them, in the old row or a new one; of old memory only its row has turned. -/
def Grew (e : Ending) (w w' : World) (B : Nat) (v : Value) (n : Nat) (xs : List Value) : Prop :=
  ∃ a c, e = .returned (.slice a n c) ∧ w'.ownsRow B 5 1 (.slice a n c) n xs ∧ Only w w' (fun k => v.ownBlock = some k) ∧
    Lies (.slice a n c) v w.heap.size

/-- Two appends in a row. -/
theorem grew_step {w w1 w2 : World} {v v1 v2 : Value} (h1 : Only w w1 (fun k => v.ownBlock = some k)) (a1 : Lies v1 v w.heap.size)
    (h2 : Only w1 w2 (fun k => v1.ownBlock = some k)) (a2 : Lies v2 v1 w1.heap.size) : Only w w2 (fun k => v.ownBlock = some k) ∧ Lies v2 v w.heap.size := by
  refine ⟨h1.trans h2 (fun i hi hs => ?_), a1.trans a2 h1.size⟩
  rcases a1 i hs with e | e
  · exact e
  · omega

theorem cell_two_new (w : World) (x y : Value) (t : TypeId) : ∀ j u, [x, y][j]? = some u → (w.alloc (.cells #[x, y] t)).cell? ((⟨w.heap.size, 0, none⟩ : Addr).add j) = some u := by
  intro j u hj
  match j, hj with
  | 0, hj => simp at hj; subst hj; simp [Addr.add]
  | 1, hj => simp at hj; subst hj; simp [Addr.add]

set_option maxHeartbeats 1600000 in
set_option maxRecDepth 100000 in
/-- zzSimple. -/
theorem zzSimple_any (B : Nat) (a : Option Addr) (n c : Nat) (xs : List Value) (s : ByteArray) (w : World) (hB : B ≤ w.heap.size) (ho : w.ownsRow B 5 1 (.slice a n c) n xs) (hn : n + s.size ≤ 90000000) :
    Calls Try.prog 6 #[.slice a n c, .string s] w fun e w' => Grew e w w' B (.slice a n c) (n + s.size + 3) (xs ++ reply s) := by
  obtain ⟨i0, hi, hz0, hz1, hz2⟩ := info_parts Try.info5
  go_enter Try.func6, Try.ntmps6
  go_wp2_with (at_builtin; refine wpList_append_own_at _ rfl (.tmp 5) (.tmp 6) 26 rfl B 5 i0 (.int .u8 0) 1 1 Try.underlying26 hi hz0 hz1 hz2 rfl (by decide) _ n xs rfl (ho.alloc _) ⟨w.heap.size, 0, none⟩ 1 1 [.int .u8 43] rfl rfl (cell_one_new _ _ _) ?_ ?_ ?_ ?_ ?_)
  · intro u hu; simp at hu; subst hu; rfl
  · unfold maxLen; omega
  · omega
  · simp; omega
  intro v1 w1 ho1 hg1 _ hat1
  obtain ⟨a1, c1, hv⟩ := owns_shape ho1
  rw [hv] at ho1 hat1 ⊢
  have hO1 : Only w w1 (fun k => (Value.slice a n c).ownBlock = some k) := only_alloc (Only.of_grown hg1) (fun _ h => h)
  have hA1 : Lies _ _ w.heap.size := lies_of hat1 (by omega)
  have hB1 : B ≤ w1.heap.size := Nat.le_trans hB hO1.size
  have HO1 : Hid _ := hO1
  have HA1 : Hid _ := hA1
  clear ho hO1 hg1 hat1 hA1 hv
  go_wp2_with (at_builtin; refine wpList_append_string_at _ rfl (.tmp 8) (.tmp 9) 26 9 rfl B 5 i0 Try.underlying26 Try.underlying9 hi hz0 hz1 hz2 _ (n + 1) _ rfl ho1 s rfl ?_ ?_ ?_)
  · omega
  · omega
  intro v3 w3 ho3 hg3 hat3
  obtain ⟨a3, c3, hv3⟩ := owns_shape ho3
  rw [hv3] at ho3 hat3 ⊢
  have S2 := grew_step HO1.out HA1.out (Only.of_grown hg3) (lies_of hat3 (Nat.le_refl _))
  have hB3 : B ≤ w3.heap.size := Nat.le_trans hB1 hg3.size
  have HS2 : Hid _ := S2
  clear S2 HO1 HA1 hg3 hat3 hv3 ho1 hB1
  go_wp2_with (at_builtin; refine wpList_append_own_at _ rfl (.tmp 11) (.tmp 12) 26 rfl B 5 i0 (.int .u8 0) 1 1 Try.underlying26 hi hz0 hz1 hz2 rfl (by decide) _ (n + 1 + s.size) _ rfl (ho3.alloc _) ⟨w3.heap.size, 0, none⟩ 2 2 [.int .u8 13, .int .u8 10] rfl rfl (cell_two_new _ _ _ _) ?_ ?_ ?_ ?_ ?_)
  · intro u hu; simp at hu; rcases hu with rfl | rfl <;> rfl
  · unfold maxLen; omega
  · omega
  · simp; omega
  intro v5 w5 ho5 hg5 _ hat5
  obtain ⟨a5, c5, hv5⟩ := owns_shape ho5
  rw [hv5] at ho5 hat5 ⊢
  have hO5 : Only w3 w5 (fun k => (Value.slice a3 (n + 1 + s.size) c3).ownBlock = some k) := only_alloc (Only.of_grown hg5) (fun _ h => h)
  have S3 := grew_step HS2.out.1 HS2.out.2 hO5 (lies_of (k := w3.heap.size) hat5 (by omega))
  have HS3 : Hid _ := S3
  clear S3 HS2 hg5 hat5 hv5 hO5
  have HX : Hid (w5.ownsRow B 5 1 (.slice a5 (n + s.size + 3) c5) (n + s.size + 3) (xs ++ reply s)) := by
    have e1 : n + 1 + s.size + 2 = n + s.size + 3 := by omega
    have e2 : xs ++ Value.int .u8 43 :: (Lib.strCells s ++ [.int .u8 13, .int .u8 10]) = xs ++ reply s := by unfold reply; simp
    rw [e1] at ho5
    rw [← e2]
    unfold Hid
    simpa using ho5
  have HE : Hid (n + 1 + s.size + 2 = n + s.size + 3) := show n + 1 + s.size + 2 = n + s.size + 3 by omega
  clear ho5
  go_wp2_with fail
  go_ret
  have R := HS3.out
  rw [HE.out] at R
  exact ⟨a5, c5, by rw [← HE.out]; rfl, HX.out, R.1, R.2⟩

set_option maxHeartbeats 400000 in
theorem zzBuf_any (Wb : Nat) (a : Option Addr) (n c : Nat) (dn : Int) (w : World) (hW : Wtr w Wb (.slice a n c) dn) :
    Calls Try.prog 7 #[.pointer (some ⟨Wb, 0, none⟩)] w fun e w' => e = .returned (.slice a n c) ∧ w = w' := by
  have c0 := hW.c0
  go_enter Try.func7, Try.ntmps7
  go_wp2_with fail
  go_ret
  exact ⟨rfl, rfl⟩

set_option maxHeartbeats 400000 in
theorem zzDone_any (Wb : Nat) (v : Value) (dn : Int) (w : World) (hW : Wtr w Wb v dn) :
    Calls Try.prog 8 #[.pointer (some ⟨Wb, 0, none⟩)] w fun e w' => e = .returned (.int .i64 dn) ∧ w = w' := by
  have c4 := hW.c4
  go_enter Try.func8, Try.ntmps8
  go_wp2_with fail
  go_ret
  exact ⟨rfl, rfl⟩

/-- A slice cut to nothing owns nothing, in the same row. -/
theorem owns_zero {w : World} {B : Nat} {a : Option Addr} {n c : Nat} {xs : List Value} (h : w.ownsRow B 5 1 (.slice a n c) n xs) : w.ownsRow B 5 1 (.slice a 0 c) 0 [] := by
  refine ⟨rfl, ?_⟩
  rcases h.2 with ⟨e, rfl⟩ | ⟨g, cap, cur, e, hb, hg, hnc, hcm, hcs, _⟩
  · simp only [Value.slice.injEq] at e
    obtain ⟨rfl, _, rfl⟩ := e
    exact .inl ⟨rfl, rfl⟩
  · simp only [Value.slice.injEq] at e
    obtain ⟨rfl, _, rfl⟩ := e
    exact .inr ⟨g, c, cur, rfl, hb, hg, Nat.zero_le _, hcm, hcs, by simp⟩

set_option maxHeartbeats 1600000 in
set_option maxRecDepth 100000 in
/-- Reset, the row's capacity within what a Writer keeps, or not. -/
theorem reset_any (Wb : Nat) (a : Option Addr) (n c : Nat) (dn : Int) (xs : List Value) (w : World) (hW : Wtr w Wb (.slice a n c) dn) (ho : w.ownsRow (Wb + 1) 5 1 (.slice a n c) n xs) (hn : n ≤ 90000000) (hd0 : 0 ≤ dn) (hd1 : dn ≤ 90000000) :
    Calls Try.prog 10 #[.pointer (some ⟨Wb, 0, none⟩)] w fun e w' => e = .returned (.tuple #[]) ∧ After w w' Wb (.slice a n c) 0 (dn + n) [] := by
  have c0 := hW.c0
  have c4 := hW.c4
  have f4 := hW.f 4
  have f0 := hW.f 0
  have hlt := hW.lt
  go_enter Try.func10, Try.ntmps10
  go_wp2_with fail
  go_region
  have hW1 : Wtr (w.setCell ⟨Wb, 4, none⟩ (.int .i64 (dn + n))).drew Wb (.slice a n c) (dn + n) := hW.set4 (dn + n)
  have ho1 : (w.setCell ⟨Wb, 4, none⟩ (.int .i64 (dn + n))).drew.ownsRow (Wb + 1) 5 1 (.slice a n c) n xs := ownsRow_setCell_below ho (a := ⟨Wb, 4, none⟩) (by simp) (.int .i64 (dn + n))
  have hO1 : Only w (w.setCell ⟨Wb, 4, none⟩ (.int .i64 (dn + n))).drew (fun k => k = Wb ∨ (Value.slice a n c).ownBlock = some k) := ((Only.of_set w ⟨Wb, 4, none⟩ (.int .i64 (dn + n))).weaken (fun _ _ h => Or.inl h)).trans (Only.of_drewN _ 1) (fun _ _ h => h.elim)
  clear hW ho c0 c4 f4 f0 hlt
  generalize (w.setCell ⟨Wb, 4, none⟩ (.int .i64 (dn + n))).drew = w1 at *
  have c0 := hW1.c0
  have f0 := hW1.f 0
  by_cases hc : 65536 < c
  · have hW2 := hW1.set0 (.slice none 0 0)
    have e0 := hW2.c0
    have g0 := hW2.f 0
    have hW3 := hW2.set0 (.slice none 0 0)
    have HR : Hid (After w ((w1.setCell ⟨Wb, 0, none⟩ (.slice none 0 0)).setCell ⟨Wb, 0, none⟩ (.slice none 0 0)) Wb (.slice a n c) 0 (dn + n) []) :=
      ⟨none, 0, hW3, World.ownsRow_nil _ _ _ _, (hO1.trans (Only.of_set _ _ _) (fun _ _ h => Or.inl h)).trans (Only.of_set _ _ _) (fun _ _ h => Or.inl h), fun g hg => by simp [Value.ownBlock] at hg⟩
    clear hW1 ho1 hO1 hW2 hW3
    go_wp2_with fail
    go_end0
    exact ⟨rfl, HR.out⟩
  · have HR : Hid (After w (w1.setCell ⟨Wb, 0, none⟩ (.slice a 0 c)) Wb (.slice a n c) 0 (dn + n) []) :=
      ⟨a, c, hW1.set0 _, ownsRow_setCell_below (owns_zero ho1) (by simp) _, hO1.trans (Only.of_set _ _ _) (fun _ _ h => Or.inl h), fun g hg => by
        cases a with
        | none => simp [Value.ownBlock] at hg
        | some x => exact .inl (by simpa [Value.ownBlock] using hg)⟩
    clear ho1 hO1 hW1
    go_wp2_with fail
    go_end0
    exact ⟨rfl, HR.out⟩

/-- Every cell holds a byte. -/
def Bytes (xs : List Value) : Prop := ∀ u ∈ xs, ∃ z : Int, u = .int .u8 z
theorem Bytes.append {xs ys : List Value} (h : Bytes xs) (k : Bytes ys) : Bytes (xs ++ ys) := fun u hu => by
  rcases List.mem_append.1 hu with hu | hu
  · exact h u hu
  · exact k u hu
theorem bytes_reply (s : ByteArray) : Bytes (reply s) := fun u hu => by
  unfold reply Lib.strCells at hu
  simp only [List.mem_append, List.mem_cons, List.mem_map, List.not_mem_nil, or_false] at hu
  rcases hu with (rfl | ⟨b, _, rfl⟩) | rfl | rfl <;> exact ⟨_, rfl⟩
theorem Bytes.drop {xs : List Value} (h : Bytes xs) (k : Nat) : Bytes (xs.drop k) := fun u hu => h u (List.mem_of_mem_drop hu)

/-- A slice of n elements, at a, reads as xs. -/
def Rd (w : World) (a : Option Addr) (n : Nat) (xs : List Value) : Prop :=
  xs.length = n ∧ (n = 0 ∨ ∃ g o, a = some ⟨g, o, none⟩ ∧ ∀ i, i < n → w.cell? ⟨g, o + i, none⟩ = xs[i]?)

theorem rd_own {w : World} {B : Nat} {a : Option Addr} {n c : Nat} {xs : List Value} (h : w.ownsRow B 5 1 (.slice a n c) n xs) : Rd w a n xs := by
  refine ⟨by simpa using h.1, ?_⟩
  rcases h.2 with ⟨_, rfl⟩ | ⟨g, cap, cur, e, _⟩
  · exact .inl rfl
  · simp only [Value.slice.injEq] at e
    obtain ⟨rfl, _, rfl⟩ := e
    exact .inr ⟨g, 0, rfl, fun i hi => by rw [Nat.zero_add]; exact h.cellAt i (by omega)⟩

theorem Rd.drewN {w : World} {a : Option Addr} {n : Nat} {xs : List Value} (h : Rd w a n xs) (k : Nat) : Rd (w.drewN k) a n xs :=
  ⟨h.1, h.2.elim .inl (fun ⟨g, o, e, hc⟩ => .inr ⟨g, o, e, fun i hi => by simpa using hc i hi⟩)⟩

set_option maxHeartbeats 1600000 in
set_option maxRecDepth 100000 in
/-- zzEqBytes of two slices that read alike. -/
theorem eqBytes_any (a b : Option Addr) (n ca cb : Nat) (xs : List Value) (w : World) (ha : Rd w a n xs) (hb : Rd w b n xs) (hx : Bytes xs) (hn : n ≤ 100000000) :
    Calls Try.prog 9 #[.slice a n ca, .slice b n cb] w fun e w' => e = .returned (.bool true) ∧ ∃ m, w' = w.drewN m := by
  by_cases h0 : n = 0
  · subst h0
    clear ha hb hx
    go_enter Try.func9, Try.ntmps9
    go_wp2_with fail
    refine wp_loop_rounds 1 ?_
    rw [rounds_succ]
    go_wp2_with fail
    go_ret
    exact ⟨rfl, 0, rfl⟩
  · obtain ⟨g, o, rfl, hca⟩ := ha.2.resolve_left h0
    obtain ⟨g', o', rfl, hcb⟩ := hb.2.resolve_left h0
    have hl := ha.1
    clear ha hb h0
    go_enter Try.func9, Try.ntmps9
    go_wp2_with fail
    go_loopg [5] n (fun gg i wr => ∃ k m : Nat, k + gg = n ∧ i = .int .i64 k ∧ wr = w.drewN m)
    case atStart => exact ⟨0, 0, by omega, rfl, rfl⟩
    case round =>
      obtain ⟨k, m, hk, rfl, rfl⟩ := hrel
      have HK : Hid (k + gk = n) := hk
      have hk1 : k ≤ n := by omega
      clear hk
      by_cases hlt : k < n
      · have c1 := hca k hlt
        have c2 := hcb k hlt
        obtain ⟨u, hu⟩ : ∃ u, xs[k]? = some u := ⟨_, List.getElem?_eq_getElem (by omega)⟩
        obtain ⟨z, rfl⟩ := hx u (List.mem_of_getElem? hu)
        rw [hu] at c1 c2
        have b1 : (k : Int) < (n : Int) := by omega
        clear hu hx hca hcb hl
        go_wp2_with fail
        go_quiet (fail)
        go_wp2_with fail
        go_roundg (n - (k + 1))
        case measure => have := HK.out; omega
        case rel => exact ⟨k + 1, m + nq, by omega, by go_num, by simp⟩
      · clear hca hcb hx hl
        go_wp2_with fail
        go_ret
        exact ⟨rfl, m, rfl⟩
end Go.Proofs.Qxb6605687a
