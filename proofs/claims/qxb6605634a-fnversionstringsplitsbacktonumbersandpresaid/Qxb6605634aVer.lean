import Derived.Test.Qxb6605634aPre
namespace Go.Proofs.Qxb6605634a
open Go.RowKit

/-- It returns an int; where that is at most 1048576, p holds. -/
def IntImp (e : Ending) (p : Prop) : Prop := ∃ r : Int, e = .returned (.int .i64 r) ∧ (r ≤ 1048576 → p)

set_option maxHeartbeats 1600000 in
set_option maxRecDepth 100000 in
theorem versionBytes_any (a b c p : ByteArray) (w : World) (ha : a.size ≤ 9223372036854775807) (hb : b.size ≤ 9223372036854775807) (hc : c.size ≤ 9223372036854775807) (hp : p.size ≤ 9223372036854775807) :
    Calls Try.prog 13 #[.agg #[.string a, .string b, .string c], .string p] w fun e w' => IntImp e (a.size + b.size + c.size + p.size ≤ 1048576) ∧ w' = w.alloc (.cells #[.string a, .string b, .string c] 23) := by
  by_cases h1 : 1048576 < a.size
  · have d1 : decide (1048576 < (a.size : Int)) = true := by simp; omega
    go_enter Try.func13, Try.ntmps13
    go_wp2_with fail
    go_ret
    exact ⟨⟨_, rfl, fun h => absurd h (by decide)⟩, rfl⟩
  have d1 : decide (1048576 < (a.size : Int)) = false := by simp; omega
  by_cases h2 : 1048576 < b.size
  · have d2 : decide (1048576 < (b.size : Int)) = true := by simp; omega
    go_enter Try.func13, Try.ntmps13
    go_wp2_with fail
    go_ret
    exact ⟨⟨_, rfl, fun h => absurd h (by decide)⟩, rfl⟩
  have d2 : decide (1048576 < (b.size : Int)) = false := by simp; omega
  by_cases h3 : 1048576 < c.size
  · have d3 : decide (1048576 < (c.size : Int)) = true := by simp; omega
    go_enter Try.func13, Try.ntmps13
    go_wp2_with fail
    go_ret
    exact ⟨⟨_, rfl, fun h => absurd h (by decide)⟩, rfl⟩
  have d3 : decide (1048576 < (c.size : Int)) = false := by simp; omega
  by_cases h4 : 1048576 < p.size
  · have d4 : decide (1048576 < (p.size : Int)) = true := by simp; omega
    go_enter Try.func13, Try.ntmps13
    go_wp2_with fail
    go_ret
    exact ⟨⟨_, rfl, fun h => absurd h (by decide)⟩, rfl⟩
  have d4 : decide (1048576 < (p.size : Int)) = false := by simp; omega
  go_enter Try.func13, Try.ntmps13
  go_wp2_with fail
  go_ret
  exact ⟨⟨(a.size : Int) + b.size + c.size + p.size, rfl, fun h => by omega⟩, rfl⟩

set_option maxHeartbeats 1600000 in
set_option maxRecDepth 100000 in
theorem validVersion_any (a b c p : ByteArray) (w : World) (h : a.size + b.size + c.size + p.size ≤ 1048576) :
    Calls Try.prog 14 #[.agg #[.string a, .string b, .string c], .string p] w fun e w' => BoolImp e (Digits a ∧ Digits b ∧ Digits c) ∧ w' = w.alloc (.cells #[.string a, .string b, .string c] 23) := by
  go_enter Try.func14, Try.ntmps14
  go_wp2_with fail
  refine (validNumber_any a _ (by omega)).mono ?_
  rintro e w' ⟨⟨r, rfl, ra⟩, rfl⟩
  cases r
  · clear ra
    go_wp2_with fail
    go_ret
    exact ⟨⟨_, rfl, fun h => by cases h⟩, rfl⟩
  replace ra : Hid (Digits a) := ra rfl
  go_wp2_with fail
  refine (validNumber_any b _ (by omega)).mono ?_
  rintro e w' ⟨⟨r, rfl, rb⟩, rfl⟩
  cases r
  · clear rb
    go_wp2_with fail
    go_ret
    exact ⟨⟨_, rfl, fun h => by cases h⟩, rfl⟩
  replace rb : Hid (Digits b) := rb rfl
  go_wp2_with fail
  refine (validNumber_any c _ (by omega)).mono ?_
  rintro e w' ⟨⟨r, rfl, rc⟩, rfl⟩
  cases r
  · clear rc
    go_wp2_with fail
    go_ret
    exact ⟨⟨_, rfl, fun h => by cases h⟩, rfl⟩
  replace rc : Hid (Digits c) := rc rfl
  go_wp2_with fail
  refine (validPre_any p _ (by omega)).mono ?_
  rintro e w' ⟨⟨r, rfl⟩, rfl⟩
  go_wp2_with fail
  go_ret
  exact ⟨⟨_, rfl, fun _ => ⟨ra.out, rb.out, rc.out⟩⟩, rfl⟩

set_option maxHeartbeats 1600000 in
set_option maxRecDepth 100000 in
theorem sameNumbers_any (a b c : ByteArray) (w : World) :
    Calls Try.prog 23 #[.agg #[.string a, .string b, .string c], .agg #[.string a, .string b, .string c]] w fun e w' => e = .returned (.bool true) ∧ Below w.heap.size w w' := by
  go_enter Try.func23, Try.ntmps23
  go_wp2_with fail
  go_ret
  exact ⟨rfl, ((Below.refl _ _).alloc (Nat.le_refl _) _).alloc (by simp) _⟩

set_option maxHeartbeats 1600000 in
set_option maxRecDepth 100000 in
theorem string_any (t p : ByteArray) (x y z : Int) (w : World) :
    Calls Try.prog 34 #[.agg #[.string t, .int .u64 x, .int .u64 y, .int .u64 z, .string p]] w fun e w' => e = .returned (.string t) ∧ Below w.heap.size w w' := by
  go_enter Try.func34, Try.ntmps34
  go_wp2_with fail
  go_ret
  exact ⟨rfl, (Below.refl _ _).alloc (Nat.le_refl _) _⟩

set_option maxHeartbeats 1600000 in
set_option maxRecDepth 100000 in
theorem zz33_any (a b c p : ByteArray) (w : World) (ha : a.size ≤ 9223372036854775807) (hb : b.size ≤ 9223372036854775807) (hc : c.size ≤ 9223372036854775807) (hp : p.size ≤ 9223372036854775807) :
    Calls Try.prog 33 #[.agg #[.string a, .string b, .string c], .string p] w fun e w' => SomeBool e ∧ w' = w.alloc (.cells #[.string a, .string b, .string c] 23) := by
  go_enter Try.func33, Try.ntmps33
  go_wp2_with fail
  refine wp_loop_rounds 4 ?_
  rw [rounds_succ]
  go_wp2_with fail
  · go_ret
    exact ⟨⟨_, rfl⟩, rfl⟩
  rw [rounds_succ]
  go_wp2_with fail
  · go_ret
    exact ⟨⟨_, rfl⟩, rfl⟩
  · go_ret
    exact ⟨⟨_, rfl⟩, rfl⟩
  rw [rounds_succ]
  go_wp2_with fail
  · go_ret
    exact ⟨⟨_, rfl⟩, rfl⟩
  · go_ret
    exact ⟨⟨_, rfl⟩, rfl⟩
  rw [rounds_succ]
  go_wp2_with fail
  all_goals go_ret
  all_goals exact ⟨⟨_, rfl⟩, rfl⟩

/-- MAJOR.MINOR.PATCH. -/
def coreOf (a b c : ByteArray) : ByteArray := a ++ ⟨#[46]⟩ ++ b ++ ⟨#[46]⟩ ++ c

/-- The version's text: the core, and the pre-release behind a dash. -/
def textOf (a b c p : ByteArray) : ByteArray := coreOf a b c ++ (⟨#[45]⟩ ++ p)

theorem idx0 (a b c : ByteArray) (w : World) : (Instr.index 23 (.agg #[.string a, .string b, .string c]) (.int .i64 0)).run Try.prog w = .ok (.string a) w := by kernel_rfl
theorem idx1 (a b c : ByteArray) (w : World) : (Instr.index 23 (.agg #[.string a, .string b, .string c]) (.int .i64 1)).run Try.prog w = .ok (.string b) w := by kernel_rfl
theorem idx2 (a b c : ByteArray) (w : World) : (Instr.index 23 (.agg #[.string a, .string b, .string c]) (.int .i64 2)).run Try.prog w = .ok (.string c) w := by kernel_rfl

/-- It returns a Version of this text and this pre-release. -/
def Vers (e : Ending) (t p : ByteArray) : Prop := ∃ x y z : Int, e = .returned (.agg #[.string t, .int .u64 x, .int .u64 y, .int .u64 z, .string p])

set_option maxHeartbeats 1600000 in
set_option maxRecDepth 100000 in
theorem makeVersion_none (a b c : ByteArray) (w : World) (h : a.size + b.size + c.size ≤ 1048576) :
    Calls Try.prog 54 #[.agg #[.string a, .string b, .string c], .string ⟨#[]⟩] w fun e w' => Vers e (coreOf a b c) ⟨#[]⟩ ∧ Below w.heap.size w w' := by
  have i0 := idx0 a b c
  have i1 := idx1 a b c
  have i2 := idx2 a b c
  go_enter Try.func54, Try.ntmps54
  go_wp2_with fail
  generalize ht : a ++ (⟨#[46]⟩ : ByteArray) ++ b ++ ⟨#[46]⟩ ++ c = t
  have HT : Hid (t = coreOf a b c) := ht.symm
  clear ht
  refine wp_loop_rounds 4 ?_
  rw [rounds_succ]
  go_wp2_with (go_at_call 66; refine (valueOf_any a _ (by omega)).mono ?_; rintro e w' ⟨⟨x, rfl⟩, rfl⟩)
  rw [rounds_succ]
  go_wp2_with (go_at_call 66; refine (valueOf_any b _ (by omega)).mono ?_; rintro e w' ⟨⟨y, rfl⟩, rfl⟩)
  rw [rounds_succ]
  go_wp2_with (go_at_call 66; refine (valueOf_any c _ (by omega)).mono ?_; rintro e w' ⟨⟨z, rfl⟩, rfl⟩)
  rw [rounds_succ]
  go_wp2_with fail
  refine bodyPost_ret (v := .agg #[.string t, .int .u64 x, .int .u64 y, .int .u64 z, .string ⟨#[]⟩]) (by simp [results, Try.results54, go_sem]) rfl ⟨⟨x, y, z, by rw [HT.out]⟩, ?_⟩
  exact (((Below.refl _ _).alloc (Nat.le_refl _) _).alloc (by simp) _).alloc (by simp; omega) _

set_option maxHeartbeats 1600000 in
set_option maxRecDepth 100000 in
theorem makeVersion_some (a b c p : ByteArray) (w : World) (h : a.size + b.size + c.size + p.size ≤ 1048576) (hp : (!p.toList.isEmpty) = true) :
    Calls Try.prog 54 #[.agg #[.string a, .string b, .string c], .string p] w fun e w' => Vers e (textOf a b c p) p ∧ Below w.heap.size w w' := by
  have i0 := idx0 a b c
  have i1 := idx1 a b c
  have i2 := idx2 a b c
  go_enter Try.func54, Try.ntmps54
  go_wp2_with fail
  generalize ht : a ++ (⟨#[46]⟩ : ByteArray) ++ b ++ ⟨#[46]⟩ ++ c ++ (⟨#[45]⟩ ++ p) = t
  have HT : Hid (t = textOf a b c p) := ht.symm
  clear ht
  refine wp_loop_rounds 4 ?_
  rw [rounds_succ]
  go_wp2_with (go_at_call 66; refine (valueOf_any a _ (by omega)).mono ?_; rintro e w' ⟨⟨x, rfl⟩, rfl⟩)
  rw [rounds_succ]
  go_wp2_with (go_at_call 66; refine (valueOf_any b _ (by omega)).mono ?_; rintro e w' ⟨⟨y, rfl⟩, rfl⟩)
  rw [rounds_succ]
  go_wp2_with (go_at_call 66; refine (valueOf_any c _ (by omega)).mono ?_; rintro e w' ⟨⟨z, rfl⟩, rfl⟩)
  rw [rounds_succ]
  go_wp2_with fail
  refine bodyPost_ret (v := .agg #[.string t, .int .u64 x, .int .u64 y, .int .u64 z, .string p]) (by simp [results, Try.results54, go_sem]) rfl ⟨⟨x, y, z, by rw [HT.out]⟩, ?_⟩
  exact (((Below.refl _ _).alloc (Nat.le_refl _) _).alloc (by simp) _).alloc (by simp; omega) _

set_option maxHeartbeats 1600000 in
set_option maxRecDepth 100000 in
theorem zzmake_any (a b c p t : ByteArray) (w : World)
    (h : ∀ w, Calls Try.prog 54 #[.agg #[.string a, .string b, .string c], .string p] w fun e w' => Vers e t p ∧ Below w.heap.size w w') :
    Calls Try.prog 19 #[.agg #[.string a, .string b, .string c], .string p] w fun e w' => Vers e t p ∧ Below w.heap.size w w' := by
  have H := h
  clear h
  go_enter Try.func19, Try.ntmps19
  go_wp2_with fail
  refine (H _).mono ?_
  rintro e w' ⟨⟨x, y, z, rfl⟩, hb⟩
  have hz : w.heap.size + 2 ≤ w'.heap.size := by have := hb.size; simp at this; omega
  have c0 : w'.cell? ⟨w.heap.size + 1, 0, none⟩ = some (.string ⟨#[]⟩) := by rw [hb.cell (by simp)]; simp [go_sem]
  have c1 : w'.cell? ⟨w.heap.size + 1, 1, none⟩ = some (.int .u64 0) := by rw [hb.cell (by simp)]; simp [go_sem]
  have c2 : w'.cell? ⟨w.heap.size + 1, 2, none⟩ = some (.int .u64 0) := by rw [hb.cell (by simp)]; simp [go_sem]
  have c3 : w'.cell? ⟨w.heap.size + 1, 3, none⟩ = some (.int .u64 0) := by rw [hb.cell (by simp)]; simp [go_sem]
  have c4 : w'.cell? ⟨w.heap.size + 1, 4, none⟩ = some (.string ⟨#[]⟩) := by rw [hb.cell (by simp)]; simp [go_sem]
  have hf : ∀ j, w'.frozen? ⟨w.heap.size + 1, j, none⟩ = false := fun j => by rw [hb.frozen (by simp)]; simp [go_sem]
  have f0 := hf 0
  have f1 := hf 1
  have f2 := hf 2
  have f3 := hf 3
  have f4 := hf 4
  have B : Below w.heap.size w w' := (((Below.refl _ _).alloc (Nat.le_refl _) _).alloc (by simp) _).trans (hb.mono (by simp; omega))
  clear hf hb H
  go_wp2_with fail
  refine bodyPost_ret (v := .agg #[.string t, .int .u64 x, .int .u64 y, .int .u64 z, .string p]) (by simp [results, Try.results19, go_sem, c0, c1, c2, c3, c4]) rfl ⟨⟨x, y, z, rfl⟩, ?_⟩
  exact ((((B.setCell (by simp) _).setCell (by simp) _).setCell (by simp) _).setCell (by simp) _).setCell (by simp) _
end Go.Proofs.Qxb6605634a
