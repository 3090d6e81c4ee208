import Derived.Test.Qxb6605606aZz
import Derived.Deep.OwnRows
import Derived.WalkSpells
namespace Go.Proofs.Qxb6605606a
open Go.RowKit

theorem Try.info9 : (Try.prog.info? 9).map (fun i => (i.zero, i.size, i.bytes)) = some (some (.string ⟨#[]⟩), 1, 16) := by kernel_rfl

/-- The zero table: 128 nil slices. -/
def zeros : Array Value := Array.replicate 128 (.slice none 0 0)
theorem zero23 (w : World) : (zeroValue 23).run Try.prog w = .ok (.agg zeros) w := by kernel_rfl
theorem zeros_at (c : Nat) (h : c < 128) : zeros[c]? = some (.slice none 0 0) := by unfold zeros; rw [Array.getElem?_replicate, if_pos h]

/-- A row stays, where every cell that holds a string keeps it. -/
theorem StrRow.strs {w w' : World} {v : Value} {l : List ByteArray} (h : StrRow w v l) (hc : ∀ a x, w.cell? a = some (.string x) → w'.cell? a = some (.string x)) : StrRow w' v l := by
  refine ⟨h.1, ?_⟩
  rcases h.2 with h | ⟨b, off, c, hv, hh⟩
  · exact .inl h
  · exact .inr ⟨b, off, c, hv, fun i hi => hc _ _ (hh i hi)⟩

/-- What is behind a row's value is a slice. -/
theorem StrRow.shape {w : World} {v : Value} {l : List ByteArray} (h : StrRow w v l) : ∃ a n c, v = .slice a n c := by
  rcases h.2 with ⟨_, a, c, rfl⟩ | ⟨b, off, c, rfl, _⟩
  · exact ⟨a, 0, c, rfl⟩
  · exact ⟨_, _, c, rfl⟩

theorem StrRow.below {B : Nat} {w w' : World} {v : Value} {l : List ByteArray} (h : StrRow w v l) (hb : Below B w w') (hB : w.heap.size ≤ B) : StrRow w' v l :=
  h.strs (fun a x hx => by rw [hb.cell (Nat.lt_of_lt_of_le (World.block_lt_of_cell? w a hx) hB)]; exact hx)

theorem Tab.below {B : Nat} {w w' : World} {T : Nat} {R : Nat → List ByteArray} (h : Tab w T R) (hb : Below B w w') (hB : w.heap.size ≤ B) : Tab w' T R := fun c hc => by
  obtain ⟨v, h1, h2⟩ := h c hc
  exact ⟨v, by rw [hb.cell (Nat.lt_of_lt_of_le (World.block_lt_of_cell? w _ h1) hB)]; exact h1, h2.below hb hB⟩

/-- WHAT HOLDS AT THE HEAD OF copyTable's LOOP, k rows copied: nothing that was there has turned; the new table lies in block N. -/
structure Cp (w wr : World) (N : Nat) (R : Nat → List ByteArray) (k : Nat) : Prop where
  below : Below N w wr
  top : ∀ c, c < 128 → ∃ v, wr.cell? ⟨N, c, none⟩ = some v ∧ (c < k → StrRow wr v (R c)) ∧ (k ≤ c → v = .slice none 0 0)
  free : ∀ c, wr.frozen? ⟨N, c, none⟩ = false
  lt : N < wr.heap.size

theorem Cp.start (w : World) (Z : Array Value) (R : Nat → List ByteArray) (hz : ∀ c, c < 128 → Z[c]? = some (.slice none 0 0)) : Cp w (w.alloc (.cells Z 23)) w.heap.size R 0 :=
  ⟨(Below.refl _ _).alloc (Nat.le_refl _) _, fun c hc => ⟨.slice none 0 0, by rw [World.cell?_alloc_new]; exact hz c hc, fun h => absurd h (Nat.not_lt_zero _), fun _ => rfl⟩,
    fun c => World.frozen?_alloc_at _ _ _ _ rfl, by simp⟩

theorem Cp.skip {w wr : World} {N : Nat} {R : Nat → List ByteArray} {k : Nat} (h : Cp w wr N R k) (hR : R k = []) : Cp w wr N R (k + 1) := by
  refine ⟨h.below, fun c hc => ?_, h.free, h.lt⟩
  obtain ⟨v, h1, h2, h3⟩ := h.top c hc
  refine ⟨v, h1, fun hlt => ?_, fun hle => h3 (by omega)⟩
  by_cases e : c = k
  · subst e
    rw [h3 (Nat.le_refl _), hR]
    exact ⟨by simp, .inl ⟨rfl, none, 0, rfl⟩⟩
  · exact h2 (by omega)

theorem Cp.store {w wr wi : World} {N G : Nat} {R : Nat → List ByteArray} {k : Nat} {v : Value} (h : Cp w wr N R k) (hk : k < 128) (hb : Below G wr wi) (hG : G = wr.heap.size) (hv : StrRow wi v (R k)) :
    Cp w (wi.setCell ⟨N, k, none⟩ v) N R (k + 1) := by
  have hNG : N < G := by rw [hG]; exact h.lt
  have hcN : ∀ c, wi.cell? ⟨N, c, none⟩ = wr.cell? ⟨N, c, none⟩ := fun c => hb.cell (p := ⟨N, c, none⟩) hNG
  obtain ⟨u, hu, _, hu3⟩ := h.top k hk
  rw [hu3 (Nat.le_refl _)] at hu
  have hold : wi.cell? ⟨N, k, none⟩ = some (.slice none 0 0) := (hcN k).trans hu
  have strs : ∀ a x, wi.cell? a = some (.string x) → (wi.setCell ⟨N, k, none⟩ v).cell? a = some (.string x) := fun a x hx => by
    rw [World.cell?_setCell_other _ _ _ _ (fun e => by rw [← e, hold] at hx; cases hx)]; exact hx
  refine ⟨((h.below.trans (hb.mono (Nat.le_of_lt hNG))).setCell (Nat.le_refl _) _), fun c hc => ?_, fun c => ?_, ?_⟩
  · by_cases e : c = k
    · subst e
      exact ⟨v, World.cell?_setCell_same _ _ _ hold, fun _ => hv.strs strs, fun hle => absurd hle (by omega)⟩
    · obtain ⟨y, y1, y2, y3⟩ := h.top c hc
      refine ⟨y, ?_, fun hlt => ((y2 (by omega)).below hb (by rw [hG]; exact Nat.le_refl _)).strs strs, fun hle => y3 (by omega)⟩
      rw [World.cell?_setCell_other _ _ _ _ (fun e' => by injection e' with e1 e2; exact e e2.symm), hcN c]; exact y1
  · rw [World.frozen?_setCell, hb.frozen (p := ⟨N, c, none⟩) hNG]; exact h.free c
  · simp [World.setCell]; have := hb.size; have := h.lt; omega

/-- The new row's block, m strings laid. -/
structure Fr (wr wi : World) (G : Nat) (l : List ByteArray) (m : Nat) : Prop where
  below : Below G wr wi
  row : wi.rowIs G 9 l.length (fun i => if i < m then .string (l.getD i ByteArray.empty) else .string ⟨#[]⟩)

theorem Fr.start (wr : World) (l : List ByteArray) : Fr wr (wr.alloc (.cells (madeCells #[.string ⟨#[]⟩] l.length) 9)) wr.heap.size l 0 :=
  ⟨(Below.refl _ _).alloc (Nat.le_refl _) _, (World.rowIs_made wr _ _ 9).congr (fun i _ => by simp)⟩

theorem Fr.step {wr wi : World} {G : Nat} {l : List ByteArray} {m : Nat} (h : Fr wr wi G l m) (s : ByteArray) (hs : s = l.getD m ByteArray.empty) : Fr wr (wi.setCell ⟨G, m, none⟩ (.string s)) G l (m + 1) :=
  ⟨h.below.setCell (Nat.le_refl _) _, (h.row.set m _).congr (fun i _ => by
    by_cases e : i = m
    · subst e; simp [hs]
    · rw [if_neg e]
      by_cases e2 : i < m
      · rw [if_pos e2, if_pos (by omega)]
      · rw [if_neg e2, if_neg (by omega)])⟩

theorem Fr.done {wr wi : World} {G : Nat} {l : List ByteArray} (h : Fr wr wi G l l.length) (hl : l.length ≤ 9223372036854775807) : StrRow wi (.slice (some ⟨G, 0, none⟩) l.length l.length) l :=
  ⟨hl, .inr ⟨G, 0, l.length, rfl, fun i hi => by rw [Nat.zero_add, h.row.cell hi, if_pos hi]⟩⟩

set_option maxHeartbeats 1600000 in
set_option maxRecDepth 100000 in
theorem copy_any (T : Nat) (R : Nat → List ByteArray) (w : World) (ht : Tab w T R) (hlen : ∀ c, c < 128 → (R c).length ≤ 65536) :
    Calls Try.prog 10 #[.pointer (some ⟨T, 0, none⟩)] w fun e w' => e = .returned (.pointer (some ⟨w.heap.size, 0, none⟩)) ∧ Tab w' w.heap.size R ∧ Below w.heap.size w w' := by
  have hz := zero23
  have C0 := Cp.start w zeros R zeros_at
  go_enter Try.func10, Try.ntmps10
  go_wp2
  generalize w.alloc (.cells zeros 23) = w1 at C0 ⊢
  clear hz
  generalize hNN : w.heap.size = N at C0 ⊢
  have HN : Hid (w.heap.size = N) := hNN
  clear hNN
  go_loopg [4] 128 (fun g c wr => ∃ k : Nat, k + g = 128 ∧ c = .int .i64 k ∧ Cp w wr N R k)
  case atStart => exact ⟨0, by omega, rfl, C0⟩
  case round =>
    obtain ⟨wo, rfl⟩ : ∃ wo : World, wo = wr := ⟨_, rfl⟩
    obtain ⟨k, hk, rfl, hC⟩ := hrel
    have HK : Hid (k + gk = 128) := hk
    have hk1 : k ≤ 128 := by omega
    clear hk C0
    by_cases hlt : k < 128
    · obtain ⟨v, hv, hl, hrow⟩ := (ht.below (hC.below.mono (Nat.le_of_eq HN.out)) (Nat.le_refl _)) k hlt
      have hl2 := hlen k hlt
      obtain ⟨u, hu, _, hu3⟩ := hC.top k hlt
      rw [hu3 (Nat.le_refl _)] at hu
      have hfr := hC.free k
      have hNlt := hC.lt
      generalize hRl : R k = l at *
      have HR : Hid (R k = l) := hRl
      clear hRl ht hlen hu3
      have hmk := run_make_row' (P := Try.prog) 22 9 (.string ⟨#[]⟩) 16 Try.underlying22 Try.info9 rfl .i64 .i64 l.length (by omega) (by omega)
      have hnil := fun (wx : World) (a : Option Addr) (n c : Nat) => Lib.run_eql_slice_nil (P := Try.prog) wx 22 9 a n c 0 0 Try.underlying22
      rcases hrow with ⟨rfl, a, c, rfl⟩ | ⟨b, off, c, rfl, hc⟩
      · rcases a with _ | x
        · go_wp2
          go_roundg (128 - (k + 1))
          case measure => have := HK.out; omega
          case rel => exact ⟨k + 1, by omega, by go_num, hC.skip HR.out⟩
        · have FS := Fr.start wo []
          have FD := FS.done (by simp)
          have hu' := (FS.below.cell (p := ⟨N, k, none⟩) hNlt).trans hu
          have hfr' := (FS.below.frozen (p := ⟨N, k, none⟩) hNlt).trans hfr
          have C1 := hC.store hlt FS.below rfl (by rw [HR.out]; exact FD)
          simp only [List.length_nil, Int.natCast_zero] at hmk hu' hfr' C1
          clear FS FD hu hfr hl hl2
          go_wp2
          generalize wo.alloc (.cells (madeCells #[.string ⟨#[]⟩] 0) 9) = w2 at hu' hfr' C1 ⊢
          have C1' : Hid (Cp w (w2.setCell ⟨N, k, none⟩ (.slice (some ⟨wo.heap.size, 0, none⟩) 0 0)) N R (k + 1)) := C1
          clear C1 hmk hnil
          refine wp_loop_rounds 1 ?_
          rw [rounds_succ]
          go_wp2
          go_roundg (128 - (k + 1))
          case measure => have := HK.out; omega
          case rel => exact ⟨k + 1, by omega, by go_num, C1'.out⟩
      · have FS := Fr.start wo l
        go_wp2
        generalize wo.alloc (.cells (madeCells #[.string ⟨#[]⟩] l.length) 9) = w2 at FS ⊢
        generalize hGG : wo.heap.size = G at FS ⊢
        have HG : Hid (G = wo.heap.size) := hGG.symm
        clear hGG hmk hnil
        go_loopg [7] l.length (fun g i wr => ∃ m : Nat, m + g = l.length ∧ i = .int .i64 m ∧ Fr wo wr G l m)
        case atStart => exact ⟨0, by omega, rfl, FS⟩
        case round =>
          obtain ⟨m, hm, rfl, hF⟩ := hrel
          have HM : Hid (m + gk = l.length) := hm
          have hm1 : m ≤ l.length := by omega
          clear hm FS
          have hNG : N < G := by rw [HG.out]; exact hNlt
          by_cases hml : m < l.length
          · have hcell := hc m hml
            have hbG : b < G := by rw [HG.out]; exact World.block_lt_of_cell? wo _ hcell
            replace hcell := (hF.below.cell (p := ⟨b, off + m, none⟩) hbG).trans hcell
            obtain ⟨y, hy⟩ : ∃ y, y = l.getD m ByteArray.empty := ⟨_, rfl⟩
            rw [← hy] at hcell
            have hto := hF.row.cell hml
            rw [if_neg (Nat.lt_irrefl _)] at hto
            have htf := hF.row.frozen m
            have FN : Hid (Fr wo (wr.setCell ⟨G, m, none⟩ (.string y)) G l (m + 1)) := hF.step y hy
            clear hy hc hF hu hfr
            go_wp2
            go_roundg (l.length - (m + 1))
            case measure => have := HM.out; omega
            case rel => exact ⟨m + 1, by omega, by go_num, FN.out⟩
          · obtain rfl : m = l.length := by omega
            have FD := hF.done hl
            have hu' := (hF.below.cell (p := ⟨N, k, none⟩) hNG).trans hu
            have hfr' := (hF.below.frozen (p := ⟨N, k, none⟩) hNG).trans hfr
            have C1' : Hid (Cp w (wr.setCell ⟨N, k, none⟩ (.slice (some ⟨G, 0, none⟩) l.length l.length)) N R (k + 1)) := hC.store hlt hF.below HG.out (by rw [HR.out]; exact FD)
            clear FD hu hfr hc hF
            go_wp2
            go_roundg (128 - (k + 1))
            case measure => have := HK.out; omega
            case rel => exact ⟨k + 1, by omega, by go_num, C1'.out⟩
    · obtain rfl : k = 128 := by omega
      clear ht hlen
      go_wp2
      go_ret
      refine ⟨by rw [HN.out]; rfl, ?_, ?_⟩
      · rw [HN.out]
        exact fun c hc => by obtain ⟨v, h1, h2, _⟩ := hC.top c hc; exact ⟨v, h1, h2 hc⟩
      · have := hC.below; rw [← HN.out] at this; exact this
end Go.Proofs.Qxb6605606a
