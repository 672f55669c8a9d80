import Derived.Test.Qxb6601478aRows
import Derived.Test.Qxb6601478aPlain
import Derived.Test.Qxb6601478aShelf
import Derived.WalkKit
import Derived.WalkLawsBesides
import Derived.Lib.SliceRun
import Derived.Deep.OwnRows
import Derived.Outline
/-
  WALKS of zzClone and of what is small on the road.
-/
namespace Go.Proofs.Qxb6601478a.Js
open Go.RowKit

/-- The cells from (b, o) on hold the text L. -/
def Txt (w : World) (b o : Nat) (L : List UInt8) : Prop := ∀ (i : Nat) (c : UInt8), L[i]? = some c → w.cell? ⟨b, o + i, none⟩ = some (.int .u8 (c.toNat : Int))

/-- A block of the call's own that holds the text L. -/
def Own (w : World) (g : Nat) (L : List UInt8) : Prop := w.rowIs g 5 L.length (fun i => .int .u8 ((L.getD i 0).toNat : Int))

theorem Own.txt {w : World} {g : Nat} {L : List UInt8} (h : Own w g L) : Txt w g 0 L := by
  intro i c hc
  have hi := lt_of_at hc
  rw [Nat.zero_add, World.rowIs.cell h hi]
  simp [List.getD, hc]
theorem Own.keep {w w' : World} {g B : Nat} {L : List UInt8} (h : Own w g L) (hb : Below B w w') (hg : g < B) : Own w' g L := World.rowIs.of_block h (hb.block g hg)
theorem Txt.keep {w w' : World} {b o B : Nat} {L : List UInt8} (h : Txt w b o L) (hb : Below B w w') (hg : b < B) : Txt w' b o L := fun i c hc => by
  rw [hb.cell (p := ⟨b, o + i, none⟩) hg]; exact h i c hc
theorem Txt.drop {w : World} {b o : Nat} {L : List UInt8} (h : Txt w b o L) (k : Nat) : Txt w b (o + k) (L.drop k) := fun i c hc => by
  rw [List.getElem?_drop] at hc
  rw [Nat.add_assoc]; exact h _ _ hc
theorem Txt.take {w : World} {b o : Nat} {L : List UInt8} (h : Txt w b o L) (k : Nat) : Txt w b o (L.take k) := fun i c hc => by
  by_cases hi : i < k
  · rw [List.getElem?_take_of_lt hi] at hc; exact h _ _ hc
  · rw [List.getElem?_take_eq_none (by omega)] at hc; cases hc

theorem info5 : (Try.prog.info? 5).map (fun i => (i.zero, i.size, i.bytes)) = some (some (.int .u8 0), 1, 1) := by kernel_rfl

/-- zzClone at nil. -/
theorem clone_nil (w : World) : Calls Try.prog 11 #[.slice none 0 0] w fun e w' => e = .returned (.slice none 0 0) ∧ w' = w := by
  have he := fun wx => Lib.run_eql_slice_nil (P := Try.prog) wx 24 5 none 0 0 0 0 Try.underlying24
  go_enter Try.func11, Try.ntmps11
  go_wp2
  go_ret
  exact ⟨rfl, rfl⟩

/-- What holds of the copy behind k rounds. -/
structure Part (w wr : World) (L : List UInt8) (k : Nat) : Prop where
  row : wr.rowIs w.heap.size 5 L.length (fun i => if i < k then .int .u8 ((L.getD i 0).toNat : Int) else .int .u8 0)
  bel : Below w.heap.size w wr
theorem Part.start (w : World) (L : List UInt8) : Part w (w.alloc (.cells (madeCells #[.int .u8 0] L.length) 5)) L 0 :=
  ⟨World.rowIs.congr (World.rowIs_made w (.int .u8 0) L.length 5) (fun i _ => by simp), (Below.refl _ _).alloc (Nat.le_refl _) _⟩
theorem Part.next {w wr : World} {L : List UInt8} {k : Nat} {c : UInt8} (h : Part w wr L k) (hc : L[k]? = some c) : Part w (wr.setCell ⟨w.heap.size, k, none⟩ (.int .u8 (c.toNat : Int))) L (k + 1) :=
  ⟨World.rowIs.congr (h.row.set k _) (fun i _ => by
    by_cases e : i = k
    · subst e; simp [List.getD, hc]
    · by_cases h2 : i < k
      · rw [if_neg e, if_pos h2, if_pos (by omega)]
      · rw [if_neg e, if_neg h2, if_neg (by omega)]), h.bel.setCell (Nat.le_refl _) _⟩
theorem Part.own {w wr : World} {L : List UInt8} {k : Nat} (h : Part w wr L k) (hk : L.length ≤ k) : Own wr w.heap.size L :=
  World.rowIs.congr h.row (fun i hi => by rw [if_pos (by omega)])
theorem Part.old {w wr : World} {L : List UInt8} {k : Nat} (h : Part w wr L k) (hk : k < L.length) : wr.cell? ⟨w.heap.size, k, none⟩ = some (.int .u8 0) := by
  rw [h.row.cell hk, if_neg (by omega)]

set_option maxHeartbeats 1000000 in
/-- zzClone at whatever is not nil. -/
theorem clone_any (x : Addr) (cap : Nat) (L : List UInt8) (w : World) (hL : L.length ≤ 1048576) (hx : 0 < L.length → ∃ b off, x = ⟨b, off, none⟩ ∧ b < w.heap.size ∧ Txt w b off L) :
    Calls Try.prog 11 #[.slice (some x) L.length cap] w fun e w' => e = .returned (.slice (some ⟨w.heap.size, 0, none⟩) L.length L.length) ∧ Own w' w.heap.size L ∧ Below w.heap.size w w' := by
  have he := fun wx => Lib.run_eql_slice_nil (P := Try.prog) wx 24 5 (some x) L.length cap 0 0 Try.underlying24
  have hm := fun wx => run_make_row' (P := Try.prog) 24 5 (.int .u8 0) 1 Try.underlying24 info5 rfl .i64 .i64 L.length (by omega) (by omega) wx
  have hp := Part.start w L
  go_enter Try.func11, Try.ntmps11
  go_wp2
  go_loopw [4] (fun kv wr => ∃ k : Nat, k ≤ L.length ∧ kv = .int .i64 k ∧ Part w wr L k) (fun kv _ => L.length - (intOf kv).toNat)
  case atStart => exact ⟨0, Nat.zero_le _, rfl, hp⟩
  case round =>
    clear he hm hp
    obtain ⟨k, hk, rfl, hp⟩ := hrel
    by_cases hlt : k < L.length
    · obtain ⟨b, off, rfl, hb, ht⟩ := hx (by omega)
      obtain ⟨c, hc⟩ : ∃ c, L[k]? = some c := ⟨L[k], List.getElem?_eq_getElem hlt⟩
      have hcell : wr.cell? ⟨b, off + k, none⟩ = some (.int .u8 (c.toNat : Int)) := by rw [hp.bel.cell (p := ⟨b, off + k, none⟩) hb]; exact ht k c hc
      have hold := hp.old hlt
      have hfr := hp.row.frozen k
      have hn := hp.next hc
      have Hc : Hid (L[k]? = some c) := hc
      clear hc hx ht
      go_wp2
      go_roundw
      case rel => exact ⟨k + 1, by omega, by go_num, hn⟩
      case measure => simp [intOf]; omega
    · go_wp2
      go_ret
      exact ⟨rfl, hp.own (by omega), hp.bel⟩
end Go.Proofs.Qxb6601478a.Js
