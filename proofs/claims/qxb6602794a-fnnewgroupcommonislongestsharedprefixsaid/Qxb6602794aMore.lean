/- A list of lists with one list more: what the worlds say of it. -/
import Derived.Test.Qxb6602794aClone
import Derived.Test.Qxb6602794aPlain
namespace Go.Proofs.Qxb6602794a
open Go.RowKit

theorem sat_below {w w' : World} {a : Option Addr} {n : Nat} {S : Nat → ByteArray} (h : SAt w a n S) (hb : Below w.heap.size w w') : SAt w' a n S := by
  obtain ⟨b, o, ha, hc⟩ := h
  exact ⟨b, o, ha, fun j hj => by rw [hb.cell (p := ⟨b, o + j, none⟩) (World.block_lt_of_cell? _ _ (hc j hj))]; exact hc j hj⟩

theorem tat_below {w w' : World} {a : Option Addr} {n : Nat} {A : Nat → Option Addr} {L C : Nat → Nat} {S : Nat → Nat → ByteArray} (h : TAt w a n A L C S) (hb : Below w.heap.size w w') : TAt w' a n A L C S := by
  obtain ⟨⟨b, o, ha, hc⟩, hs⟩ := h
  exact ⟨⟨b, o, ha, fun j hj => by rw [hb.cell (p := ⟨b, o + j, none⟩) (World.block_lt_of_cell? _ _ (hc j hj))]; exact hc j hj⟩, fun i hi => sat_below (hs i hi) hb⟩

theorem sat_of_post {n : Nat} {S : Nat → ByteArray} {w w' : World} {a' : Option Addr} (h : 0 < n → a' = some ⟨w.heap.size, 0, none⟩ ∧ w'.rowIs w.heap.size 9 n (fun i => .string (S i))) : SAt w' a' n S :=
  ⟨w.heap.size, 0, fun h0 => (h h0).1, fun j hj => by rw [Nat.zero_add]; exact (h (by omega)).2.cell hj⟩

structure More (w wr : World) (n k : Nat) (A : Nat → Option Addr) (L C : Nat → Nat) : Prop where
  below : Below w.heap.size w wr
  row : wr.rowIs w.heap.size 29 (n + 1) (rowT A L C k)

theorem more_start (w : World) (n : Nat) (A : Nat → Option Addr) (L C : Nat → Nat) : More w (w.alloc (.cells (madeCells #[.slice none 0 0] (n + 1)) 29)) n 0 A L C :=
  ⟨(Below.refl _ _).alloc (Nat.le_refl _) _, (World.rowIs_made w _ (n + 1) 29).congr (fun j _ => by simp [rowT])⟩

theorem more_step {w wr : World} {n k : Nat} {A : Nat → Option Addr} {L C : Nat → Nat} (h : More w wr n k A L C) : More w (wr.setCell ⟨w.heap.size, k, none⟩ (.slice (A k) (L k) (C k))) n (k + 1) A L C :=
  ⟨h.below.setCell (Nat.le_refl _) _, (h.row.set k _).congr (fun j _ => by
    simp only [rowT]
    by_cases e : j = k
    · subst e; simp
    · rw [if_neg e]
      by_cases hlt : j < k
      · rw [if_pos hlt, if_pos (by omega)]
      · rw [if_neg hlt, if_neg (by omega)])⟩

/-- The list with its last place filled. -/
structure Full (w wr : World) (n : Nat) (A : Nat → Option Addr) (L C : Nat → Nat) (xa : Option Addr) (xn xc : Nat) : Prop where
  below : Below w.heap.size w wr
  row : wr.rowIs w.heap.size 29 (n + 1) (fun i => .slice (ext n A xa i) (ext n L xn i) (ext n C xc i))

theorem full_of_more {w wr : World} {n : Nat} {A : Nat → Option Addr} {L C : Nat → Nat} (h : More w wr n n A L C) (xa : Option Addr) (xn xc : Nat) : Full w (wr.setCell ⟨w.heap.size, n, none⟩ (.slice xa xn xc)) n A L C xa xn xc :=
  ⟨h.below.setCell (Nat.le_refl _) _, (h.row.set n _).congr (fun j hj => by
    by_cases e : j = n
    · subst e; simp only [if_true, ext_at]
    · have hlt : j < n := by omega
      simp only [if_neg e, rowT, if_pos hlt, ext_lt hlt])⟩

theorem full_later {w wr w1 : World} {n : Nat} {A : Nat → Option Addr} {L C : Nat → Nat} {xa : Option Addr} {xn xc : Nat} (h : Full w wr n A L C xa xn xc) (hb : Below wr.heap.size wr w1) : Full w w1 n A L C xa xn xc :=
  ⟨h.below.trans (hb.mono h.below.size), h.row.of_block (hb.block _ h.row.lt)⟩

theorem full_drew {w wr : World} {n : Nat} {A : Nat → Option Addr} {L C : Nat → Nat} {xa : Option Addr} {xn xc : Nat} (h : Full w wr n A L C xa xn xc) (q : Nat) : Full w (wr.drewN q) n A L C xa xn xc :=
  ⟨below_drewN h.below q, h.row⟩

theorem full_again {w wr : World} {n : Nat} {A : Nat → Option Addr} {L C : Nat → Nat} {xa : Option Addr} {xn xc : Nat} (h : Full w wr n A L C xa xn xc) (ya : Option Addr) (yn yc : Nat) :
    Full w (wr.setCell ⟨w.heap.size, n, none⟩ (.slice ya yn yc)) n A L C ya yn yc :=
  ⟨h.below.setCell (Nat.le_refl _) _, (h.row.set n _).congr (fun j hj => by
    by_cases e : j = n
    · subst e; simp only [if_true, ext_at]
    · have hlt : j < n := by omega
      simp only [if_neg e, ext_lt hlt])⟩

theorem full_tat {w wr : World} {n : Nat} {A : Nat → Option Addr} {L C : Nat → Nat} {xa : Option Addr} {xn xc : Nat} {S : Nat → Nat → ByteArray} {X : Nat → ByteArray} (h : Full w wr n A L C xa xn xc)
    (hs : ∀ i, i < n → SAt w (A i) (L i) (S i)) (hx : SAt w xa xn X) : TAt wr (some ⟨w.heap.size, 0, none⟩) (n + 1) (ext n A xa) (ext n L xn) (ext n C xc) (ext n S X) :=
  ⟨⟨w.heap.size, 0, fun _ => rfl, fun i hi => by rw [Nat.zero_add]; exact h.row.cell hi⟩, fun i hi => by
    by_cases e : i = n
    · subst e; rw [ext_at, ext_at, ext_at]; exact sat_below hx h.below
    · rw [ext_lt (by omega), ext_lt (by omega), ext_lt (by omega)]; exact sat_below (hs i (by omega)) h.below⟩

theorem ext_le {n : Nat} {L : Nat → Nat} {xn m : Nat} (hL : ∀ i, i < n → L i ≤ m) (hx : xn ≤ m) : ∀ i, i < n + 1 → ext n L xn i ≤ m := fun i hi => by
  by_cases e : i = n
  · subst e; rw [ext_at]; exact hx
  · rw [ext_lt (by omega)]; exact hL i (by omega)
end Go.Proofs.Qxb6602794a
