/- The two functions that hold the arguments' sizes against 1<<20: what a 'true' of theirs tells. -/
import Derived.Test.Qxb6602794aBase
namespace Go.Proofs.Qxb6602794a
open Go.RowKit

/-- It answers some bool; where that is true no length is above 1<<20; nothing is written. (A name of its own: the walk does not look behind it.) -/
def ZzPost (s : ByteArray) (n : Nat) (L : Nat → Nat) (en : Nat) (w : World) (e : Ending) (w' : World) : Prop :=
  ∃ β : Bool, e = .returned (.bool β) ∧ (β = true → s.size ≤ 1048576 ∧ n ≤ 1048576 ∧ (∀ i, i < n → L i ≤ 1048576) ∧ en ≤ 1048576) ∧ w' = w

theorem zz_no {s : ByteArray} {n : Nat} {L : Nat → Nat} {en : Nat} {w : World} {e : Ending} {w' : World} (he : e = .returned (.bool false)) (hw : w' = w) : ZzPost s n L en w e w' := ⟨false, he, by simp, hw⟩
theorem zz_yes {s : ByteArray} {n : Nat} {L : Nat → Nat} {en : Nat} {w : World} {e : Ending} {w' : World} (he : e = .returned (.bool true)) (h1 : s.size ≤ 1048576) (h2 : n ≤ 1048576) (h3 : ∀ i, i < n → L i ≤ 1048576) (h4 : en ≤ 1048576) (hw : w' = w) :
    ZzPost s n L en w e w' := ⟨true, he, fun _ => ⟨h1, h2, h3, h4⟩, hw⟩

set_option maxHeartbeats 1000000 in
theorem zz_longest (s : ByteArray) (a : Option Addr) (n c : Nat) (mt : Bool) (A : Nat → Option Addr) (L C : Nat → Nat) (S : Nat → Nat → ByteArray) (w : World) (hb : s.size ≤ maxLen) (hn : n ≤ maxLen) (hL : ∀ i, i < n → L i ≤ maxLen)
    (hS : ∀ i, i < n → ∀ j, j < L i → (S i j).size ≤ maxLen) (h : TAt w a n A L C S) :
    Calls Try.prog 6 #[.string s, .slice a n c, .bool mt] w fun e w' => ZzPost s n L 0 w e w' := by
  obtain ⟨⟨b, o, ha, hc⟩, hs⟩ := h
  unfold maxLen at hn hb hL hS
  go_enter Try.func6, Try.ntmps6
  go_wp2
  · go_ret
    exact zz_no rfl rfl
  · go_ret
    exact zz_no rfl rfl
  · go_ret
    exact zz_no rfl rfl
  · have hs1 : (s.size : Int) ≤ 1048576 := by assumption
    have hn1 : (n : Int) ≤ 1048576 := by assumption
    have hsn : (s.size : Int) + n ≤ 1048576 := by assumption
    go_loopg [7, 8] n (fun g z i wr => wr = w ∧ ∃ (k : Nat) (m : Int), g = n - k ∧ k ≤ n ∧ i = .int .i64 k ∧ z = .int .i64 m ∧ 0 ≤ m ∧ m ≤ 1048576 ∧ Hid (∀ i, i < k → L i ≤ 1048576))
    case atStart => exact ⟨rfl, 0, _, rfl, Nat.zero_le _, rfl, rfl, by omega, by omega, fun i hi => absurd hi (Nat.not_lt_zero _)⟩
    case round =>
      obtain ⟨rfl, k, m, rfl, hk, rfl, rfl, hm0, hm1, hH⟩ := hrel
      by_cases hlt : k < n
      · obtain rfl := ha (by omega)
        have hz : (k : Int) < n := by omega
        have hck := hc k hlt
        have hLk := hL k hlt
        obtain ⟨b', o', ha', hc'⟩ := hs k hlt
        have hSk := hS k hlt
        clear hc hS ha hs hL
        go_wp2
        · go_ret
          exact zz_no rfl rfl
        · go_ret
          exact zz_no rfl rfl
        · have hLk1 : (L k : Int) ≤ 1048576 := by assumption
          go_loopg [7, 9] (L k) (fun g z i wx => wx = wr ∧ ∃ (j : Nat) (m : Int), g = L k - j ∧ j ≤ L k ∧ i = .int .i64 j ∧ z = .int .i64 m ∧ 0 ≤ m ∧ m ≤ 1048576)
          case atStart => exact ⟨rfl, 0, _, rfl, Nat.zero_le _, rfl, rfl, by omega, by omega⟩
          case round =>
            obtain ⟨rfl, j, m2, rfl, hj, rfl, rfl, hm20, hm21⟩ := hrel
            by_cases hjl : j < L k
            · have hAk := ha' (by omega)
              have hjz : (j : Int) < L k := by omega
              have hcj := hc' j hjl
              have hsj := hSk j hjl
              clear ha' hc' hSk
              go_wp2
              · go_ret
                exact zz_no rfl rfl
              · go_ret
                exact zz_no rfl rfl
              · go_roundg (L k - (j + 1))
                case measure => omega
                case rel => exact ⟨rfl, j + 1, _, rfl, by omega, by go_num, rfl, by omega, by omega⟩
            · have hjz : ¬ (j : Int) < L k := by omega
              clear hSk ha' hc'
              go_wp2
              go_roundg (n - (k + 1))
              case measure => omega
              case rel => exact ⟨rfl, k + 1, _, rfl, by omega, by go_num, rfl, by omega, by omega, fun i hi => by rcases Nat.lt_succ_iff_lt_or_eq.1 hi with h | h; exact hH i h; subst h; omega⟩
      · have hz : ¬ (k : Int) < n := by omega
        clear hc hS ha hs hL
        go_wp2
        go_ret
        exact zz_yes rfl (by omega) (by omega) (fun i hi => hH i (by omega)) (by omega) rfl
set_option maxHeartbeats 1000000 in
theorem zz_another (s : ByteArray) (a : Option Addr) (n c : Nat) (ea : Option Addr) (en ec : Nat) (mt : Bool) (A : Nat → Option Addr) (L C : Nat → Nat) (S : Nat → Nat → ByteArray) (E : Nat → ByteArray) (w : World) (hb : s.size ≤ maxLen) (hn : n ≤ maxLen) (hL : ∀ i, i < n → L i ≤ maxLen)
    (hS : ∀ i, i < n → ∀ j, j < L i → (S i j).size ≤ maxLen) (h : TAt w a n A L C S) (hen : en ≤ maxLen) (hE : ∀ j, j < en → (E j).size ≤ maxLen) (hx : SAt w ea en E) :
    Calls Try.prog 12 #[.string s, .slice a n c, .slice ea en ec, .bool mt] w fun e w' => ZzPost s n L en w e w' := by
  obtain ⟨⟨b, o, ha, hc⟩, hs⟩ := h
  obtain ⟨eb, eo, hea, hec⟩ := hx
  unfold maxLen at hn hb hL hS hen hE
  go_enter Try.func12, Try.ntmps12
  go_wp2
  · go_ret
    exact zz_no rfl rfl
  · go_ret
    exact zz_no rfl rfl
  · go_ret
    exact zz_no rfl rfl
  · have hs1 : (s.size : Int) ≤ 1048576 := by assumption
    have hn1 : (n : Int) ≤ 1048576 := by assumption
    have hsn : (s.size : Int) + n ≤ 1048576 := by assumption
    go_loopg [9, 10] n (fun g z i wr => wr = w ∧ ∃ (k : Nat) (m : Int), g = n - k ∧ k ≤ n ∧ i = .int .i64 k ∧ z = .int .i64 m ∧ 0 ≤ m ∧ m ≤ 1048576 ∧ Hid (∀ i, i < k → L i ≤ 1048576))
    case atStart => exact ⟨rfl, 0, _, rfl, Nat.zero_le _, rfl, rfl, by omega, by omega, fun i hi => absurd hi (Nat.not_lt_zero _)⟩
    case round =>
      obtain ⟨rfl, k, m, rfl, hk, rfl, rfl, hm0, hm1, hH⟩ := hrel
      by_cases hlt : k < n
      · obtain rfl := ha (by omega)
        have hz : (k : Int) < n := by omega
        have hck := hc k hlt
        have hLk := hL k hlt
        obtain ⟨b', o', ha', hc'⟩ := hs k hlt
        have hSk := hS k hlt
        clear hc hS ha hs hL
        go_wp2
        · go_ret
          exact zz_no rfl rfl
        · go_ret
          exact zz_no rfl rfl
        · have hLk1 : (L k : Int) ≤ 1048576 := by assumption
          go_loopg [9, 11] (L k) (fun g z i wx => wx = wr ∧ ∃ (j : Nat) (m : Int), g = L k - j ∧ j ≤ L k ∧ i = .int .i64 j ∧ z = .int .i64 m ∧ 0 ≤ m ∧ m ≤ 1048576)
          case atStart => exact ⟨rfl, 0, _, rfl, Nat.zero_le _, rfl, rfl, by omega, by omega⟩
          case round =>
            obtain ⟨rfl, j, m2, rfl, hj, rfl, rfl, hm20, hm21⟩ := hrel
            by_cases hjl : j < L k
            · have hAk := ha' (by omega)
              have hjz : (j : Int) < L k := by omega
              have hcj := hc' j hjl
              have hsj := hSk j hjl
              clear ha' hc' hSk
              go_wp2
              · go_ret
                exact zz_no rfl rfl
              · go_ret
                exact zz_no rfl rfl
              · go_roundg (L k - (j + 1))
                case measure => omega
                case rel => exact ⟨rfl, j + 1, _, rfl, by omega, by go_num, rfl, by omega, by omega⟩
            · have hjz : ¬ (j : Int) < L k := by omega
              clear hSk ha' hc'
              go_wp2
              go_roundg (n - (k + 1))
              case measure => omega
              case rel => exact ⟨rfl, k + 1, _, rfl, by omega, by go_num, rfl, by omega, by omega, fun i hi => by rcases Nat.lt_succ_iff_lt_or_eq.1 hi with h | h; exact hH i h; subst h; omega⟩
      · have hz : ¬ (k : Int) < n := by omega
        have hall : Hid (∀ i, i < n → L i ≤ 1048576) := fun i hi => hH i (by omega)
        clear hc hS ha hs hL hH
        go_wp2
        · go_ret
          exact zz_no rfl rfl
        · go_ret
          exact zz_no rfl rfl
        · have hen1 : (en : Int) ≤ 1048576 := by assumption
          go_loopg [9, 12] en (fun g z i wx => wx = wr ∧ ∃ (j : Nat) (m : Int), g = en - j ∧ j ≤ en ∧ i = .int .i64 j ∧ z = .int .i64 m ∧ 0 ≤ m ∧ m ≤ 1048576)
          case atStart => exact ⟨rfl, 0, _, rfl, Nat.zero_le _, rfl, rfl, by omega, by omega⟩
          case round =>
            obtain ⟨rfl, j, m2, rfl, hj, rfl, rfl, hm20, hm21⟩ := hrel
            by_cases hjl : j < en
            · obtain rfl := hea (by omega)
              have hjz : (j : Int) < en := by omega
              have hcj := hec j hjl
              have hsj := hE j hjl
              clear hea hec hE
              go_wp2
              · go_ret
                exact zz_no rfl rfl
              · go_ret
                exact zz_no rfl rfl
              · go_roundg (en - (j + 1))
                case measure => omega
                case rel => exact ⟨rfl, j + 1, _, rfl, by omega, by go_num, rfl, by omega, by omega⟩
            · have hjz : ¬ (j : Int) < en := by omega
              clear hea hec hE
              go_wp2
              go_ret
              exact zz_yes rfl (by omega) (by omega) hall (by omega) rfl

end Go.Proofs.Qxb6602794a
