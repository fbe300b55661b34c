import Derived.Test.Qxb6617809aRows
import Derived.Test.Qxb6617809aKit
import Derived.Lib.SlicesS
namespace Go.Proofs.Qxb6617809a
open Go.RowKit

set_option maxHeartbeats 400000 in
theorem bytes10 (a : Option Addr) (b off n cap : Nat) (S : Nat → ByteArray) (i : Int) (w : World) (hn : n ≤ maxLen) (hs : Strs w a b off n S) :
    Calls Try.prog 10 #[.slice a n cap, .int .i64 i] w fun e w' => SomeBool e ∧ w = w' := by
  unfold maxLen at hn
  by_cases h20 : 1048576 < n
  · go_enter Try.func10, Try.ntmps10
    go_wp2
    go_ret
    exact ⟨SomeBool.mk _, rfl⟩
  go_enter Try.func10, Try.ntmps10
  go_wp2
  go_loop [5, 6] (fun z i => ∃ (t : Int) (k : Nat), k ≤ n ∧ 0 ≤ t ∧ t ≤ 1048576 ∧ z = .int .i64 t ∧ i = .int .i64 k) (fun _ i => n - (intOf i).toNat)
  case atStart => exact ⟨_, 0, Nat.zero_le _, by omega, by omega, rfl, rfl⟩
  case round =>
    obtain ⟨t, k, hk, ht0, ht, rfl, rfl⟩ := hrel
    by_cases hlt : k < n
    · have hcx := hs.cell k hlt
      have hsx := hs.size k hlt
      unfold maxLen at hsx
      obtain rfl := hs.addr (by omega)
      go_wp2
      · go_ret
        exact ⟨SomeBool.mk _, rfl⟩
      · go_ret
        exact ⟨SomeBool.mk _, rfl⟩
      · go_round
        case rel => exact ⟨_, k + 1, by omega, by omega, by omega, rfl, by go_num⟩
        case measure => simp [intOf]; omega
    · go_wp2
      go_ret
      exact ⟨SomeBool.mk _, rfl⟩

set_option maxHeartbeats 400000 in
theorem bytes7 (a : Option Addr) (b off n cap : Nat) (S : Nat → ByteArray) (w : World) (hn : n ≤ maxLen) (hs : Strs w a b off n S) :
    Calls Try.prog 7 #[.slice a n cap] w fun e w' => SomeBool e ∧ w = w' := by
  unfold maxLen at hn
  by_cases h20 : 1048576 < n
  · go_enter Try.func7, Try.ntmps7
    go_wp2
    go_ret
    exact ⟨SomeBool.mk _, rfl⟩
  go_enter Try.func7, Try.ntmps7
  go_wp2
  go_loop [3, 4] (fun z i => ∃ (t : Int) (k : Nat), k ≤ n ∧ 0 ≤ t ∧ t ≤ 1048576 ∧ z = .int .i64 t ∧ i = .int .i64 k) (fun _ i => n - (intOf i).toNat)
  case atStart => exact ⟨_, 0, Nat.zero_le _, by omega, by omega, rfl, rfl⟩
  case round =>
    obtain ⟨t, k, hk, ht0, ht, rfl, rfl⟩ := hrel
    by_cases hlt : k < n
    · have hcx := hs.cell k hlt
      have hsx := hs.size k hlt
      unfold maxLen at hsx
      obtain rfl := hs.addr (by omega)
      go_wp2
      · go_ret
        exact ⟨SomeBool.mk _, rfl⟩
      · go_ret
        exact ⟨SomeBool.mk _, rfl⟩
      · go_round
        case rel => exact ⟨_, k + 1, by omega, by omega, by omega, rfl, by go_num⟩
        case measure => simp [intOf]; omega
    · go_wp2
      go_ret
      exact ⟨SomeBool.mk _, rfl⟩

/-- two places hold x -/
def Twice (S : Nat → ByteArray) (n : Nat) (x : ByteArray) : Prop := ∃ j k, j < k ∧ k < n ∧ S j = x ∧ S k = x

/-- what countID has counted behind k rounds: c is 0 or 1, and tells how many of the first k are x -/
def Counted (S : Nat → ByteArray) (x : ByteArray) (k : Nat) (c : Int) : Prop :=
  (c = 0 ∧ ∀ j, j < k → S j ≠ x) ∨ (c = 1 ∧ ∃ m, m < k ∧ S m = x ∧ ∀ j, j < k → S j = x → j = m)

theorem Counted.zero (S : Nat → ByteArray) (x : ByteArray) : Counted S x 0 0 := .inl ⟨rfl, fun j hj => absurd hj (by omega)⟩
theorem Counted.range {S : Nat → ByteArray} {x : ByteArray} {k : Nat} {c : Int} (h : Counted S x k c) : 0 ≤ c ∧ c ≤ 1 := by
  rcases h with ⟨rfl, _⟩ | ⟨rfl, _⟩ <;> omega
theorem Counted.miss {S : Nat → ByteArray} {x : ByteArray} {k : Nat} {c : Int} (h : Counted S x k c) (hx : (S k).toList ≠ x.toList) : Counted S x (k + 1) c := by
  have hne : S k ≠ x := fun e => hx (by rw [e])
  rcases h with ⟨rfl, h⟩ | ⟨rfl, m, hm, e, h⟩
  · refine .inl ⟨rfl, fun j hj => ?_⟩
    rcases Nat.lt_or_ge j k with h' | h'
    · exact h j h'
    · obtain rfl : j = k := by omega
      exact hne
  · refine .inr ⟨rfl, m, by omega, e, fun j hj ej => ?_⟩
    rcases Nat.lt_or_ge j k with h' | h'
    · exact h j h' ej
    · obtain rfl : j = k := by omega
      exact absurd ej hne
theorem Counted.hit {S : Nat → ByteArray} {x : ByteArray} {k : Nat} {c : Int} (h : Counted S x k c) (hx : S k = x) (hc : c + 1 < 2) : Counted S x (k + 1) (c + 1) := by
  rcases h with ⟨rfl, h⟩ | ⟨rfl, m, hm, e, h⟩
  · refine .inr ⟨rfl, k, by omega, hx, fun j hj ej => ?_⟩
    rcases Nat.lt_or_ge j k with h' | h'
    · exact absurd ej (h j h')
    · omega
  · omega
theorem Counted.not_twice {S : Nat → ByteArray} {x : ByteArray} {n : Nat} {c : Int} (h : Counted S x n c) : ¬ Twice S n x := by
  rintro ⟨j, k, hjk, hk, ej, ek⟩
  rcases h with ⟨rfl, h⟩ | ⟨rfl, m, hm, e, h⟩
  · exact h j (by omega) ej
  · have := h j (by omega) ej; have := h k hk ek; omega

/-- The count: at least two where two places hold x. -/
def CountEnd (S : Nat → ByteArray) (n : Nat) (x : ByteArray) (e : Ending) : Prop := ∃ c : Int, e = .returned (.int .i64 c) ∧ (Twice S n x → 2 ≤ c)

set_option maxHeartbeats 400000 in
theorem count11 (a : Option Addr) (b off n cap : Nat) (S : Nat → ByteArray) (x : ByteArray) (w : World) (hn : n ≤ maxLen) (hs : Strs w a b off n S) :
    Calls Try.prog 11 #[.slice a n cap, .string x] w fun e w' => CountEnd S n x e ∧ w = w' := by
  unfold maxLen at hn
  go_enter Try.func11, Try.ntmps11
  go_wp2
  go_loop [5, 10] (fun z i => ∃ (c : Int) (k : Nat), k ≤ n ∧ Counted S x k c ∧ z = .int .i64 c ∧ i = .int .i64 k) (fun _ i => n - (intOf i).toNat)
  case atStart => exact ⟨_, 0, Nat.zero_le _, Counted.zero S x, rfl, rfl⟩
  case round =>
    obtain ⟨c, k, hk, hcnt, rfl, rfl⟩ := hrel
    have hcr := hcnt.range
    by_cases hlt : k < n
    · have hcx := hs.cell k hlt
      obtain rfl := hs.addr (by omega)
      by_cases heq : S k = x
      · have hb : ((S k).toList == x.toList) = true := by rw [heq]; simp
        have HE : Hid (S k = x) := heq
        clear heq
        by_cases hc2 : 2 ≤ c + 1
        · go_wp2
          go_ret
          exact ⟨⟨_, rfl, fun _ => by omega⟩, rfl⟩
        · go_wp2
          go_round
          case rel => exact ⟨_, k + 1, by omega, hcnt.hit HE.out (by omega), rfl, by go_num⟩
          case measure => simp [intOf]; omega
      · have hb : ((S k).toList == x.toList) = false := (Lib.bytes_beq_false_iff _ _).2 heq
        have HE : Hid (S k ≠ x) := heq
        clear heq
        go_wp2
        go_round
        case rel => exact ⟨_, k + 1, by omega, hcnt.miss (by simpa using hb), rfl, by go_num⟩
        case measure => simp [intOf]; omega
    · have : k = n := by omega
      subst this
      go_wp2
      go_ret
      exact ⟨⟨_, rfl, fun h => absurd h hcnt.not_twice⟩, rfl⟩
end Go.Proofs.Qxb6617809a
