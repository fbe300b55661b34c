import Derived.Test.Qxb6617809aW1
import Derived.Test.Qxb6617809aPlain
import Derived.Maps.OwnSet
import Derived.SliceStrings
namespace Go.Proofs.Qxb6617809a
open Go.RowKit Go.Maps Go.WideMaps

/-- is x among the first n? -/
def inB (S : Nat → ByteArray) (n : Nat) (x : ByteArray) : Bool := (List.range n).any fun j => decide (S j = x)
theorem inB_iff (S : Nat → ByteArray) (n : Nat) (x : ByteArray) : inB S n x = true ↔ ∃ j, j < n ∧ S j = x := by simp [inB]
theorem inB_false (S : Nat → ByteArray) (n : Nat) (x : ByteArray) : inB S n x = false ↔ ∀ j, j < n → S j ≠ x := by simp [inB]

/-- slices.Index: a place, or -1 -/
def IdxEnd (S : Nat → ByteArray) (n : Nat) (x : ByteArray) (e : Ending) : Prop := ∃ c : Int, e = .returned (.int .i64 c) ∧ decide (0 ≤ c) = inB S n x

set_option maxHeartbeats 400000 in
theorem index26 (a : Option Addr) (b off n cap : Nat) (S : Nat → ByteArray) (x : ByteArray) (w : World) (hn : n ≤ maxLen) (hs : Strs w a b off n S) :
    Calls Try.prog 26 #[.slice a n cap, .string x] w fun e w' => IdxEnd S n x e ∧ w = w' := by
  unfold maxLen at hn
  go_enter Try.func26, Try.ntmps26
  go_wp2
  go_loop [8] (fun i => ∃ (k : Nat), k ≤ n ∧ Hid (∀ j, j < k → S j ≠ x) ∧ i = .int .i64 k) (fun i => n - (intOf i).toNat)
  case atStart => exact ⟨0, Nat.zero_le _, fun j hj => absurd hj (by omega), rfl⟩
  case round =>
    obtain ⟨k, hk, hno, rfl⟩ := hrel
    by_cases hlt : k < n
    · have hcx := hs.cell k hlt
      obtain rfl := hs.addr (by omega)
      by_cases heq : S k = x
      · have hb : (x.toList == (S k).toList) = true := by rw [heq]; simp
        have HE : Hid (S k = x) := heq
        clear heq
        go_wp2
        go_ret
        exact ⟨⟨_, rfl, by rw [(inB_iff _ _ _).2 ⟨k, hlt, HE.out⟩]; simp⟩, rfl⟩
      · have hb : (x.toList == (S k).toList) = false := (Lib.bytes_beq_false_iff _ _).2 (fun e => heq e.symm)
        have HE : Hid (S k ≠ x) := heq
        clear heq
        go_wp2
        go_round
        case rel =>
          refine ⟨k + 1, by omega, fun j hj => ?_, by go_num⟩
          rcases Nat.lt_or_ge j k with h | h
          · exact hno.out j h
          · obtain rfl : j = k := by omega
            exact HE.out
        case measure => simp [intOf]; omega
    · have : k = n := by omega
      subst this
      go_wp2
      go_ret
      exact ⟨⟨_, rfl, by rw [(inB_false _ _ _).2 hno.out]; simp⟩, rfl⟩

set_option maxHeartbeats 400000 in
theorem contains23 (a : Option Addr) (b off n cap : Nat) (S : Nat → ByteArray) (x : ByteArray) (w : World) (hn : n ≤ maxLen) (hs : Strs w a b off n S) :
    Calls Try.prog 23 #[.slice a n cap, .string x] w fun e w' => e = .returned (.bool (inB S n x)) ∧ w = w' := by
  go_enter Try.func23, Try.ntmps23
  go_wp2_with fail
  refine (index26 a b off n cap S x _ hn hs).mono ?_
  rintro e w' ⟨⟨c, rfl, hc⟩, rfl⟩
  have HC : Hid (decide (0 ≤ c) = inB S n x) := hc
  clear hc
  go_wp2
  go_ret
  exact ⟨by rw [← HC.out]; rfl, rfl⟩

/-- what 'repeated' hands back -/
def RepEnd (S : Nat → ByteArray) (n : Nat) (e : Ending) : Prop := ∃ x r, e = .returned (.tuple #[.string x, .bool r]) ∧ Plain.RepIs ByteArray.empty S n x r

theorem empty_str : (Value.string { data := #[] }) = .string ByteArray.empty := rfl

/-- the map holds just the first k strings -/
structure SetIs (D : DataW Unit) (S : Nat → ByteArray) (k : Nat) : Prop where
  map : IsMap D
  has : ∀ x : ByteArray, Maps.has D (.string x.data.toList) = inB S k x

theorem SetIs.zero (S : Nat → ByteArray) : SetIs (.map []) S 0 := ⟨isMap_empty, fun x => by simp [Maps.has, inB]⟩

theorem data_inj {x y : ByteArray} (h : x.data.toList = y.data.toList) : x = y := ByteArray.ext (Array.toList_inj.mp h)

theorem SetIs.put {D : DataW Unit} {S : Nat → ByteArray} {k : Nat} (h : SetIs D S k) (d : DataW Unit) : SetIs (D.put (.string (S k).data.toList) d) S (k + 1) := by
  refine ⟨h.map.put _ _, fun x => ?_⟩
  by_cases e : x = S k
  · subst e
    rw [has_put_same h.map (by trivial)]
    exact ((inB_iff _ _ _).2 ⟨k, by omega, rfl⟩).symm
  · rw [has_put_other (fun e' => e (data_inj (by simpa using e'))), h.has x]
    rw [Bool.eq_iff_iff, inB_iff, inB_iff]
    constructor
    · rintro ⟨j, hj, ej⟩; exact ⟨j, by omega, ej⟩
    · rintro ⟨j, hj, ej⟩
      refine ⟨j, ?_, ej⟩
      rcases Nat.lt_or_ge j k with h' | h'
      · exact h'
      · obtain rfl : j = k := by omega
        exact absurd ej.symm e

theorem law9 : Keyed Try.prog 9 := string_keyed Try.underlying9
theorem zero43 (w : World) : (zeroValue 43).run Try.prog w = .ok (.agg #[]) w := by kernel_rfl
theorem mk42 (n : Int) (w : World) : (Instr.makeMap 42 (some (.int .i64 n))).run Try.prog w = .ok (.map (some w.heap.size)) (w.alloc (.map #[] 0)) := by kernel_rfl

/-- no item of the first k has come twice -/
def NoneYet (S : Nat → ByteArray) (k : Nat) : Prop := ∀ k', k' < k → ∀ j, j < k' → S j ≠ S k'
theorem NoneYet.zero (S : Nat → ByteArray) : NoneYet S 0 := fun k' hk' => absurd hk' (by omega)
theorem NoneYet.step {S : Nat → ByteArray} {k : Nat} (h : NoneYet S k) (hx : inB S k (S k) = false) : NoneYet S (k + 1) := by
  intro k' hk' j hj
  rcases Nat.lt_or_ge k' k with h' | h'
  · exact h k' h' j hj
  · obtain rfl : k' = k := by omega
    exact (inB_false _ _ _).1 hx j hj
theorem NoneYet.found {S : Nat → ByteArray} {k n : Nat} (h : NoneYet S k) (hk : k < n) (hx : inB S k (S k) = true) : RepEnd S n (.returned (.tuple #[.string (S k), .bool true])) :=
  ⟨_, _, rfl, .inl ⟨rfl, k, hk, rfl, (inB_iff _ _ _).1 hx, h⟩⟩
theorem NoneYet.none {S : Nat → ByteArray} {n : Nat} (h : NoneYet S n) : RepEnd S n (.returned (.tuple #[.string ByteArray.empty, .bool false])) :=
  ⟨_, _, rfl, .inr ⟨rfl, rfl, h⟩⟩

set_option maxHeartbeats 400000 in
theorem repeated20_short (a : Option Addr) (b off n cap : Nat) (S : Nat → ByteArray) (w : World) (hn : n ≤ 8) (hcap : n ≤ cap) (hcm : cap ≤ maxLen) (hs : Strs w a b off n S) :
    Calls Try.prog 20 #[.slice a n cap] w fun e w' => RepEnd S n e ∧ w = w' := by
  unfold maxLen at hcm
  have hd : decide ((n : Int) ≤ 8) = true := by simp; omega
  go_enter Try.func20, Try.ntmps20
  go_wp2
  go_loop [16] (fun i => ∃ (k : Nat), k ≤ n ∧ NoneYet S k ∧ i = .int .i64 k) (fun i => n - (intOf i).toNat)
  case atStart => exact ⟨0, Nat.zero_le _, NoneYet.zero S, rfl⟩
  case round =>
    obtain ⟨k, hk, hno, rfl⟩ := hrel
    by_cases hlt : k < n
    · have hcx := hs.cell k hlt
      obtain rfl := hs.addr (by omega)
      go_wp2_with fail
      refine (contains23 _ b off k cap S (S k) _ (by unfold maxLen; omega) (hs.take hk)).mono ?_
      rintro e w' ⟨rfl, rfl⟩
      cases hx : inB S k (S k)
      · have HX : Hid (inB S k (S k) = false) := hx
        clear hx
        go_wp2
        go_round
        case rel => exact ⟨k + 1, by omega, hno.step HX.out, by go_num⟩
        case measure => simp [intOf]; omega
      · have HX : Hid (inB S k (S k) = true) := hx
        clear hx
        go_wp2
        go_ret2
        exact ⟨hno.found hlt HX.out, rfl⟩
    · have : k = n := by omega
      subst this
      go_wp2
      go_ret2
      exact ⟨hno.none, rfl⟩

theorem Strs.alloc {w : World} {a : Option Addr} {b off n : Nat} {S : Nat → ByteArray} (h : Strs w a b off n S) (o : Obj) : Strs (w.alloc o) a b off n S :=
  h.belowSelf ((Below.refl _ _).alloc (Nat.le_refl _) _)

set_option maxHeartbeats 1000000 in
set_option maxRecDepth 100000 in
theorem repeated20_long (a : Option Addr) (b off n cap : Nat) (S : Nat → ByteArray) (w : World) (hn8 : 8 < n) (hn : n ≤ maxLen) (hs : Strs w a b off n S) :
    Calls Try.prog 20 #[.slice a n cap] w fun e w' => RepEnd S n e ∧ Below w.heap.size w w' := by
  unfold maxLen at hn
  have hmm := mk42
  go_enter Try.func20, Try.ntmps20
  go_wp2
  go_loopw [33] (fun i wr => ∃ (k : Nat) (D : DataW Unit), k ≤ n ∧ NoneYet S k ∧ SetIs D S k ∧ wr.ownsMap Try.prog 9 unitElem w.heap.size k D ∧ Below w.heap.size w wr ∧ w.heap.size + 1 ≤ wr.heap.size ∧ i = .int .i64 k) (fun i _ => n - (intOf i).toNat)
  case atStart => exact ⟨0, _, Nat.zero_le _, NoneYet.zero S, SetIs.zero S, World.ownsMap_made _ _ _ _, (Below.refl _ _).alloc (Nat.le_refl _) _, by simp, rfl⟩
  case round =>
    obtain ⟨k, D, hk, hno, hset, hown, hbel, hsz, rfl⟩ := hrel
    by_cases hlt : k < n
    · have hs' := hs.belowSelf hbel
      have hcx := hs'.cell k hlt
      obtain rfl := hs.addr (by omega)
      have hkey : keyOf Try.prog 9 (.string (S k)) = some (.string (S k).data.toList) := keyOf_string_mk Try.underlying9 (hs.size k hlt)
      have hhas := hset.has (S k)
      cases hx : inB S k (S k)
      · have HX : Hid (inB S k (S k) = false) := hx
        rw [hx] at hhas
        clear hx
        go_wp2_with (first
          | (at_lookup; refine wpList_lookup_own_unit _ rfl _ _ 42 rfl 9 43 law9 Try.underlying42 (zero43 _) w.heap.size k _ rfl hown _ _ rfl hkey ?_)
          | (at_mapUpdate; refine wpList_mapUpdate_own _ rfl _ _ _ 42 rfl 9 43 law9 Try.underlying42 (unitElem (H := Unit)) w.heap.size k _ rfl (hown.alloc _) (by unfold maxLen; omega) _ _ _ rfl rfl hkey _ [] unitElem_mk ?_; intro w1 hown1 hgrow1)
          | go_in)
        go_roundw
        case rel =>
          have s1 := hgrow1.size
          simp at s1
          exact ⟨k + 1, _, by omega, hno.step HX.out, hset.put _, hown1, (hbel.alloc hbel.size _).grown hgrow1 (by simp; omega) (fun j hj => by cases hj; exact Nat.le_refl _), by omega, by go_num⟩
        case measure => simp [intOf]; omega
      · have HX : Hid (inB S k (S k) = true) := hx
        rw [hx] at hhas
        clear hx
        go_wp2_with (first
          | (at_lookup; refine wpList_lookup_own_unit _ rfl _ _ 42 rfl 9 43 law9 Try.underlying42 (zero43 _) w.heap.size k _ rfl hown _ _ rfl hkey ?_)
          | go_in)
        go_ret2
        exact ⟨hno.found hlt HX.out, hbel.alloc hbel.size _⟩
    · have : k = n := by omega
      subst this
      go_wp2
      go_ret2
      exact ⟨hno.none, hbel⟩

theorem repeated9 (a : Option Addr) (b off n cap : Nat) (S : Nat → ByteArray) (w : World) (hcap : n ≤ cap) (hcm : cap ≤ maxLen) (hs : Strs w a b off n S) :
    Calls Try.prog 9 #[.slice a n cap] w fun e w' => RepEnd S n e ∧ Below w.heap.size w w' := by
  have h20 : Calls Try.prog 20 #[.slice a n cap] w fun e w' => RepEnd S n e ∧ Below w.heap.size w w' := by
    rcases Nat.lt_or_ge 8 n with h | h
    · exact repeated20_long a b off n cap S w h (by omega) hs
    · refine (repeated20_short a b off n cap S w h hcap hcm hs).mono ?_
      rintro e w' ⟨he, rfl⟩
      exact ⟨he, Below.refl _ _⟩
  go_enter Try.func9, Try.ntmps9
  go_wp2_with fail
  refine h20.mono ?_
  rintro e w' ⟨⟨x, r, rfl, hr⟩, hb⟩
  go_wp2
  go_ret2
  exact ⟨⟨_, _, rfl, hr⟩, hb⟩
end Go.Proofs.Qxb6617809a
