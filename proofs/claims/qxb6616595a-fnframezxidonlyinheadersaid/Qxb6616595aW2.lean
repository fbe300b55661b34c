import Derived.Test.Qxb6616595aW1
namespace Go.Proofs.Qxb6616595a
open Go.RowKit

/-- the eight bytes of u, the greatest first -/
def be8 (u : Int) : List Int := [u / 72057594037927936, u / 281474976710656 % 256, u / 1099511627776 % 256, u / 4294967296 % 256, u / 16777216 % 256, u / 65536 % 256, u / 256 % 256, u % 256]
def be4 (u : Int) : List Int := [u / 16777216, u / 65536 % 256, u / 256 % 256, u % 256]

theorem be8_split (u : Int) : be8 u = be4 (u / 4294967296) ++ be4 (u % 4294967296) := by
  simp only [be8, be4, List.cons_append, List.nil_append, List.cons.injEq, and_true]
  refine ⟨?_, ?_, ?_, ?_, ?_, ?_, ?_, ?_⟩ <;> first | trivial | omega

theorem be8_bytes (u : Int) (h0 : 0 ≤ u) (h1 : u < 18446744073709551616) : Bytes (be8 u) := by
  intro x hx
  simp only [be8, List.mem_cons, List.not_mem_nil, or_false] at hx
  rcases hx with rfl | rfl | rfl | rfl | rfl | rfl | rfl | rfl <;> omega
theorem be4_bytes (u : Int) (h0 : 0 ≤ u) (h1 : u < 4294967296) : Bytes (be4 u) := by
  intro x hx
  simp only [be4, List.mem_cons, List.not_mem_nil, or_false] at hx
  rcases hx with rfl | rfl | rfl | rfl <;> omega

/-- what the first q bytes spell -/
def pre (u : Int) : Nat → Int
  | 0 => 0
  | 1 => u / 72057594037927936
  | 2 => u / 281474976710656
  | 3 => u / 1099511627776
  | 4 => u / 4294967296
  | 5 => u / 16777216
  | 6 => u / 65536
  | 7 => u / 256
  | _ => u

theorem pre_step (u : Int) (h0 : 0 ≤ u) (h1 : u < 18446744073709551616) (q : Nat) (hq : q < 8) : pre u (q + 1) = pre u q * 256 + (be8 u).getD q 0 ∧ 0 ≤ pre u q ∧ pre u q < 72057594037927936 := by
  match q, hq with
  | 0, _ => simp [pre, be8]
  | 1, _ => simp [pre, be8]; omega
  | 2, _ => simp [pre, be8]; omega
  | 3, _ => simp [pre, be8]; omega
  | 4, _ => simp [pre, be8]; omega
  | 5, _ => simp [pre, be8]; omega
  | 6, _ => simp [pre, be8]; omega
  | 7, _ => simp [pre, be8]; omega

theorem or_byte (U c : Int) (h0 : 0 ≤ U) (h1 : U < 72057594037927936) (c0 : 0 ≤ c) (c1 : c ≤ 255) : bits .or .u64 (U * 256) c = U * 256 + c :=
  bits_join .u64 64 (by decide) wraps_u64 8 (U * 256) c (by omega) (by omega) (by omega) c0 (by omega) (by omega)

set_option maxHeartbeats 400000 in
theorem read12 (a : Option Addr) (b off n cap : Nat) (f : Nat → Int) (i : Nat) (v : Int) (w : World) (hn : n ≤ 4294967296) (hi : i + 8 ≤ n) (hv0 : -9223372036854775808 ≤ v) (hv1 : v < 9223372036854775808) (hs : Bys w a b off n f)
    (hf : ∀ j, j < 8 → f (i + j) = (be8 (v % 18446744073709551616)).getD j 0) :
    Calls Try.prog 12 #[.slice a n cap, .int .i64 i] w fun e w' => e = .returned (.int .i64 v) ∧ w = w' := by
  obtain rfl := hs.addr (by omega)
  obtain ⟨u, hu⟩ : ∃ u, u = v % 18446744073709551616 := ⟨_, rfl⟩
  rw [← hu] at hf
  have u0 : 0 ≤ u := by omega
  have u1 : u < 18446744073709551616 := by omega
  have HU : Hid (u = v % 18446744073709551616) := hu
  clear hu
  go_enter Try.func12, Try.ntmps12
  go_wp2
  go_loop [5, 6] (fun zu zj => ∃ q : Nat, q ≤ 8 ∧ zu = .int .u64 (pre u q) ∧ zj = .int .i64 q) (fun _ zj => 8 - (intOf zj).toNat)
  case atStart => exact ⟨0, by omega, rfl, rfl⟩
  case round =>
    obtain ⟨q, hq, rfl, rfl⟩ := hrel
    by_cases hlt : q < 8
    · obtain ⟨hp, hp0, hp1⟩ := pre_step u u0 u1 q hlt
      have hcx := hs.cell (i + q) (by omega)
      have hby := hs.byte (i + q) (by omega)
      have hfq := hf q hlt
      rw [← hfq] at hp
      have HP : Hid (pre u (q + 1) = pre u q * 256 + f (i + q)) := hp
      have HO := or_byte (pre u q) (f (i + q)) hp0 hp1 hby.1 hby.2
      clear hp hfq hf
      generalize pre u q = U at HO HP hp0 hp1 ⊢
      generalize f (i + q) = c at HO HP hby hcx
      go_wp2
      go_round
      case rel => exact ⟨q + 1, by omega, by rw [HP.out], by go_num⟩
      case measure => simp [intOf]; omega
    · obtain rfl : q = 8 := by omega
      have hw : wrap64 (pre u 8) = v := by
        have := HU.out
        unfold wrap64
        show ((u + 9223372036854775808) % 18446744073709551616) - 9223372036854775808 = v
        omega
      have HW : Hid (wrap64 (pre u 8) = v) := hw
      clear hw
      go_wp2
      go_ret
      exact ⟨by rw [← HW.out]; rfl, rfl⟩

/-! ### AppendUint64, AppendUint32: the bytes behind the old ones; of what was there only the old row may have turned -/
/-- all that was there stays, but the block 'row' -/
structure Keeps (w w' : World) (row : Option Nat) : Prop where
  os : w'.os = w.os
  tape : w'.tape = w.tape
  output : w'.output = w.output
  size : w.heap.size ≤ w'.heap.size
  block : ∀ k, k < w.heap.size → some k ≠ row → w'.heap[k]? = w.heap[k]?

theorem Keeps.below {w w' : World} {row : Option Nat} {B : Nat} (h : Keeps w w' row) (hB : B ≤ w.heap.size) (hr : ∀ k, row = some k → B ≤ k) : Below B w w' :=
  ⟨h.os, h.tape, h.output, h.size, fun k hk => h.block k (by omega) (fun e => by have := hr k e.symm; omega)⟩

theorem new_cells (W : World) (arr : Array Value) (t : TypeId) (j : Nat) (x : Value) (h : arr[j]? = some x) : (W.alloc (.cells arr t)).cell? ((⟨W.heap.size, 0, none⟩ : Addr).add j) = some x := by
  have hadd : (⟨W.heap.size, 0, none⟩ : Addr).add j = ⟨W.heap.size, j, none⟩ := by unfold Addr.add; split <;> simp_all
  rw [hadd, cell_of_row (W.alloc (.cells arr t)) W.heap.size j arr t (0, 0) (heap_alloc_new W _)]
  exact h

theorem keeps_of {w W2 w2 : World} {row : Option Nat} (o1 o2 : Obj) (hW : W2 = (w.alloc o1).alloc o2) (h : W2.grownBy w2 row) : Keeps w w2 row := by
  subst hW
  refine ⟨h.os, h.tape, h.output, ?_, fun k hk hr => ?_⟩
  · have := h.size; simp at this; omega
  · have h1 := h.block k (by simp; omega) hr
    rw [h1, Below.heap_alloc _ _ _ (by simp; omega), Below.heap_alloc _ _ _ hk]

set_option maxHeartbeats 2000000 in
set_option maxRecDepth 100000 in
theorem append15 (B : Nat) (u : Int) (h0 : 0 ≤ u) (h1 : u < 18446744073709551616) (sv : Value) (L : List Int) (w : World) (hown : Owns w B sv L) (hBw : B ≤ w.heap.size) (hlim : L.length ≤ 4294967296) :
    Calls Try.prog 15 #[.agg #[], sv, .int .u64 u] w fun e w' => ∃ v', e = .returned v' ∧ Owns w' B v' (L ++ be8 u) ∧ Keeps w w' sv.ownBlock := by
  obtain ⟨i0, hi, hz0, hz1, hz2⟩ := info_parts info5
  have hown1 := hown
  unfold Owns at hown1
  generalize hLL : cellsOf L = xs at hown1
  generalize hnn : L.length = n at hown1 hlim
  have HLL : Hid (cellsOf L = xs) := hLL
  have HNN : Hid (L.length = n) := hnn
  clear hLL hnn
  go_enter Try.func15, Try.ntmps15
  go_wp2_with (at_builtin; refine wpList_append_own _ rfl _ _ 22 rfl B 5 i0 (.int .u8 0) 1 1 Try.underlying22 hi hz0 hz1 hz2 rfl (by decide) _ _ _ rfl ((hown1.alloc _).alloc _) _ 8 8 (cellsOf (be8 u)) rfl rfl ?c1 ?c2 ?c3 ?c4 ?c5 ?_)
  case c1 =>
    intro j x hj
    have h := new_cells (w.alloc (.cells #[] 41)) (cellsOf (be8 u)).toArray 5 j x (by simpa using hj)
    simpa [be8, cellsOf] using h
  case c2 =>
    intro x hx
    simp only [cellsOf, List.mem_map] at hx
    obtain ⟨y, _, rfl⟩ := hx
    rfl
  case c3 => unfold maxLen; omega
  case c4 => omega
  case c5 => simp; omega
  intro v' w2 hown' hgrow _
  go_wp2
  go_ret
  refine ⟨v', rfl, ?_, keeps_of _ _ rfl hgrow⟩
  unfold Owns
  rw [List.length_append, HNN.out]
  have e : cellsOf (L ++ be8 u) = xs ++ cellsOf (be8 u) := by rw [← HLL.out]; simp [cellsOf]
  rw [e]
  exact hown'

set_option maxHeartbeats 2000000 in
set_option maxRecDepth 100000 in
theorem append16 (B : Nat) (u : Int) (h0 : 0 ≤ u) (h1 : u < 4294967296) (sv : Value) (L : List Int) (w : World) (hown : Owns w B sv L) (hBw : B ≤ w.heap.size) (hlim : L.length ≤ 4294967296) :
    Calls Try.prog 16 #[.agg #[], sv, .int .u32 u] w fun e w' => ∃ v', e = .returned v' ∧ Owns w' B v' (L ++ be4 u) ∧ Keeps w w' sv.ownBlock := by
  obtain ⟨i0, hi, hz0, hz1, hz2⟩ := info_parts info5
  have hown1 := hown
  unfold Owns at hown1
  generalize hLL : cellsOf L = xs at hown1
  generalize hnn : L.length = n at hown1 hlim
  have HLL : Hid (cellsOf L = xs) := hLL
  have HNN : Hid (L.length = n) := hnn
  clear hLL hnn
  go_enter Try.func16, Try.ntmps16
  go_wp2_with (at_builtin; refine wpList_append_own _ rfl _ _ 22 rfl B 5 i0 (.int .u8 0) 1 1 Try.underlying22 hi hz0 hz1 hz2 rfl (by decide) _ _ _ rfl ((hown1.alloc _).alloc _) _ 4 4 (cellsOf (be4 u)) rfl rfl ?c1 ?c2 ?c3 ?c4 ?c5 ?_)
  case c1 =>
    intro j x hj
    have h := new_cells (w.alloc (.cells #[] 41)) (cellsOf (be4 u)).toArray 5 j x (by simpa using hj)
    simpa [be4, cellsOf] using h
  case c2 =>
    intro x hx
    simp only [cellsOf, List.mem_map] at hx
    obtain ⟨y, _, rfl⟩ := hx
    rfl
  case c3 => unfold maxLen; omega
  case c4 => omega
  case c5 => simp; omega
  intro v' w2 hown' hgrow _
  go_wp2
  go_ret
  refine ⟨v', rfl, ?_, keeps_of _ _ rfl hgrow⟩
  unfold Owns
  rw [List.length_append, HNN.out]
  have e : cellsOf (L ++ be4 u) = xs ++ cellsOf (be4 u) := by rw [← HLL.out]; simp [cellsOf]
  rw [e]
  exact hown'

/-! ### the Encoder: one field, the buffer -/
/-- the encoder that lies in block ge holds a buffer of its own with the bytes L -/
structure Enc (w : World) (B ge : Nat) (L : List Int) : Prop where
  ex : ∃ sv, w.heap[ge]? = some (.cells #[sv] 39 (0, 0)) ∧ Owns w B sv L
  ge : B ≤ ge

theorem owns_ne {w : World} {B : Nat} {v sv : Value} {L : List Int} {g : Nat} {t : TypeId} (h : Owns w B v L) (hg : w.heap[g]? = some (.cells #[sv] t (0, 0))) (ht : t ≠ 5) : v.ownBlock ≠ some g := by
  intro e
  rcases h.2 with ⟨rfl, _⟩ | ⟨g', cap, cur, rfl, _, hh, _⟩
  · simp [Value.ownBlock] at e
  · simp only [Value.ownBlock, Option.some.injEq] at e
    subst e
    rw [hh] at hg
    simp at hg
    exact ht hg.2.symm

theorem Owns.shape {w : World} {B : Nat} {v : Value} {L : List Int} (h : Owns w B v L) : ∃ a n c, v = .slice a n c := by
  rcases h.2 with ⟨rfl, _⟩ | ⟨g', cap, cur, rfl, _⟩
  · exact ⟨_, _, _, rfl⟩
  · exact ⟨_, _, _, rfl⟩

theorem Enc.below {w w' : World} {B ge B' : Nat} {L : List Int} (h : Enc w B ge L) (hb : Below B' w w') (hB : w.heap.size ≤ B') : Enc w' B ge L := by
  obtain ⟨sv, h1, h2⟩ := h.ex
  have hlt := lt_of_block h1
  refine ⟨⟨sv, (hb.block ge (by omega)).trans h1, ?_⟩, h.ge⟩
  refine ⟨h2.1, ?_⟩
  rcases h2.2 with h3 | ⟨g', cap, cur, e, hB', hh, r⟩
  · exact .inl h3
  · have := lt_of_block hh
    exact .inr ⟨g', cap, cur, e, hB', (hb.block g' (by omega)).trans hh, r⟩

theorem Owns.alloc {w : World} {B : Nat} {v : Value} {L : List Int} (h : Owns w B v L) (o : Obj) : Owns (w.alloc o) B v L := World.ownsRow.alloc h o

set_option maxHeartbeats 1000000 in
theorem newEncoder7 (B : Nat) (v : Value) (L : List Int) (w : World) (h : Owns w B v L) (hB : B ≤ w.heap.size) :
    Calls Try.prog 7 #[v] w fun e w' => e = .returned (.pointer (some ⟨w.heap.size, 0, none⟩)) ∧ Enc w' B w.heap.size L ∧ Below w.heap.size w w' := by
  obtain ⟨a, n, c, rfl⟩ := h.shape
  go_enter Try.func7, Try.ntmps7
  go_wp2
  go_ret
  exact ⟨rfl, ⟨⟨_, heap_alloc_new w _, h.alloc _⟩, hB⟩, (Below.refl _ _).alloc (Nat.le_refl _) _⟩

set_option maxHeartbeats 1000000 in
theorem encoderBuf10 (B ge : Nat) (L : List Int) (w : World) (h : Enc w B ge L) :
    Calls Try.prog 10 #[.pointer (some ⟨ge, 0, none⟩)] w fun e w' => (∃ v, e = .returned v ∧ Owns w B v L) ∧ w = w' := by
  obtain ⟨sv, h1, h2⟩ := h.ex
  obtain ⟨a, n, c, rfl⟩ := h2.shape
  have hc := cell_of_one h1
  clear h1
  go_enter Try.func10, Try.ntmps10
  go_wp2
  go_ret
  exact ⟨⟨_, rfl, h2⟩, rfl⟩

/-- behind the call of AppendUint..: the field is there; behind the store: the encoder holds the new buffer -/
theorem Enc.stored {w w' : World} {B ge : Nat} {sv v' : Value} {L' : List Int} (hge : B ≤ ge) (h1 : w.heap[ge]? = some (.cells #[sv] 39 (0, 0))) (hne : sv.ownBlock ≠ some ge) (hk : Keeps w w' sv.ownBlock) (ho : Owns w' B v' L') :
    w'.cell? ⟨ge, 0, none⟩ = some sv ∧ w'.frozen? ⟨ge, 0, none⟩ = false ∧ Enc (w'.setCell ⟨ge, 0, none⟩ v') B ge L' := by
  have h2 : w'.heap[ge]? = some (.cells #[sv] 39 (0, 0)) := (hk.block ge (lt_of_block h1) (fun e => hne e.symm)).trans h1
  exact ⟨cell_of_one h2, free_of_one h2, ⟨⟨v', one_setCell h2, ownsRow_setCell_other ho (owns_ne ho h2 (by decide)) v'⟩, hge⟩⟩

end Go.Proofs.Qxb6616595a
