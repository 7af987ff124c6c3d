/- The contracts of impl.WideFromBytes and impl.WidePut. Printed by gen/bycon.py. -/
import Derived.Test.YtiifnofghicnaaaByClo
namespace Go.Proofs.Ytiifnofghicnaaa.BAll
open Go.RowKit Go.Proofs.YtiifnofghicnaaaW.PrintWords Go.Proofs.YtiifnofghicnaaaW.PrintLast Go.Proofs.YtiifnofghicnaaaW.PrintMore
set_option linter.unusedVariables false
set_option linter.unusedSimpArgs false
set_option maxHeartbeats 1000000 in
set_option maxRecDepth 100000 in
theorem wfb_calls (A0 : Option Addr) (c0 : Nat) (l0 : List Int) (a1 : Bool) (r1 r2 : Int) (r3 : Bool) (w : World) (hr0 : Kd.C (Kd.int .u8) w A0 l0.length l0) (hc0 : l0.length ≤ c0) (h : wfb l0 a1 = some (r1, r2, r3)) :
    Calls Try.prog 74 #[.slice A0 l0.length c0, .bool a1] w fun e w' => e = .returned (.tuple #[.agg #[.int .u64 r1, .int .u64 r2], .bool r3]) ∧ Below w.heap.size w w' := by
  unfold wfb at h
  by_cases h1 : l0.length < 16
  · rw [if_pos h1] at h
    simp only [Option.some.injEq, Prod.mk.injEq] at h
    obtain ⟨rfl, rfl, rfl⟩ := h
    exact wfb_short A0 _ c0 a1 h1 w
  · rw [if_neg h1] at h
    by_cases h2 : 1048576 < l0.length
    · rw [if_pos h2] at h
      exact absurd h (by simp)
    · rw [if_neg h2] at h
      cases a1
      · rw [if_neg (by decide)] at h
        simp only [Option.some.injEq, Prod.mk.injEq] at h
        obtain ⟨rfl, rfl, rfl⟩ := h
        exact wfb_little (fun i => l0.getD i 0) A0 c0 l0 (fun _ => rfl) (by omega) (by omega) w hr0 hc0
      · rw [if_pos rfl] at h
        simp only [Option.some.injEq, Prod.mk.injEq] at h
        obtain ⟨rfl, rfl, rfl⟩ := h
        exact wfb_big (fun i => l0.getD i 0) A0 c0 l0 (fun _ => rfl) (by omega) (by omega) w hr0 hc0
theorem put8_size (cur : Array Value) (o : Nat) (b0 b1 b2 b3 b4 b5 b6 b7 : Int) : (put8 cur o b0 b1 b2 b3 b4 b5 b6 b7).size = cur.size := by simp only [put8, Array.size_setIfInBounds]
theorem put8_out (cur : Array Value) (o j : Nat) (b0 b1 b2 b3 b4 b5 b6 b7 : Int) (h : j < o ∨ o + 8 ≤ j) : (put8 cur o b0 b1 b2 b3 b4 b5 b6 b7)[j]? = cur[j]? := by
  unfold put8
  rw [Array.getElem?_setIfInBounds_ne (by omega), Array.getElem?_setIfInBounds_ne (by omega), Array.getElem?_setIfInBounds_ne (by omega), Array.getElem?_setIfInBounds_ne (by omega), Array.getElem?_setIfInBounds_ne (by omega), Array.getElem?_setIfInBounds_ne (by omega), Array.getElem?_setIfInBounds_ne (by omega), Array.getElem?_setIfInBounds_ne (by omega)]
theorem put8_in (cur : Array Value) (o i : Nat) (b0 b1 b2 b3 b4 b5 b6 b7 : Int) (hi : i < 8) (ho : o + 8 ≤ cur.size) : (put8 cur o b0 b1 b2 b3 b4 b5 b6 b7)[o + i]? = some (.int .u8 ([b0, b1, b2, b3, b4, b5, b6, b7].getD i 0)) := by
  unfold put8
  match i, hi with
  | 0, _ =>
    rw [show o + 0 = o from rfl, Array.getElem?_setIfInBounds_ne (by omega), Array.getElem?_setIfInBounds_ne (by omega), Array.getElem?_setIfInBounds_ne (by omega), Array.getElem?_setIfInBounds_ne (by omega), Array.getElem?_setIfInBounds_ne (by omega), Array.getElem?_setIfInBounds_ne (by omega), Array.getElem?_setIfInBounds_ne (by omega), Array.getElem?_setIfInBounds_self_of_lt (by omega)]
    rfl
  | 1, _ =>
    rw [Array.getElem?_setIfInBounds_ne (by omega), Array.getElem?_setIfInBounds_ne (by omega), Array.getElem?_setIfInBounds_ne (by omega), Array.getElem?_setIfInBounds_ne (by omega), Array.getElem?_setIfInBounds_ne (by omega), Array.getElem?_setIfInBounds_ne (by omega), Array.getElem?_setIfInBounds_self_of_lt (by simp only [Array.size_setIfInBounds]; omega)]
    rfl
  | 2, _ =>
    rw [Array.getElem?_setIfInBounds_ne (by omega), Array.getElem?_setIfInBounds_ne (by omega), Array.getElem?_setIfInBounds_ne (by omega), Array.getElem?_setIfInBounds_ne (by omega), Array.getElem?_setIfInBounds_ne (by omega), Array.getElem?_setIfInBounds_self_of_lt (by simp only [Array.size_setIfInBounds]; omega)]
    rfl
  | 3, _ =>
    rw [Array.getElem?_setIfInBounds_ne (by omega), Array.getElem?_setIfInBounds_ne (by omega), Array.getElem?_setIfInBounds_ne (by omega), Array.getElem?_setIfInBounds_ne (by omega), Array.getElem?_setIfInBounds_self_of_lt (by simp only [Array.size_setIfInBounds]; omega)]
    rfl
  | 4, _ =>
    rw [Array.getElem?_setIfInBounds_ne (by omega), Array.getElem?_setIfInBounds_ne (by omega), Array.getElem?_setIfInBounds_ne (by omega), Array.getElem?_setIfInBounds_self_of_lt (by simp only [Array.size_setIfInBounds]; omega)]
    rfl
  | 5, _ =>
    rw [Array.getElem?_setIfInBounds_ne (by omega), Array.getElem?_setIfInBounds_ne (by omega), Array.getElem?_setIfInBounds_self_of_lt (by simp only [Array.size_setIfInBounds]; omega)]
    rfl
  | 6, _ =>
    rw [Array.getElem?_setIfInBounds_ne (by omega), Array.getElem?_setIfInBounds_self_of_lt (by simp only [Array.size_setIfInBounds]; omega)]
    rfl
  | 7, _ =>
    rw [Array.getElem?_setIfInBounds_self_of_lt (by simp only [Array.size_setIfInBounds]; omega)]
    rfl
/-- Sixteen octets of a number's halves. -/
def oct16 (big : Bool) (a b : Int) : List Int := if big = true then [(b / 72057594037927936 % 256), (b / 281474976710656 % 256), (b / 1099511627776 % 256), (b / 4294967296 % 256), (b / 16777216 % 256), (b / 65536 % 256), (b / 256 % 256), (b % 256), (a / 72057594037927936 % 256), (a / 281474976710656 % 256), (a / 1099511627776 % 256), (a / 4294967296 % 256), (a / 16777216 % 256), (a / 65536 % 256), (a / 256 % 256), (a % 256)] else [(a % 256), (a / 256 % 256), (a / 65536 % 256), (a / 16777216 % 256), (a / 4294967296 % 256), (a / 1099511627776 % 256), (a / 281474976710656 % 256), (a / 72057594037927936 % 256), (b % 256), (b / 256 % 256), (b / 65536 % 256), (b / 16777216 % 256), (b / 4294967296 % 256), (b / 1099511627776 % 256), (b / 281474976710656 % 256), (b / 72057594037927936 % 256)]
theorem oct16_len (big : Bool) (a b : Int) : (oct16 big a b).length = 16 := by
  cases big <;> rfl
theorem put16_low (big : Bool) (cur : Array Value) (a b : Int) (hs : 16 ≤ cur.size) (j : Nat) (hj : j < 16) : (put16 big cur a b)[j]? = some (.int .u8 ((oct16 big a b).getD j 0)) := by
  cases big
  · rw [put16_false]
    rcases Nat.lt_or_ge j 8 with h | h
    · rw [put8_out _ _ _ _ _ _ _ _ _ _ _ (Or.inl h)]
      have h1 := put8_in cur 0 j (a % 256) (a / 256 % 256) (a / 65536 % 256) (a / 16777216 % 256) (a / 4294967296 % 256) (a / 1099511627776 % 256) (a / 281474976710656 % 256) (a / 72057594037927936 % 256) h (by omega)
      rw [Nat.zero_add] at h1
      rw [h1]
      obtain rfl | rfl | rfl | rfl | rfl | rfl | rfl | rfl : j = 0 ∨ j = 1 ∨ j = 2 ∨ j = 3 ∨ j = 4 ∨ j = 5 ∨ j = 6 ∨ j = 7 := by omega
      all_goals rfl
    · obtain ⟨i, rfl⟩ : ∃ i, j = 8 + i := ⟨j - 8, by omega⟩
      rw [put8_in _ 8 i _ _ _ _ _ _ _ _ (by omega) (by rw [put8_size]; omega)]
      obtain rfl | rfl | rfl | rfl | rfl | rfl | rfl | rfl : i = 0 ∨ i = 1 ∨ i = 2 ∨ i = 3 ∨ i = 4 ∨ i = 5 ∨ i = 6 ∨ i = 7 := by omega
      all_goals rfl
  · rw [put16_true]
    rcases Nat.lt_or_ge j 8 with h | h
    · rw [put8_out _ _ _ _ _ _ _ _ _ _ _ (Or.inl h)]
      have h1 := put8_in cur 0 j (b / 72057594037927936 % 256) (b / 281474976710656 % 256) (b / 1099511627776 % 256) (b / 4294967296 % 256) (b / 16777216 % 256) (b / 65536 % 256) (b / 256 % 256) (b % 256) h (by omega)
      rw [Nat.zero_add] at h1
      rw [h1]
      obtain rfl | rfl | rfl | rfl | rfl | rfl | rfl | rfl : j = 0 ∨ j = 1 ∨ j = 2 ∨ j = 3 ∨ j = 4 ∨ j = 5 ∨ j = 6 ∨ j = 7 := by omega
      all_goals rfl
    · obtain ⟨i, rfl⟩ : ∃ i, j = 8 + i := ⟨j - 8, by omega⟩
      rw [put8_in _ 8 i _ _ _ _ _ _ _ _ (by omega) (by rw [put8_size]; omega)]
      obtain rfl | rfl | rfl | rfl | rfl | rfl | rfl | rfl : i = 0 ∨ i = 1 ∨ i = 2 ∨ i = 3 ∨ i = 4 ∨ i = 5 ∨ i = 6 ∨ i = 7 := by omega
      all_goals rfl
theorem put16_high (big : Bool) (cur : Array Value) (a b : Int) (j : Nat) (hj : 16 ≤ j) : (put16 big cur a b)[j]? = cur[j]? := by
  cases big
  · rw [put16_false, put8_out _ _ _ _ _ _ _ _ _ _ _ (Or.inr (by omega)), put8_out _ _ _ _ _ _ _ _ _ _ _ (Or.inr (by omega))]
  · rw [put16_true, put8_out _ _ _ _ _ _ _ _ _ _ _ (Or.inr (by omega)), put8_out _ _ _ _ _ _ _ _ _ _ _ (Or.inr (by omega))]
def wpf (a b : Int) (l : List Int) (big : Bool) : Option (List Int × Bool) :=
  if l.length < 16 then some ([], false) else if 1048576 < l.length then none else some (oct16 big a b ++ l.drop 16, true)
/-- The row behind WidePut. -/
theorem put_row {W : World} {g cap : Nat} {cur : Array Value} {big : Bool} {a b : Int} {l : List Int} (h16 : 16 ≤ l.length) (hm : l.length ≤ 1048576) (hh : W.heap[g]? = some (.cells (put16 big cur a b) 5 (0, 0))) (hle : l.length ≤ cap) (hsz : cur.size = cap) (htk : cur.toList.take l.length = l.map (Value.int .u8)) :
    Kd.C (Kd.int .u8) W (some ⟨g, 0, none⟩) (oct16 big a b ++ l.drop 16).length (oct16 big a b ++ l.drop 16) := by
  have hlen : (oct16 big a b ++ l.drop 16).length = l.length := by rw [List.length_append, oct16_len, List.length_drop]; omega
  refine ⟨rfl, by rw [hlen]; show l.length ≤ 9223372036854775807; omega, fun _ => ⟨_, rfl, fun j p hj => ⟨[.int .u8 p], rfl, rfl, fun i u hu => ?_⟩⟩⟩
  match i, hu with
  | 0, hu =>
    obtain rfl : Value.int .u8 p = u := by simpa using hu
    have e : (Addr.add ⟨g, 0, none⟩ (j * (Kd.int .u8).sz + 0)) = ⟨g, j, none⟩ := by
      simp [Kd.int, Kd.scalar, Addr.add]
      rintro rfl
      rfl
    rw [e, blk_cell hh]
    rcases Nat.lt_or_ge j 16 with h | h
    · rw [put16_low big cur a b (by omega) j h, List.getD_eq_getElem?_getD]
      rw [List.getElem?_append_left (by rw [oct16_len]; exact h)] at hj
      rw [hj]
      rfl
    · rw [put16_high big cur a b j h]
      rw [List.getElem?_append_right (by rw [oct16_len]; exact h), oct16_len, List.getElem?_drop, show 16 + (j - 16) = j by omega] at hj
      have hjl : j < l.length := (List.getElem?_eq_some_iff.1 hj).1
      have h1 : (cur.toList.take l.length)[j]? = cur[j]? := by rw [List.getElem?_take_of_lt hjl, Array.getElem?_toList]
      rw [← h1, htk, List.getElem?_map, hj]
      rfl
set_option maxHeartbeats 1000000 in
set_option maxRecDepth 100000 in
theorem wpf_calls (a b : Int) (A : Option Addr) (c : Nat) (l : List Int) (big : Bool) (r1 : List Int) (r2 : Bool) (w : World) (hr1 : Kd.C (Kd.int .u8) w A l.length l) (hc1 : l.length ≤ c) (h : wpf a b l big = some (r1, r2)) :
    Calls Try.prog 75 #[.agg #[.int .u64 a, .int .u64 b], .slice A l.length c, .bool big] w fun e w' => ∃ v0_ : Value, e = .returned (.tuple #[v0_, .bool r2]) ∧ Kd.V (Kd.int .u8) 5 w' w.heap.size (fun k_ => (w.heap.size ≤ k_)) v0_ r1 ∧ Below w.heap.size w w' := by
  have hcf : ∀ (args : Array Value) (w : World), (callFunc 123 args).run Try.prog w = .ok (.enter 123 args) w := fun _ _ => by kernel_rfl
  have hmf : ∀ (fn : Fn) (first cap : Array Value) (w : World), (Instr.makeFunc fn first cap).run Try.prog w = .ok (.func fn first cap) w := fun _ _ _ _ => rfl
  have ka := blk_alloc (blk_alloc (MapKept.heap_alloc w (.cells #[.int .u64 a, .int .u64 b] 24)).1 (.cells #[.slice A l.length c] 54)) (.cells #[.bool big] 4)
  have kb : (((w.alloc (.cells #[.int .u64 a, .int .u64 b] 24)).alloc (.cells #[.slice A l.length c] 54)).alloc (.cells #[.bool big] 4)).heap[w.heap.size + 1]? = some (.cells #[.slice A l.length c] 54 (0, 0)) := blk_alloc (by have h := (MapKept.heap_alloc (w.alloc (.cells #[.int .u64 a, .int .u64 b] 24)) (.cells #[.slice A l.length c] 54)).1; simpa using h) (.cells #[.bool big] 4)
  have kg : (((w.alloc (.cells #[.int .u64 a, .int .u64 b] 24)).alloc (.cells #[.slice A l.length c] 54)).alloc (.cells #[.bool big] 4)).heap[w.heap.size + 1 + 1]? = some (.cells #[.bool big] 4 (0, 0)) := by
    have h := (MapKept.heap_alloc ((w.alloc (.cells #[.int .u64 a, .int .u64 b] 24)).alloc (.cells #[.slice A l.length c] 54)) (.cells #[.bool big] 4)).1
    simpa using h
  have BW : Below w.heap.size w (((w.alloc (.cells #[.int .u64 a, .int .u64 b] 24)).alloc (.cells #[.slice A l.length c] 54)).alloc (.cells #[.bool big] 4)) := (((Below.refl w.heap.size w).alloc (Nat.le_refl _) (.cells #[.int .u64 a, .int .u64 b] 24)).alloc (by simp) (.cells #[.slice A l.length c] 54)).alloc (by simp; try omega) (.cells #[.bool big] 4)
  have E0 := Lib.hid (And.intro ka (And.intro kb (And.intro kg BW)))
  have HR := Lib.hid hr1
  have HH := Lib.hid h
  clear ka kb kg BW hr1 h hc1
  go_enter Try.func75, Try.ntmps75
  go_wp2_with fail
  obtain ⟨ka, kb, kg, BW⟩ := E0.out
  clear E0
  generalize (((w.alloc (.cells #[.int .u64 a, .int .u64 b] 24)).alloc (.cells #[.slice A l.length c] 54)).alloc (.cells #[.bool big] 4)) = W0 at ka kb kg BW ⊢
  have hC : ∀ W, Below W0.heap.size W0 W → Kd.C (Kd.int .u8) W A l.length l := fun W hW => Kd.C_below HR.out (BW.trans (hW.mono BW.size))
  have hw := HH.out
  unfold wpf at hw
  by_cases h1 : l.length < 16
  · rw [if_pos h1] at hw
    simp only [Option.some.injEq, Prod.mk.injEq] at hw
    obtain ⟨rfl, rfl⟩ := hw
    refine (triedB 123 _ false l.length (fun _ _ => True) W0 hcf (Lib.hid fun W hW => ?_)).mono ?_
    · have hCW : ∀ W1, Below W.heap.size W W1 → Kd.C (Kd.int .u8) W1 A l.length l := fun W1 h => hC W1 (hW.trans (h.mono hW.size))
      have kb' := (hW.block _ (blk_lt kb)).trans kb
      have kg' := (hW.block _ (blk_lt kg)).trans kg
      have ka' := (hW.block _ (blk_lt ka)).trans ka
      cases big
      · exact (clo_no_false _ _ _ a b A c l (by omega) h1 W hCW kb' kg' ka').mono fun e W' h => ⟨Or.inr ⟨rfl, h.1⟩, h.2⟩
      · exact (clo_no_true _ _ _ a b A c l (by omega) h1 W hCW kb' kg' ka').mono fun e W' h => ⟨Or.inr ⟨rfl, h.1⟩, h.2⟩
    · rintro e w1 ⟨ho, hb⟩
      obtain ⟨h0, _⟩ | ⟨_, rfl⟩ := ho
      · cases h0
      have hV : Kd.V (Kd.int .u8) 5 w1 w.heap.size (fun k_ => w.heap.size ≤ k_) (.slice none ([] : List Int).length 0) [] := Kd.V_mk (Nat.le_refl _) (fun W' _ => ⟨rfl, Nat.zero_le _, fun h => absurd h (by simp)⟩)
      have E1 := Lib.hid (And.intro hV (BW.trans (hb.mono BW.size)))
      clear hb ka kb kg BW hC hV
      go_wp2_with fail
      go_ret2
      exact ⟨_, rfl, E1.out⟩
  · rw [if_neg h1] at hw
    by_cases h2 : 1048576 < l.length
    · rw [if_pos h2] at hw
      exact absurd hw (by simp)
    rw [if_neg h2] at hw
    simp only [Option.some.injEq, Prod.mk.injEq] at hw
    obtain ⟨rfl, rfl⟩ := hw
    refine (triedB 123 _ true l.length (fun m cs => l.length ≤ m ∧ ∃ cur, cs = put16 big cur a b ∧ cur.size = m ∧ cur.toList.take l.length = l.map (Value.int .u8)) W0 hcf (Lib.hid fun W hW => ?_)).mono ?_
    · have hCW : ∀ W1, Below W.heap.size W W1 → Kd.C (Kd.int .u8) W1 A l.length l := fun W1 h => hC W1 (hW.trans (h.mono hW.size))
      have kb' := (hW.block _ (blk_lt kb)).trans kb
      have kg' := (hW.block _ (blk_lt kg)).trans kg
      have ka' := (hW.block _ (blk_lt ka)).trans ka
      cases big
      · refine (clo_ok_false _ _ _ a b A c l (by omega) (by omega) W hCW kb' kg' ka').mono ?_
        rintro e W' ⟨⟨g, cap, cur, rfl, hg, hh, hle, _, hsz, htk⟩, hb⟩
        exact ⟨Or.inl ⟨rfl, g, cap, _, rfl, hg, hh, hle, cur, rfl, hsz, htk⟩, hb⟩
      · refine (clo_ok_true _ _ _ a b A c l (by omega) (by omega) W hCW kb' kg' ka').mono ?_
        rintro e W' ⟨⟨g, cap, cur, rfl, hg, hh, hle, _, hsz, htk⟩, hb⟩
        exact ⟨Or.inl ⟨rfl, g, cap, _, rfl, hg, hh, hle, cur, rfl, hsz, htk⟩, hb⟩
    · rintro e w1 ⟨ho, hb⟩
      obtain ⟨_, g, m, cs, rfl, hg, hh, hle, cur, rfl, hsz, htk⟩ | ⟨h0, _⟩ := ho
      · have hlen : (oct16 big a b ++ l.drop 16).length = l.length := by rw [List.length_append, oct16_len, List.length_drop]; omega
        have hV : Kd.V (Kd.int .u8) 5 w1 w.heap.size (fun k_ => w.heap.size ≤ k_) (.slice (some ⟨g, 0, none⟩) l.length m) (oct16 big a b ++ l.drop 16) := by
          have h : Kd.V (Kd.int .u8) 5 w1 w.heap.size (fun k_ => w.heap.size ≤ k_) (.slice (some ⟨g, 0, none⟩) (oct16 big a b ++ l.drop 16).length m) (oct16 big a b ++ l.drop 16) := Kd.V_mk (by rw [hlen]; exact hle) (fun W' hW' => put_row (by omega) (by omega) ((hW' g (Nat.le_trans BW.size hg) (blk_lt hh)).trans hh) hle hsz htk)
          rw [hlen] at h
          exact h
        have E1 := Lib.hid (And.intro hV (BW.trans (hb.mono BW.size)))
        clear hb ka kb kg BW hC hh hle hsz htk hV
        go_wp2_with fail
        go_ret2
        exact ⟨_, rfl, E1.out⟩
      · cases h0
end Go.Proofs.Ytiifnofghicnaaa.BAll
