/- spec.Digits: the decimal digits of a whole number. Walked by hand. -/
import Derived.Test.YtiifnofghicnaaaDoorDivided
import Derived.Test.YtiifnofghicnaaaDoorDec
import Derived.Test.YtiifnofghicnaaaDoorQAllx2
namespace Go.Proofs.YtiifnofghicnaaaDoor.PAll
open Go.RowKit Go.Proofs.YtiifnofghicnaaaDoorW.PrintWords Go.Proofs.YtiifnofghicnaaaDoorW.PrintLast Go.Proofs.YtiifnofghicnaaaDoorW.PrintMore
set_option linter.unusedVariables false
set_option linter.unusedSimpArgs false
theorem dgRow {W : World} {g t : Nat} {x : Int} (h : W.heap[g]? = some (.cells #[.int .i64 x] t)) : (Kd.int .i64).C W (some ⟨g, 0, none⟩) [x].length [x] := by
  refine ⟨rfl, show 1 ≤ 9223372036854775807 by decide, fun _ => ⟨_, rfl, fun j p hj => ?_⟩⟩
  match j, hj with
  | 0, hj =>
    obtain rfl : x = p := by simpa using hj
    refine ⟨[.int .i64 x], rfl, rfl, fun i u hu => ?_⟩
    match i, hu with
    | 0, hu =>
      obtain rfl : Value.int .i64 x = u := by simpa using hu
      rw [show (Addr.add ⟨g, 0, none⟩ (0 * (Kd.int .i64).sz + 0)) = ⟨g, 0, none⟩ by simp [Addr.add], blk_cell h]
      rfl
def strLen : Value → Nat
  | .string s => s.size
  | _ => 0
theorem dgV {w : World} {base : Nat} {v : Value} {l : List Int} (h : Kd.V (Kd.int .i64) 3 w base (fun k => base ≤ k) v l) : ∃ A c, v = .slice A l.length c ∧ l.length ≤ c ∧ ∀ W, Below w.heap.size w W → Kd.C (Kd.int .i64) W A l.length l := by
  obtain ⟨A, c, rfl⟩ := Kd.V_slice h
  exact ⟨A, c, rfl, (Kd.V_reads' h).2.1, fun W hW => (Kd.V_reads' (Kd.V_below h hW)).2.2⟩
theorem dg_small (r : Nat) (h0 : r ≠ 0) (h : r < 65536) : Dig.dg r = [(r : Int)] := by
  have hn : Dig.nd r = 1 := by
    have h1 := Dig.lt_nd r
    have h2 : Dig.nd r ≤ 1 := Dig.nd_le (by simpa using h)
    have h3 : Dig.nd r ≠ 0 := fun e => by rw [e] at h1; simp at h1; omega
    omega
  unfold Dig.dg
  rw [hn]
  simp [Dig.digs]
  omega
theorem dg_zero : Dig.dg 0 = [] := by decide +kernel
theorem dg_ne (n : Nat) (h : n ≠ 0) : (Dig.dg n).length ≠ 0 := by
  rw [Dig.dg_len]
  intro e
  have := Dig.lt_nd n
  rw [e] at this
  simp at this
  omega
set_option maxHeartbeats 4000000 in
set_option maxRecDepth 100000 in
theorem digits_walk (x t : Nat) (hx : x < 340282366920938463463374607431768211456) (h0 : x ≠ 0) (ht : DigN t x) (ht40 : t ≤ 40) (A : Option Addr) (c : Nat) (w : World) (hc : (Dig.dg x).length ≤ c)
    (hr : ∀ W, Below w.heap.size w W → Kd.C (Kd.int .i64) W A (Dig.dg x).length (Dig.dg x)) :
    Calls Tryd.prog 26 #[.slice A (Dig.dg x).length c] w fun e w' => e = .returned (.string (Go.strOfNums (pad t x))) ∧ Below w.heap.size w w' := by
  have hconv : ∀ (v : Int) (W : World), (convert 74 9 (.slice (some ⟨W.heap.size, 0, none⟩) 1 1)).run Tryd.prog (W.alloc (.cells #[.int .u8 v] 5)) = .ok (.string (Go.strOfNums [v])) (W.alloc (.cells #[.int .u8 v] 5)) := fun v W =>
    run_convert_bytes_arg _ _ 5 Tryd.underlying74 Tryd.underlying5 _ _ _ _ [v] rfl (fun i hi => by
      have hi' : i < 1 := hi
      obtain rfl : i = 0 := by omega
      rw [World.cell?_alloc_at _ _ _ _ rfl]
      rfl) _ Tryd.underlying9
  have hl := dg_ne x h0
  have hlb : (((Dig.dg x).length : Int) == 0) = false := by rw [beq_eq_false_iff_ne]; omega
  have HR := Lib.hid hr
  have HC := Lib.hid hc
  clear hr hc
  go_enter Tryd.func26, Tryd.ntmps26
  go_wp2_with fail
  go_loopw [0, 3] (fun n s wr => ∃ (j : Nat) (A : Option Addr) (c : Nat), j ≤ t ∧ n = .slice A (Dig.dg (x / 10 ^ j)).length c ∧ (Dig.dg (x / 10 ^ j)).length ≤ c ∧ (∀ W, Below wr.heap.size wr W → Kd.C (Kd.int .i64) W A (Dig.dg (x / 10 ^ j)).length (Dig.dg (x / 10 ^ j))) ∧ s = .string (Go.strOfNums (pad j x)) ∧ Below w.heap.size w wr) (fun _ s _ => 40 - strLen s)
  case atStart => exact ⟨0, A, c, Nat.zero_le _, by rw [Nat.pow_zero, Nat.div_one], by rw [Nat.pow_zero, Nat.div_one]; exact HC.out, by rw [Nat.pow_zero, Nat.div_one]; exact HR.out, rfl, Below.refl _ _⟩
  case round =>
    obtain ⟨j, A, c, hj, rfl, hc, hr, rfl, hb⟩ := hrel
    by_cases hz : x / 10 ^ j = 0
    · obtain rfl : j = t := by
        rcases Nat.lt_or_ge j t with h | h
        · exact absurd hz (ht.2 j h)
        · omega
      have hl0 : (Dig.dg (x / 10 ^ j)).length = 0 := by rw [hz, dg_zero]; rfl
      rw [hl0]
      have HB := Lib.hid hb
      clear hc hr hb
      go_wp2
      go_ret
      exact ⟨rfl, HB.out⟩
    · have hl1 : 0 < (Dig.dg (x / 10 ^ j)).length := Nat.pos_of_ne_zero (dg_ne _ hz)
      have hjt : j < t := digN_lt ht hz
      have hdl : x / 10 ^ j < 340282366920938463463374607431768211456 := Nat.lt_of_le_of_lt (Nat.div_le_self _ _) hx
      have hdiv := divided_law (x / 10 ^ j) 10 500 (by decide) (by decide) hdl (by decide) (by decide)
      have h10 : Dig.dg 10 = [10] := by decide +kernel
      rw [h10, Nat.div_div_eq_div_mul, ← Nat.pow_succ] at hdiv
      have HR := Lib.hid hr
      have HC := Lib.hid hc
      have HD := Lib.hid hdiv
      have HB := Lib.hid hb
      clear hc hr hb hdiv
      go_wp2_with fail
      obtain ⟨y1, y2, y3⟩ : (wr.alloc (.cells #[.int .i64 10] 3)).heap[wr.heap.size]? = some (.cells #[.int .i64 10] 3) ∧ Below wr.heap.size wr (wr.alloc (.cells #[.int .i64 10] 3)) ∧ (wr.alloc (.cells #[.int .i64 10] 3)).heap.size = wr.heap.size + 1 :=
        ⟨(MapKept.heap_alloc wr _).1, (Below.refl _ _).alloc (Nat.le_refl _) _, World.size_alloc _ _⟩
      have hc10 : Kd.C (Kd.int .i64) (wr.alloc (.cells #[.int .i64 10] 3)) (some ⟨wr.heap.size, 0, none⟩) [(10 : Int)].length [10] := dgRow y1
      refine (spec_Divided.calls 500 A c _ _ 1 [10] _ _ _ (HR.out _ y2) HC.out hc10 (Nat.le_refl _) HD.out).mono ?_
      rintro e w1 ⟨v0, v1, rfl, hv0, hv1, hb1⟩
      obtain ⟨A0, c0, rfl, hc0, hr0⟩ := dgV hv0
      obtain ⟨A1, c1, rfl, hc1, hr1⟩ := dgV hv1
      have HB1 := Lib.hid ((HB.out.trans (y2.mono HB.out.size)).trans (hb1.mono (Nat.le_trans HB.out.size y2.size)))
      have HR0 := Lib.hid hr0
      have HC0 := Lib.hid hc0
      have hC1 := hr1 w1 (Below.refl _ _)
      clear hv0 hv1 hb1 hc10 y1 y2 y3 hr0 hc0 hr1 HB
      by_cases hr : x / 10 ^ j % 10 = 0
      · have hl2 : (Dig.dg (x / 10 ^ j % 10)).length = 0 := by rw [hr, dg_zero]; rfl
        rw [hl2]
        clear hC1 hc1
        go_wp2_with fail
        case isTrue hh =>
          exfalso
          simp [Go.strOfNums_size, pad_len] at hh
          omega
        go_roundw
        case rel =>
          refine ⟨j + 1, A0, c0, hjt, rfl, HC0.out, fun W hW => HR0.out W (((Below.refl _ _).alloc (Nat.le_refl _) _).trans (hW.mono (by simp))) , ?_, ?_⟩
          · rw [str_cons, pad_succ, hr]
            rfl
          · exact HB1.out.alloc HB1.out.size _
        case measure =>
          simp only [strLen, ByteArray.size_append, Go.strOfNums_size, pad_len]
          simp
          omega
      · have e1 := dg_small _ hr (by omega)
        rw [e1] at hC1
        obtain ⟨q1, q2, q3⟩ := hC1
        obtain ⟨b, rfl, q4⟩ := q3 (by simp)
        obtain ⟨vs, q5, q6, q7⟩ := q4 0 _ rfl
        have hcell : w1.cell? b = some (.int .i64 ((x / 10 ^ j % 10 : Nat) : Int)) := by
          have h := q7 0 (.int .i64 ((x / 10 ^ j % 10 : Nat) : Int)) (by rw [q6]; rfl)
          rwa [show Addr.add b (0 * (Kd.int .i64).sz + 0) = b by simp [Addr.add]] at h
        clear q4 q5 q6 q7 vs q1 q2 q3
        rw [e1] at hc1 ⊢
        obtain ⟨dd, hdd⟩ : ∃ dd, x / 10 ^ j % 10 = dd := ⟨_, rfl⟩
        have hd9 : dd < 10 := by omega
        rw [hdd] at hcell ⊢
        have hw1 : wrap64 (48 + (dd : Int)) = 48 + (dd : Int) := by unfold wrap64; omega
        have hw2 : IntKind.u8.wrap (48 + (dd : Int)) = 48 + (dd : Int) := by rw [IntKind.wrap_u8]; omega
        have HDD := Lib.hid hdd
        clear hdd e1 hr
        go_wp2_with fail
        case isTrue hh =>
          exfalso
          simp [Go.strOfNums_size, pad_len] at hh
          omega
        refine ⟨⟨j + 1, A0, c0, hjt, rfl, HC0.out, fun W hW => HR0.out W (((Below.refl _ _).alloc (Nat.le_refl _) _).trans (hW.mono (by simp))), ?_, HB1.out.alloc HB1.out.size _⟩, ?_⟩
        · rw [str_cons, pad_succ, HDD.out]
          rfl
        · simp only [strLen, ByteArray.size_append, Go.strOfNums_size, pad_len]
          simp
          omega
set_option maxHeartbeats 1000000 in
set_option maxRecDepth 100000 in
theorem digits_zero (A : Option Addr) (c : Nat) (w : World) :
    Calls Tryd.prog 26 #[.slice A (Dig.dg 0).length c] w fun e w' => e = .returned (.string (Go.strOfNums [48])) ∧ Below w.heap.size w w' := by
  rw [dg_zero]
  go_enter Tryd.func26, Tryd.ntmps26
  go_wp2
  go_ret
  exact ⟨rfl, Below.refl _ _⟩
end Go.Proofs.YtiifnofghicnaaaDoor.PAll
