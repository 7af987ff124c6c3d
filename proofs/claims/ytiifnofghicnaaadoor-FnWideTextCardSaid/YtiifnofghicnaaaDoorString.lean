/- uint128's String: the decimal digits of a number of 128 bits. Walked by hand (the row of a constant's bytes bears a mark behind its last cell). -/
import Derived.Test.YtiifnofghicnaaaDoorDivLaw
import Derived.Test.YtiifnofghicnaaaDoorDigits
import Derived.Test.YtiifnofghicnaaaDoorQBase
import Derived.Test.YtiifnofghicnaaaDoorQAllx3
namespace Go.Proofs.YtiifnofghicnaaaDoor.PAll
open Go.RowKit Go.Proofs.YtiifnofghicnaaaDoorW.PrintWords Go.Proofs.YtiifnofghicnaaaDoorW.PrintLast Go.Proofs.YtiifnofghicnaaaDoorW.PrintMore
set_option linter.unusedVariables false
set_option linter.unusedSimpArgs false
theorem bz_cell {W : World} {g t : Nat} {cs : Array Value} {fr : Nat × Nat} (h : W.heap[g]? = some (.cells cs t fr)) (i : Nat) : W.cell? ⟨g, i, none⟩ = cs[i]? := cell_of_row W g i cs t fr h
theorem bz_frozen {W : World} {g t : Nat} {cs : Array Value} (h : W.heap[g]? = some (.cells cs t (40, 41))) (i : Nat) (hi : i < 40) : W.frozen? ⟨g, i, none⟩ = false := by
  simp [World.frozen?, h]
  omega
theorem bz_set {W : World} {g t : Nat} {cs : Array Value} {fr : Nat × Nat} (h : W.heap[g]? = some (.cells cs t fr)) (i : Nat) (u : Value) : (W.setCell ⟨g, i, none⟩ u).heap[g]? = some (.cells (cs.setIfInBounds i u) t fr) := by
  simp [World.setCell, Array.getElem?_modify, h]
theorem bz_far {W : World} {g : Nat} {o : Obj} (h : W.heap[g]? = some o) {p : Addr} (hp : g ≠ p.block) (u : Value) : (W.setCell p u).heap[g]? = some o := (Below.heap_setCell W p u g hp).trans h
theorem bz_on {W W' : World} {g : Nat} {o : Obj} (h : W.heap[g]? = some o) (h' : Below W.heap.size W W') : W'.heap[g]? = some o := (h'.block _ (blk_lt h)).trans h
/-- The two halves of a number as cells. -/
def duo (u : Nat) : Array Value := #[.int .u64 ((u % 18446744073709551616 : Nat) : Int), .int .u64 ((u / 18446744073709551616 : Nat) : Int)]
def row40 (y : Nat) : Array Value := ((pad 40 y).map (Value.int .u8)).toArray
theorem qr_n (u k : Nat) (hu : u < 340282366920938463463374607431768211456) :
    uint128_Uint128_QuoRem64.f (k + 12) ((u % 18446744073709551616 : Nat) : Int) ((u / 18446744073709551616 : Nat) : Int) 10000000000000000000 = some (((u / 10000000000000000000 % 18446744073709551616 : Nat) : Int), ((u / 10000000000000000000 / 18446744073709551616 : Nat) : Int), ((u % 10000000000000000000 : Nat) : Int)) := by
  have h := quorem64_law k (u % 18446744073709551616) (u / 18446744073709551616) 10000000000000000000 (by omega) (by omega) (by decide) (by decide)
  rw [show u / 18446744073709551616 * 18446744073709551616 + u % 18446744073709551616 = u by omega] at h
  exact h
theorem row40_get (y j : Nat) (h : j < 40) : (row40 y)[j]? = some (.int .u8 ((48 + y / 10 ^ (39 - j) % 10 : Nat) : Int)) := by
  unfold row40
  rw [List.getElem?_toArray, List.getElem?_map, pad_get _ _ _ h]
  rfl
theorem row40_set (y e d j : Nat) (he : e < 40) (hy : y < 10 ^ e) (hd : d < 10) (hj : j = 39 - e) : (row40 y).setIfInBounds j (.int .u8 ((48 + d : Nat) : Int)) = row40 (y + d * 10 ^ e) := by
  subst hj
  exact pad_set y e d he hy hd
theorem mid_dig (u k n : Nat) (h : k < n) : u % 10 ^ n / 10 ^ k % 10 = u / 10 ^ k % 10 := by
  obtain ⟨c, rfl⟩ : ∃ c, n = k + 1 + c := ⟨n - (k + 1), by omega⟩
  have e : u = u % 10 ^ (k + 1 + c) + 10 ^ k * (10 * (10 ^ c * (u / 10 ^ (k + 1 + c)))) := by
    have h1 := Nat.mod_add_div u (10 ^ (k + 1 + c))
    have h2 : ∀ P : Nat, 10 ^ (k + 1 + c) * P = 10 ^ k * (10 * (10 ^ c * P)) := by
      intro P
      rw [Nat.pow_add, Nat.pow_succ]
      ac_rfl
    rw [h2] at h1
    omega
  generalize u % 10 ^ (k + 1 + c) = a at e ⊢
  generalize 10 ^ c * (u / 10 ^ (k + 1 + c)) = q at e
  rw [e, Nat.add_mul_div_left _ _ (Nat.pos_of_ne_zero (by simp)), Nat.add_mul_mod_self_left]
theorem slice_low (W : World) (g l n : Nat) (hl : l < n) : (Instr.slice 74 (.slice (some ⟨g, 0, none⟩) n n) (some (.int .i64 (l : Int))) none none).run Tryd.prog W = .ok (.slice (some ⟨g, l, none⟩) (n - l) (n - l)) W := by
  have ht := Tryd.underlying74
  have ht' : Tryd.prog.underlying 74 = some (.slice (Tryd.prog.elem 74)) := by simp [Program.elem, ht]
  have he : Tryd.prog.elem 74 = 5 := by simp [Program.elem, ht]
  rw [run_slice_l W _ _ _ _ ht' .i64 _ (by omega) (by omega), he, Tryd.sizeOf5]
  have hne : ¬ n = l := by omega
  by_cases h0 : l = 0
  · subst h0
    simp [Result.andThen, sliced, Addr.add, hne]
  · simp [Result.andThen, sliced, Addr.add, hne, h0]
theorem row40_conv (W : World) (g t x ty : Nat) (hh : W.heap[g]? = some (.cells (row40 x) ty (40, 41))) (h40 : t ≤ 40) :
    (convert 74 9 (.slice (some ⟨g, 40 - t, none⟩) t t)).run Tryd.prog W = .ok (.string (Go.strOfNums (pad t x))) W :=
  run_convert_bytes_arg _ _ 5 Tryd.underlying74 Tryd.underlying5 _ _ _ _ (pad t x) (pad_len _ _) (fun i hi => by
    rw [bz_cell hh, row40_get _ _ (by omega), List.getD_eq_getElem?_getD, pad_get _ _ _ hi, show 39 - (40 - t + i) = t - 1 - i by omega]
    rfl) _ Tryd.underlying9
theorem ten19 : (10 : Nat) ^ 19 = 10000000000000000000 := by decide
set_option maxHeartbeats 4000000 in
set_option maxRecDepth 100000 in
theorem string_walk (a b x t : Nat) (ha : a < 18446744073709551616) (hb : b < 18446744073709551616) (hx : x = a + b * 18446744073709551616) (h0 : x ≠ 0) (ht : DigN t x) (w : World) :
    Calls Tryd.prog 51 #[.agg #[.int .u64 (a : Int), .int .u64 (b : Int)]] w fun e w' => e = .returned (.string (Go.strOfNums (pad t x))) ∧ Below w.heap.size w w' := by
  have hrep : Array.replicate 40 (Value.int .u8 48) = #[.int .u8 48, .int .u8 48, .int .u8 48, .int .u8 48, .int .u8 48, .int .u8 48, .int .u8 48, .int .u8 48, .int .u8 48, .int .u8 48, .int .u8 48, .int .u8 48, .int .u8 48, .int .u8 48, .int .u8 48, .int .u8 48, .int .u8 48, .int .u8 48, .int .u8 48, .int .u8 48, .int .u8 48, .int .u8 48, .int .u8 48, .int .u8 48, .int .u8 48, .int .u8 48, .int .u8 48, .int .u8 48, .int .u8 48, .int .u8 48, .int .u8 48, .int .u8 48, .int .u8 48, .int .u8 48, .int .u8 48, .int .u8 48, .int .u8 48, .int .u8 48, .int .u8 48, .int .u8 48] := by kernel_rfl
  have hrow : Array.replicate 40 (Value.int .u8 48) = row40 0 := by
    unfold row40
    rw [pad_zero]
    rfl
  have hcv : ∀ W : World, (convert 74 74 (.slice (some ⟨W.heap.size, 0, none⟩) 40 40)).run Tryd.prog (W.alloc (.cells #[.int .u8 48, .int .u8 48, .int .u8 48, .int .u8 48, .int .u8 48, .int .u8 48, .int .u8 48, .int .u8 48, .int .u8 48, .int .u8 48, .int .u8 48, .int .u8 48, .int .u8 48, .int .u8 48, .int .u8 48, .int .u8 48, .int .u8 48, .int .u8 48, .int .u8 48, .int .u8 48, .int .u8 48, .int .u8 48, .int .u8 48, .int .u8 48, .int .u8 48, .int .u8 48, .int .u8 48, .int .u8 48, .int .u8 48, .int .u8 48, .int .u8 48, .int .u8 48, .int .u8 48, .int .u8 48, .int .u8 48, .int .u8 48, .int .u8 48, .int .u8 48, .int .u8 48, .int .u8 48] 5)) = .ok (.slice (some ⟨W.heap.size, 0, none⟩) 40 40) (W.alloc (.cells (row40 0) 5 (40, 41))) := by
    intro W
    have h := Lib.run_convert_bytes_const (P := Tryd.prog) W 74 5 (Array.replicate 40 (.int .u8 48)) 40 40 Tryd.underlying74 Tryd.underlying5
    rw [Array.size_replicate, hrep] at h
    rw [← hrow, hrep]
    exact h
  have hdu : #[Value.int .u64 (a : Int), .int .u64 (b : Int)] = duo x := by
    unfold duo
    rw [hx, show (a + b * 18446744073709551616) % 18446744073709551616 = a by omega, show (a + b * 18446744073709551616) / 18446744073709551616 = b by omega]
  have hxl : x < 340282366920938463463374607431768211456 := by omega
  have ht39 : ∀ i, x / 10 ^ i ≠ 0 → i ≤ 38 := by
    intro i hi
    rcases Nat.lt_or_ge 38 i with h | h
    · exfalso
      apply hi
      have hp : 10 ^ 39 ≤ 10 ^ i := Nat.pow_le_pow_right (by decide) h
      exact Nat.div_eq_of_lt (by omega)
    · exact h
  have hz : uint128_Uint128_IsZero.f (a : Int) (b : Int) = some false := by
    unfold uint128_Uint128_IsZero.f
    rw [Option.some_inj, Bool.and_eq_false_iff, beq_eq_false_iff_ne, beq_eq_false_iff_ne]
    omega
  have HZ := Lib.hid hz
  have HT := Lib.hid ht
  have HDU := Lib.hid hdu
  clear hz ht hdu hrow hrep hx
  go_enter Tryd.func51, Tryd.ntmps51
  go_wp2_with fail
  refine (uint128_Uint128_IsZero.calls _ _ _ _ HZ.out).mono ?_
  rintro e w1 ⟨rfl, hb1⟩
  obtain ⟨x1, x2, x3⟩ : (w.alloc (.cells #[.int .u64 (a : Int), .int .u64 (b : Int)] 65)).heap[w.heap.size]? = some (.cells (duo x) 65) ∧ Below w.heap.size w (w.alloc (.cells #[.int .u64 (a : Int), .int .u64 (b : Int)] 65)) ∧ (w.alloc (.cells #[.int .u64 (a : Int), .int .u64 (b : Int)] 65)).heap.size = w.heap.size + 1 :=
    ⟨HDU.out ▸ (MapKept.heap_alloc w _).1, (Below.refl _ _).alloc (Nat.le_refl _) _, World.size_alloc _ _⟩
  have k1 := bz_on x1 hb1
  have B1 : Below w.heap.size w w1 := x2.trans (hb1.mono x2.size)
  have ls : w.heap.size < w1.heap.size := Nat.lt_of_lt_of_le (by rw [x3]; exact Nat.lt_succ_self _) hb1.size
  clear x1 x2 x3 hb1
  have E1 := Lib.hid (And.intro k1 B1)
  clear k1 B1
  go_wp2_with fail
  go_loopw [4] (fun i wr => ∃ m : Nat, x / 10 ^ (19 * m) ≠ 0 ∧ i = .int .i64 ((40 - 19 * m : Nat) : Int) ∧ wr.heap[w.heap.size]? = some (.cells (duo (x / 10 ^ (19 * m))) 65 (0, 0)) ∧
      wr.heap[w1.heap.size]? = some (.cells (row40 (x % 10 ^ (19 * m))) 5 (40, 41)) ∧ Below w.heap.size w wr) (fun i _ => (intOf i).toNat)
  case atStart =>
    obtain ⟨k1, B1⟩ := id E1
    refine ⟨0, by rw [Nat.mul_zero, Nat.pow_zero, Nat.div_one]; exact h0, rfl, ?_, by rw [Nat.mul_zero, Nat.pow_zero, Nat.mod_one]; exact (MapKept.heap_alloc w1 _).1, B1.alloc B1.size _⟩
    rw [Nat.mul_zero, Nat.pow_zero, Nat.div_one]
    exact blk_alloc k1 _
  case round =>
    obtain ⟨m, hm0, rfl, hbox, hbuf, hb⟩ := hrel
    have hm2 := ht39 _ hm0
    obtain ⟨u, hu⟩ : ∃ u, x / 10 ^ (19 * m) = u := ⟨_, rfl⟩
    have hul : u < 340282366920938463463374607431768211456 := by rw [← hu]; exact Nat.lt_of_le_of_lt (Nat.div_le_self _ _) hxl
    rw [hu] at hbox hm0
    have c0 : wr.cell? ⟨w.heap.size, 0, none⟩ = some (.int .u64 ((u % 18446744073709551616 : Nat) : Int)) := (bz_cell hbox 0).trans rfl
    have c1 : wr.cell? ⟨w.heap.size, 1, none⟩ = some (.int .u64 ((u / 18446744073709551616 : Nat) : Int)) := (bz_cell hbox 1).trans rfl
    have QR := Lib.hid (qr_n u 0 hul)
    have E2 := Lib.hid (And.intro hbox (And.intro hbuf (And.intro hb hu)))
    clear hbox hbuf hb hu
    go_wp2_with fail
    refine (uint128_Uint128_QuoRem64.calls 12 _ _ _ _ _ _ _ QR.out).mono ?_
    rintro e w2 ⟨rfl, hb2⟩
    obtain ⟨hbox, hbuf, hb, hu⟩ := id E2
    have E3 := Lib.hid (And.intro (bz_on hbox hb2) (And.intro (bz_on hbuf hb2) (And.intro (hb.trans (hb2.mono hb.size)) (And.intro hu (And.intro (Nat.lt_of_lt_of_le (blk_lt hbuf) hb2.size) (blk_lt hbox))))))
    clear hbox hbuf hb hu hb2 c0 c1 QR E2
    obtain ⟨r0, hr0⟩ : ∃ r0, u % 10000000000000000000 = r0 := ⟨_, rfl⟩
    rw [hr0]
    have HR0 := Lib.hid hr0
    clear hr0
    go_wp2_with fail
    go_loopw [6, 7] (fun r n wr => ∃ k : Nat, k ≤ 19 ∧ r = .int .u64 ((r0 / 10 ^ k : Nat) : Int) ∧ n = .int .i64 (k : Int) ∧ (∀ i, i < k → r0 / 10 ^ i ≠ 0) ∧ wr.heap[w.heap.size]? = some (.cells (duo u) 65 (0, 0)) ∧
      wr.heap[w1.heap.size]? = some (.cells (row40 (x % 10 ^ (19 * m + k))) 5 (40, 41)) ∧ wr.heap[w2.heap.size]? = some (.cells (duo (u / 10000000000000000000)) 65 (0, 0)) ∧ Below w.heap.size w wr) (fun r _ _ => (intOf r).toNat)
    case atStart =>
      obtain ⟨hbox, hbuf, hb, hu, l1, l2⟩ := id E3
      refine ⟨0, Nat.zero_le _, by rw [Nat.pow_zero, Nat.div_one], rfl, fun i h => absurd h (Nat.not_lt_zero _), blk_alloc hbox _, blk_alloc hbuf _, (MapKept.heap_alloc w2 _).1, hb.alloc hb.size _⟩
    case round =>
      obtain ⟨k, hk, rfl, rfl, hnz, hbox, hbuf, hq, hb⟩ := hrel
      obtain ⟨_, _, _, hu, l1, l2⟩ := id E3
      by_cases hrz : r0 / 10 ^ k = 0
      · rw [hrz]
        have hr9 : r0 < 10 ^ k := (Nat.div_eq_zero_iff_lt (Nat.pos_of_ne_zero (by simp))).1 hrz
        obtain ⟨v, hv⟩ : ∃ v, u / 10000000000000000000 = v := ⟨_, rfl⟩
        rw [hv] at hq
        have c2 : wr.cell? ⟨w2.heap.size, 0, none⟩ = some (.int .u64 ((v % 18446744073709551616 : Nat) : Int)) := (bz_cell hq 0).trans rfl
        have c3 : wr.cell? ⟨w2.heap.size, 1, none⟩ = some (.int .u64 ((v / 18446744073709551616 : Nat) : Int)) := (bz_cell hq 1).trans rfl
        have E4 := Lib.hid (And.intro hbox (And.intro hbuf (And.intro hq (And.intro hb (And.intro hnz (And.intro hu (And.intro hv hrz)))))))
        clear hbox hbuf hq hb hnz hu hv hrz
        by_cases hv0 : v = 0
        · subst hv0
          have hzz : uint128_Uint128_IsZero.f 0 0 = some true := rfl
          have HZZ := Lib.hid hzz
          clear hzz
          go_wp2_with fail
          refine (uint128_Uint128_IsZero.calls _ _ _ _ HZZ.out).mono ?_
          rintro e w3 ⟨rfl, hb3⟩
          obtain ⟨hbox, hbuf, hq, hb, hnz, hu, hv, hrz⟩ := id E4
          have hbuf3 := bz_on hbuf hb3
          have HB3 := Lib.hid (hb.trans (hb3.mono hb.size))
          have hur : u = r0 := by
            have h1 := Nat.div_add_mod u 10000000000000000000
            rw [hv, HR0.out] at h1
            omega
          have hxk : x / 10 ^ (19 * m + k) = 0 := by
            rw [Nat.pow_add, ← Nat.div_div_eq_div_mul, hu, hur]
            exact hrz
          have hk1 : ∃ k', k = k' + 1 := by
            cases k with
            | zero =>
              exfalso
              rw [Nat.pow_zero, Nat.div_one] at hrz
              omega
            | succ k' => exact ⟨k', rfl⟩
          obtain ⟨k', rfl⟩ := hk1
          have hlow : x / 10 ^ (19 * m + k') ≠ 0 := by
            rw [Nat.pow_add, ← Nat.div_div_eq_div_mul, hu, hur]
            exact hnz k' (Nat.lt_succ_self _)
          have htk : t = 19 * m + (k' + 1) := by
            have h1 := digN_lt HT.out hlow
            rcases Nat.lt_or_ge (19 * m + (k' + 1)) t with h | h
            · exact absurd hxk (HT.out.2 _ h)
            · omega
          have ht38 := ht39 _ hlow
          rw [Nat.mod_eq_of_lt ((Nat.div_eq_zero_iff_lt (Nat.pos_of_ne_zero (by simp))).1 hxk)] at hbuf3
          have hcv2 : (convert 74 9 (.slice (some ⟨w1.heap.size, 40 - 19 * m - (k' + 1), none⟩) (40 - (40 - 19 * m - (k' + 1))) (40 - (40 - 19 * m - (k' + 1))))).run Tryd.prog w3 = .ok (.string (Go.strOfNums (pad t x))) w3 := by
            rw [show 40 - 19 * m - (k' + 1) = 40 - t by omega, show 40 - (40 - t) = t by omega]
            exact row40_conv w3 _ t x _ hbuf3 (by omega)
          clear hbox hbuf hq hb hnz hu hv hrz hbuf3 hlow hxk hur E4 c2 c3 hb3
          go_wp2_with fail
          go_ret
          exact ⟨by rw [htk]; rfl, HB3.out⟩
        · have hzz : uint128_Uint128_IsZero.f ((v % 18446744073709551616 : Nat) : Int) ((v / 18446744073709551616 : Nat) : Int) = some false := by
            unfold uint128_Uint128_IsZero.f
            rw [Option.some_inj, Bool.and_eq_false_iff, beq_eq_false_iff_ne, beq_eq_false_iff_ne]
            omega
          have HZZ := Lib.hid hzz
          clear hzz
          go_wp2_with fail
          refine (uint128_Uint128_IsZero.calls _ _ _ _ HZZ.out).mono ?_
          rintro e w3 ⟨rfl, hb3⟩
          obtain ⟨hbox, hbuf, hq, hb, hnz, hu, hv, hrz⟩ := id E4
          have d2 : w3.cell? ⟨w2.heap.size, 0, none⟩ = some (.int .u64 ((v % 18446744073709551616 : Nat) : Int)) := (bz_cell (bz_on hq hb3) 0).trans rfl
          have d3 : w3.cell? ⟨w2.heap.size, 1, none⟩ = some (.int .u64 ((v / 18446744073709551616 : Nat) : Int)) := (bz_cell (bz_on hq hb3) 1).trans rfl
          have e2 : w3.cell? ⟨w.heap.size, 0, none⟩ = some (.int .u64 ((u % 18446744073709551616 : Nat) : Int)) := (bz_cell (bz_on hbox hb3) 0).trans rfl
          have e3 : w3.cell? ⟨w.heap.size, 1, none⟩ = some (.int .u64 ((u / 18446744073709551616 : Nat) : Int)) := (bz_cell (bz_on hbox hb3) 1).trans rfl
          have z2 : w3.frozen? ⟨w.heap.size, 0, none⟩ = false := blk_frozen (bz_on hbox hb3) 0
          have z3 : w3.frozen? ⟨w.heap.size, 1, none⟩ = false := blk_frozen (bz_on hbox hb3) 1
          clear hbox hbuf hq hb hnz hu hv hrz c2 c3
          go_wp2_with fail
          obtain ⟨hbox, hbuf, hq, hb, hnz, hu, hv, hrz⟩ := id E4
          have hx1 : x / 10 ^ (19 * (m + 1)) = v := by rw [Nat.mul_succ, Nat.pow_add, ← Nat.div_div_eq_div_mul, hu, ten19, hv]
          have hm38 := ht39 (19 * (m + 1)) (by rw [hx1]; exact hv0)
          refine ⟨⟨m + 1, by rw [hx1]; exact hv0, ?_, ?_, ?_, ?_⟩, ?_⟩
          · exact congrArg (Value.int .i64) (by omega)
          · rw [hx1]
            have h := blk_put (blk_set (bz_on hbox hb3) 0 (.int .u64 ((v % 18446744073709551616 : Nat) : Int))) 1 (.int .u64 ((v / 18446744073709551616 : Nat) : Int)) rfl
            exact h
          · have hr9 : r0 < 10 ^ k := (Nat.div_eq_zero_iff_lt (Nat.pos_of_ne_zero (by simp))).1 hrz
            have h1 : x % 10 ^ (19 * (m + 1)) = x % 10 ^ (19 * m + k) := by
              rw [Nat.mul_succ, Nat.pow_add, Nat.mod_mul, hu, ten19, HR0.out, Nat.pow_add, Nat.mod_mul, hu]
              obtain ⟨d, hd⟩ : ∃ d, 19 = k + d := ⟨19 - k, by omega⟩
              have h2 : u % 10 ^ k = r0 := by
                have h3 : u % 10 ^ k = u % 10 ^ 19 % 10 ^ k := by rw [hd, Nat.pow_add, Nat.mod_mul_right_mod]
                rw [h3, ten19, HR0.out, Nat.mod_eq_of_lt hr9]
              rw [h2]
            rw [h1]
            exact bz_far (bz_far (bz_on hbuf hb3) (p := ⟨w.heap.size, 0, none⟩) (Nat.ne_of_gt ls) _) (p := ⟨w.heap.size, 1, none⟩) (Nat.ne_of_gt ls) _
          · exact ((hb.trans (hb3.mono hb.size)).setCell (p := ⟨w.heap.size, 0, none⟩) (Nat.le_refl _) _).setCell (p := ⟨w.heap.size, 1, none⟩) (Nat.le_refl _) _
          · simp only [intOf]
            omega
      · have hu2 : x / 10 ^ (19 * m + k) = u / 10 ^ k := by rw [Nat.pow_add, ← Nat.div_div_eq_div_mul, hu]
        have hr9 : r0 < 10 ^ 19 := by rw [← HR0.out, ten19]; exact Nat.mod_lt _ (by decide)
        have hk18 : k < 19 := by
          rcases Nat.lt_or_ge k 19 with h | h
          · exact h
          · exfalso
            have hp : 10 ^ 19 ≤ 10 ^ k := Nat.pow_le_pow_right (by decide) h
            exact hrz (Nat.div_eq_of_lt (by omega))
        have hx1 : x / 10 ^ (19 * m + k) ≠ 0 := by
          rw [hu2]
          exact Nat.ne_of_gt (Nat.lt_of_lt_of_le (Nat.pos_of_ne_zero hrz) (Nat.div_le_div_right (by rw [← HR0.out]; exact Nat.mod_le _ _)))
        have hk38 := ht39 _ hx1
        have hd : r0 / 10 ^ k % 10 = x / 10 ^ (19 * m + k) % 10 := by rw [hu2, ← HR0.out, ← ten19, mid_dig _ _ _ hk18]
        obtain ⟨rr, hrr⟩ : ∃ rr, r0 / 10 ^ k = rr := ⟨_, rfl⟩
        rw [hrr] at hrz hd ⊢
        have hcell : wr.cell? ⟨w1.heap.size, 40 - 19 * m - (k + 1), none⟩ = some (.int .u8 48) := by
          rw [bz_cell hbuf, row40_get _ _ (by omega), show 39 - (40 - 19 * m - (k + 1)) = 19 * m + k by omega, Nat.div_eq_of_lt (Nat.mod_lt _ (Nat.pos_of_ne_zero (by simp)))]
          rfl
        have hfr := bz_frozen hbuf (40 - 19 * m - (k + 1)) (by omega)
        have E4 := Lib.hid (And.intro hbox (And.intro hbuf (And.intro hq (And.intro hb (And.intro hnz (And.intro hu hrr))))))
        clear hbox hbuf hq hb hnz hu hrr
        go_wp2_with fail
        obtain ⟨hbox, hbuf, hq, hb, hnz, hu, hrr⟩ := id E4
        have hrs : rr < 18446744073709551616 := by
          have h1 := Nat.div_le_self r0 (10 ^ k)
          rw [ten19] at hr9
          omega
        have hw : IntKind.u64.wrap ((rr : Int) / 10) = ((rr / 10 : Nat) : Int) := by rw [IntKind.wrap_u64]; omega
        rw [hw]
        refine ⟨⟨k + 1, hk18, ?_, by rw [Int.natCast_add]; rfl, ?_, bz_far hbox (Nat.ne_of_lt ls) _, ?_, bz_far hq (Nat.ne_of_gt l1) _, hb.setCell (p := ⟨w1.heap.size, _, none⟩) (Nat.le_of_lt ls) _⟩, ?_⟩
        · rw [Nat.pow_succ, ← Nat.div_div_eq_div_mul, hrr]
        · intro i hi
          rcases Nat.lt_or_ge i k with h | h
          · exact hnz i h
          · obtain rfl : i = k := by omega
            rw [hrr]
            exact hrz
        · have h := bz_set hbuf (40 - 19 * m - (k + 1)) (.int .u8 ((48 + rr % 10 : Nat) : Int))
          rw [row40_set _ (19 * m + k) _ _ (by omega) (Nat.mod_lt _ (Nat.pos_of_ne_zero (by simp))) (Nat.mod_lt _ (by decide)) (by omega)] at h
          have e5 : x % 10 ^ (19 * m + (k + 1)) = x % 10 ^ (19 * m + k) + rr % 10 * 10 ^ (19 * m + k) := by rw [← Nat.add_assoc, mod_step, hd]
          have e6 : 48 + (rr : Int) % 10 = ((48 + rr % 10 : Nat) : Int) := by omega
          rw [e5, e6]
          exact h
        · simp only [intOf, Int.toNat_natCast]
          omega
end Go.Proofs.YtiifnofghicnaaaDoor.PAll
