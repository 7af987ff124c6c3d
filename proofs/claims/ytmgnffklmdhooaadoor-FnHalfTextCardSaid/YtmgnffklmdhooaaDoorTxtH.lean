/- TxtH: HtAll, HtLawE, HtLaw, HtFin, HtRow. -/
import Derived.Test.YtmgnffklmdhooaaDoorTxtQ0
import Derived.Test.YtmgnffklmdhooaaDoorTxtQ1
import Derived.Test.YtmgnffklmdhooaaDoorTxtQ2
import Derived.Test.YtmgnffklmdhooaaDoorTxtQ3
import Derived.Test.YtmgnffklmdhooaaDoorTxtG
import Derived.Test.YtmgnffklmdhooaaDoorTxtA
import Derived.Test.YtmgnffklmdhooaaDoorRows
import Derived.LaidLaws
import Derived.MakeChecks
import Derived.LaidHandle
import Derived.Lib.LaidTab
import Derived.Lib.SmallJoins
namespace Go.Proofs.YtmgnffklmdhooaaDoor.PAll
set_option maxRecDepth 100000
theorem half_all (h : Nat) (h0 : 0 < h) (hh : h < 31744) : halfB h = true := by
  have hc : halfC h = true := by
    by_cases g0 : h < 1024
    · exact allB_at c0 h (by omega) (by omega)
    by_cases g1 : h < 2048
    · exact allB_at c1 h (by omega) (by omega)
    by_cases g2 : h < 3072
    · exact allB_at c2 h (by omega) (by omega)
    by_cases g3 : h < 4096
    · exact allB_at c3 h (by omega) (by omega)
    by_cases g4 : h < 5120
    · exact allB_at c4 h (by omega) (by omega)
    by_cases g5 : h < 6144
    · exact allB_at c5 h (by omega) (by omega)
    by_cases g6 : h < 7168
    · exact allB_at c6 h (by omega) (by omega)
    by_cases g7 : h < 8192
    · exact allB_at c7 h (by omega) (by omega)
    by_cases g8 : h < 9216
    · exact allB_at c8 h (by omega) (by omega)
    by_cases g9 : h < 10240
    · exact allB_at c9 h (by omega) (by omega)
    by_cases g10 : h < 11264
    · exact allB_at c10 h (by omega) (by omega)
    by_cases g11 : h < 12288
    · exact allB_at c11 h (by omega) (by omega)
    by_cases g12 : h < 13312
    · exact allB_at c12 h (by omega) (by omega)
    by_cases g13 : h < 14336
    · exact allB_at c13 h (by omega) (by omega)
    by_cases g14 : h < 15360
    · exact allB_at c14 h (by omega) (by omega)
    by_cases g15 : h < 16384
    · exact allB_at c15 h (by omega) (by omega)
    by_cases g16 : h < 17408
    · exact allB_at c16 h (by omega) (by omega)
    by_cases g17 : h < 18432
    · exact allB_at c17 h (by omega) (by omega)
    by_cases g18 : h < 19456
    · exact allB_at c18 h (by omega) (by omega)
    by_cases g19 : h < 20480
    · exact allB_at c19 h (by omega) (by omega)
    by_cases g20 : h < 21504
    · exact allB_at c20 h (by omega) (by omega)
    by_cases g21 : h < 22528
    · exact allB_at c21 h (by omega) (by omega)
    by_cases g22 : h < 23552
    · exact allB_at c22 h (by omega) (by omega)
    by_cases g23 : h < 24576
    · exact allB_at c23 h (by omega) (by omega)
    by_cases g24 : h < 25600
    · exact allB_at c24 h (by omega) (by omega)
    by_cases g25 : h < 26624
    · exact allB_at c25 h (by omega) (by omega)
    by_cases g26 : h < 27648
    · exact allB_at c26 h (by omega) (by omega)
    by_cases g27 : h < 28672
    · exact allB_at c27 h (by omega) (by omega)
    by_cases g28 : h < 29696
    · exact allB_at c28 h (by omega) (by omega)
    by_cases g29 : h < 30720
    · exact allB_at c29 h (by omega) (by omega)
    by_cases g30 : h < 31744
    · exact allB_at c30 h (by omega) (by omega)
    omega
  unfold halfC at hc
  rw [Bool.or_eq_true] at hc
  rcases hc with hc | hc
  · exact absurd (Nat.eq_of_beq_eq_true hc) (by omega)
  · exact hc
end Go.Proofs.YtmgnffklmdhooaaDoor.PAll
namespace Go.Proofs.YtmgnffklmdhooaaDoor.PAll
open Go.RowKit Go.Proofs.YtmgnffklmdhooaaDoorW.PrintWords Go.Proofs.YtmgnffklmdhooaaDoorW.PrintLast Go.Proofs.YtmgnffklmdhooaaDoorW.PrintMore
set_option linter.unusedVariables false
set_option linter.unusedSimpArgs false
section
variable {P : Program} {ρ : Operand → Value} {o : Oper} {W : World}
theorem op_seq {t t2 : TypeId} {x y : Operand} {a b : ByteArray} {r : Bool} (ho : o.op = .binOp .eql t x y t2) (hx : ρ x = .string a) (hy : ρ y = .string b) (h : (a.data.toList == b.data.toList) = r) : (execOp ρ o).run P W = .ok (.value (.bool r)) W := by
  rw [← ByteArray.toList_eq, ← ByteArray.toList_eq] at h
  unfold execOp
  rw [ho]
  simp [go_sem, binOp, Op.stringOp, hx, hy, h]
theorem op_sidx {t : TypeId} {x : Operand} {c : Nat} {l : List Int} (ho : o.op = .index t x (.const (.int .i64 0))) (hx : ρ x = .string (Go.strOfNums ((c : Int) :: l))) (hi : ρ (.const (.int .i64 0)) = .int .i64 0) (ht : P.underlying t = some .string) (hc : c < 256) : (execOp ρ o).run P W = .ok (.value (.int .u8 (c : Int))) W := by
  have h1 : (Go.strOfNums ((c : Int) :: l))[(0 : Nat)]? = some (UInt8.ofNat c) := by
    show (if h : 0 < (Go.strOfNums ((c : Int) :: l)).size then some ((Go.strOfNums ((c : Int) :: l))[0]'h) else none) = _
    rw [dif_pos (by rw [Go.strOfNums_size]; simp)]
    rfl
  have h2 : ((UInt8.ofNat c).toNat : Int) = c := by simp [UInt8.toNat_ofNat']; omega
  unfold execOp
  rw [ho]
  have h3 : (c : Int) % 256 = c := by omega
  simp [go_sem, Instr.index, hx, hi, und ht, h1, h2, h3]
theorem op_ssl {t : TypeId} {x : Operand} {c : Int} {l : List Int} (ho : o.op = .slice t x (some (.const (.int .i64 1))) none none) (hx : ρ x = .string (Go.strOfNums (c :: l))) (hi : ρ (.const (.int .i64 1)) = .int .i64 1) (ht : P.underlying t = some .string) : (execOp ρ o).run P W = .ok (.value (.string (Go.strOfNums l))) W := by
  have h1 : (Go.strOfNums (c :: l)).extract 1 (l.length + 1) = Go.strOfNums l := by
    apply ByteArray.ext
    rw [ByteArray.data_extract]
    apply Array.toList_inj.1
    have : List.take l.length (List.map (fun n : Int => UInt8.ofNat n.toNat) l) = List.map (fun n => UInt8.ofNat n.toNat) l := List.take_of_length_le (by simp)
    simp [Go.strOfNums, this]
  have h2 : (Go.strOfNums (c :: l)).size = l.length + 1 := by rw [Go.strOfNums_size]; simp
  unfold execOp
  rw [ho]
  have h3 : ¬ ((l.length : Int) + 1 < 1) := by omega
  simp [go_sem, Instr.sliceAt, Instr.slice, hx, hi, und ht, h1, h2, h3]
end
end Go.Proofs.YtmgnffklmdhooaaDoor.PAll
namespace Go.Proofs.YtmgnffklmdhooaaDoor.PAll
open Go.RowKit Go.Proofs.YtmgnffklmdhooaaDoorW.PrintWords Go.Proofs.YtmgnffklmdhooaaDoorW.PrintLast Go.Proofs.YtmgnffklmdhooaaDoorW.PrintMore
set_option linter.unusedVariables false
set_option linter.unusedSimpArgs false
theorem sh15 (h s : Nat) (hs : h / 32768 = s) : (((h : Nat) : Int) / 32768) = ((s : Nat) : Int) := by omega
theorem and15 (h : Nat) (hh : h < 65536) : Go.bits .and .u16 ↑h 32767 = ((h % 32768 : Nat) : Int) := l16_32767 h hh
theorem eq_zero (x : Nat) (h : x = 0) : (((x : Nat) : Int) == 0) = true := beq_iff_eq.mpr (by omega)
theorem ne_zero (x : Nat) (h : x ≠ 0) : (((x : Nat) : Int) == 0) = false := beq_eq_false_iff_ne.mpr (by omega)
theorem str_ne (c : Int) (l : List Int) : ((Go.strOfNums (c :: l)).data.toList == (⟨#[]⟩ : ByteArray).data.toList) = false := by
  rw [Go.strOfNums_data]
  rfl
theorem kind_nan (h : Nat) (hh : h < 65536) (hn : 31744 < h % 32768) : spec_HalfKind.f (h : Int) = some 2 := by
  rw [kindH h hh, if_pos (by omega), if_neg (by omega)]
theorem kind_inf (h : Nat) (hh : h < 65536) (hn : h % 32768 = 31744) : spec_HalfKind.f (h : Int) = some 1 := by
  rw [kindH h hh, if_pos (by omega), if_pos (by omega)]
theorem kind_fin (h : Nat) (hh : h < 65536) (hn : h % 32768 < 31744) : spec_HalfKind.f (h : Int) = some 0 := by
  rw [kindH h hh, if_neg (by omega)]
set_option maxHeartbeats 8000000 in
set_option maxRecDepth 100000 in
theorem law_nan (h : Nat) (hh : h < 65536) (hq : 31744 < h % 32768) (hn : (2139095040 < HN.t32 h ∧ HN.t32 h < 2147483648) ∨ (4286578688 < HN.t32 h ∧ HN.t32 h < 4294967296)) (w : World) (HZ : GlobP w) :
    Calls Tryd.prog 3 #[.int .u16 (h : Int)] w fun e w' => e = .returned (.bool true) ∧ Below w.heap.size w w' := by
  refine calls_of_wp Tryd.func3 rfl ?_
  have h0 := has_one (β := bn []) (.v (.int .u16 (h : Int))) 81
  have d0 : (⟨#[.int .u16 (h : Int)] ++ Array.replicate 81 undef, []⟩ : Act).defers = [] := rfl
  have HB0 := Below.refl w.heap.size w
  refine wp_seq (wp_region ?_)
  refine oP 82 [] [0] [(0, .v (.int .u16 ↑h)), (2, vb false)] h0 d0 (fun a1 h1 d1 => ?_)
  clear h0 d0
  show Code.wp _ _ _ _ _
  refine wp_seq (wp_region ?_)
  refine oP 82 [1, 2] [0] [(0, .v (.int .u16 ↑h)), (2, vb false), (10, .v (.int .u16 ↑h))] h1 d1 (fun a2 h2 d2 => ?_)
  clear h1 d1
  refine callW_ops (N := 82) (i := 1) (d := 11) (f := 4) (args := [.v (.int .u16 ↑h)]) (l := [2]) rfl (want_ rfl) rfl (by decide) h2 Tryd.func4 rfl rfl rfl (by kernel_rfl) (fun v W' => v = (.string (Go.strOfNums [78, 97, 78])) ∧ Below (w).heap.size (w) W') ((nan_text_walk h _ 12 (to_law h hh 0) hn w (HZ.below HB0)).mono fun e w' hh => ⟨_, hh.1, rfl, hh.2⟩) (fun v3 W3 a3 hR3 h3 d3 => ?_)
  replace d3 := d3.trans d2
  clear h2 d2
  obtain ⟨rfl, B3⟩ := hR3
  have HB3 := below_step HB0 B3
  refine oP 82 [] [2] [(0, .v (.int .u16 ↑h)), (2, vb false), (3, .v (.string (Go.strOfNums [78, 97, 78])))] h3 d3 (fun a4 h4 d4 => ?_)
  clear h3 d3
  show Code.wp _ _ _ _ _
  refine wp_seq (wp_region ?_)
  refine oP 82 [2, 3] [0, 1] [(0, .v (.int .u16 ↑h)), (2, vb false), (3, .v (.string (Go.strOfNums [78, 97, 78]))), (12, .v (.int .u16 ↑h)), (13, .v (.int .u16 (((h : Nat) : Int) / 32768)))] h4 d4 (fun a5 h5 d5 => ?_)
  clear h4 d4
  refine oP 82 [3] [2] [(0, .v (.int .u16 ↑h)), (2, vb false), (3, .v (.string (Go.strOfNums [78, 97, 78]))), (12, .v (.int .u16 ↑h)), (13, .v (.int .u16 (((h : Nat) : Int) / 32768))), (14, vb (((((h : Nat) : Int) / 32768) : Int) == 1))] h5 d5 (fun a6 h6 d6 => ?_)
  clear h5 d5
  refine oP 82 [] [3] [(0, .v (.int .u16 ↑h)), (2, vb false), (3, .v (.string (Go.strOfNums [78, 97, 78]))), (4, vb (((((h : Nat) : Int) / 32768) : Int) == 1))] h6 d6 (fun a7 h7 d7 => ?_)
  clear h6 d6
  show Code.wp _ _ _ _ _
  refine wp_seq ?_
  refine wp_block ?_
  have hk := kind_nan h hh hq
  refine wp_seq (wp_region ?_)
  refine oP 82 [1, 2, 3] [0] [(0, .v (.int .u16 ↑h)), (2, vb false), (3, .v (.string (Go.strOfNums [78, 97, 78]))), (4, vb (((((h : Nat) : Int) / 32768) : Int) == 1)), (16, .v (.int .u16 ↑h))] h7 d7 (fun a8 h8 d8 => ?_)
  clear h7 d7
  refine callW_ops (N := 82) (i := 1) (d := 17) (f := 5) (args := [.v (.int .u16 ↑h)]) (l := [2, 3]) rfl (want_ rfl) rfl (by decide) h8 Tryd.func5 rfl rfl rfl (by kernel_rfl) (fun v W' => v = (.int .i64 2) ∧ Below (W3).heap.size (W3) W') ((spec_HalfKind.calls _ _ W3 hk).mono fun e w' hh => ⟨_, hh.1, rfl, hh.2.below⟩) (fun v9 W9 a9 hR9 h9 d9 => ?_)
  replace d9 := d9.trans d8
  clear h8 d8
  obtain ⟨rfl, B9⟩ := hR9
  have HB9 := below_step HB3 B9
  refine oP 82 [] [2, 3] [(0, .v (.int .u16 ↑h)), (2, vb false), (3, .v (.string (Go.strOfNums [78, 97, 78]))), (4, vb (((((h : Nat) : Int) / 32768) : Int) == 1)), (15, vb true)] h9 d9 (fun a10 h10 d10 => ?_)
  clear h9 d9
  show Code.wp _ _ _ _ _
  refine wp_cond_true (h10.2 15 _ rfl) ?_
  refine wp_seq (wp_region ?_)
  refine oP 82 [1, 2] [0] [(0, .v (.int .u16 ↑h)), (2, vb false), (3, .v (.string (Go.strOfNums [78, 97, 78]))), (4, vb (((((h : Nat) : Int) / 32768) : Int) == 1)), (15, vb true), (19, .v (.string (Go.strOfNums [78, 97, 78])))] h10 d10 (fun a11 h11 d11 => ?_)
  clear h10 d10
  refine gW (s := vb true) 82 [2] h11 d11 rfl (want_ rfl) rfl (by decide) (op_seq rfl (h11.2 19 _ rfl) rfl (by decide)) (fun a12 h12 d12 => ?_)
  clear h11 d11
  refine oP 82 [] [2] [(0, .v (.int .u16 ↑h)), (2, vb true), (3, .v (.string (Go.strOfNums [78, 97, 78]))), (4, vb (((((h : Nat) : Int) / 32768) : Int) == 1)), (15, vb true)] h12 d12 (fun a13 h13 d13 => ?_)
  clear h12 d12
  show Code.wp _ _ _ _ _
  refine wp_ret ?_
  exact ⟨d13, _, results_tmp rfl _ _ _, congrArg Ending.returned (h13.2 2 _ rfl), HB9⟩
set_option maxHeartbeats 8000000 in
set_option maxRecDepth 100000 in
theorem law_inf0 (h : Nat) (hh : h < 65536) (hs : h / 32768 = 0) (hq : h % 32768 = 31744) (ht32 : HN.t32 h = 2139095040) (hc : cvs 2139095040 = true) (hf : FtoaIs 2139095040 [43, 73, 110, 102]) (w : World) (HZ : GlobP w) :
    Calls Tryd.prog 3 #[.int .u16 (h : Int)] w fun e w' => e = .returned (.bool true) ∧ Below w.heap.size w w' := by
  refine calls_of_wp Tryd.func3 rfl ?_
  have h0 := has_one (β := bn []) (.v (.int .u16 (h : Int))) 81
  have d0 : (⟨#[.int .u16 (h : Int)] ++ Array.replicate 81 undef, []⟩ : Act).defers = [] := rfl
  have HB0 := Below.refl w.heap.size w
  refine wp_seq (wp_region ?_)
  refine oP 82 [] [0] [(0, .v (.int .u16 ↑h)), (2, vb false)] h0 d0 (fun a1 h1 d1 => ?_)
  clear h0 d0
  show Code.wp _ _ _ _ _
  refine wp_seq (wp_region ?_)
  refine oP 82 [1, 2] [0] [(0, .v (.int .u16 ↑h)), (2, vb false), (10, .v (.int .u16 ↑h))] h1 d1 (fun a2 h2 d2 => ?_)
  clear h1 d1
  refine callW_ops (N := 82) (i := 1) (d := 11) (f := 4) (args := [.v (.int .u16 ↑h)]) (l := [2]) rfl (want_ rfl) rfl (by decide) h2 Tryd.func4 rfl rfl rfl (by kernel_rfl) (fun v W' => v = (.string (Go.strOfNums [43, 73, 110, 102])) ∧ Below (w).heap.size (w) W') ((text_walk h _ hh ht32 hc [43, 73, 110, 102] (by decide) hf w (HZ.below HB0)).mono fun e w' hh => ⟨_, hh.1, rfl, hh.2⟩) (fun v3 W3 a3 hR3 h3 d3 => ?_)
  replace d3 := d3.trans d2
  clear h2 d2
  obtain ⟨rfl, B3⟩ := hR3
  have HB3 := below_step HB0 B3
  refine oP 82 [] [2] [(0, .v (.int .u16 ↑h)), (2, vb false), (3, .v (.string (Go.strOfNums [43, 73, 110, 102])))] h3 d3 (fun a4 h4 d4 => ?_)
  clear h3 d3
  show Code.wp _ _ _ _ _
  refine wp_seq (wp_region ?_)
  refine oP 82 [2, 3] [0, 1] [(0, .v (.int .u16 ↑h)), (2, vb false), (3, .v (.string (Go.strOfNums [43, 73, 110, 102]))), (12, .v (.int .u16 ↑h)), (13, .v (.int .u16 (((h : Nat) : Int) / 32768)))] h4 d4 (fun a5 h5 d5 => ?_)
  clear h4 d4
  rw [show (((h : Nat) : Int) / 32768) = 0 from sh15 h 0 hs] at h5
  refine oP 82 [] [2, 3] [(0, .v (.int .u16 ↑h)), (2, vb false), (3, .v (.string (Go.strOfNums [43, 73, 110, 102]))), (4, vb false)] h5 d5 (fun a6 h6 d6 => ?_)
  clear h5 d5
  show Code.wp _ _ _ _ _
  refine wp_seq ?_
  refine wp_block ?_
  have hk := kind_inf h hh hq
  refine wp_seq (wp_region ?_)
  refine oP 82 [1, 2, 3] [0] [(0, .v (.int .u16 ↑h)), (2, vb false), (3, .v (.string (Go.strOfNums [43, 73, 110, 102]))), (4, vb false), (16, .v (.int .u16 ↑h))] h6 d6 (fun a7 h7 d7 => ?_)
  clear h6 d6
  refine callW_ops (N := 82) (i := 1) (d := 17) (f := 5) (args := [.v (.int .u16 ↑h)]) (l := [2, 3]) rfl (want_ rfl) rfl (by decide) h7 Tryd.func5 rfl rfl rfl (by kernel_rfl) (fun v W' => v = (.int .i64 1) ∧ Below (W3).heap.size (W3) W') ((spec_HalfKind.calls _ _ W3 hk).mono fun e w' hh => ⟨_, hh.1, rfl, hh.2.below⟩) (fun v8 W8 a8 hR8 h8 d8 => ?_)
  replace d8 := d8.trans d7
  clear h7 d7
  obtain ⟨rfl, B8⟩ := hR8
  have HB8 := below_step HB3 B8
  refine oP 82 [] [2, 3] [(0, .v (.int .u16 ↑h)), (2, vb false), (3, .v (.string (Go.strOfNums [43, 73, 110, 102]))), (4, vb false), (15, vb false)] h8 d8 (fun a9 h9 d9 => ?_)
  clear h8 d8
  show Code.wp _ _ _ _ _
  refine wp_cond_false (h9.2 15 _ rfl) ?_
  refine wp_seq (wp_region ?_)
  refine oP 82 [1, 2, 3] [0] [(0, .v (.int .u16 ↑h)), (2, vb false), (3, .v (.string (Go.strOfNums [43, 73, 110, 102]))), (4, vb false), (15, vb false), (22, .v (.int .u16 ↑h))] h9 d9 (fun a10 h10 d10 => ?_)
  clear h9 d9
  refine callW_ops (N := 82) (i := 1) (d := 23) (f := 5) (args := [.v (.int .u16 ↑h)]) (l := [2, 3]) rfl (want_ rfl) rfl (by decide) h10 Tryd.func5 rfl rfl rfl (by kernel_rfl) (fun v W' => v = (.int .i64 1) ∧ Below (W8).heap.size (W8) W') ((spec_HalfKind.calls _ _ W8 hk).mono fun e w' hh => ⟨_, hh.1, rfl, hh.2.below⟩) (fun v11 W11 a11 hR11 h11 d11 => ?_)
  replace d11 := d11.trans d10
  clear h10 d10
  obtain ⟨rfl, B11⟩ := hR11
  have HB11 := below_step HB8 B11
  refine oP 82 [] [2, 3] [(0, .v (.int .u16 ↑h)), (2, vb false), (3, .v (.string (Go.strOfNums [43, 73, 110, 102]))), (4, vb false), (15, vb false), (21, vb true)] h11 d11 (fun a12 h12 d12 => ?_)
  clear h11 d11
  show Code.wp _ _ _ _ _
  refine wp_cond_true (h12.2 21 _ rfl) ?_
  refine wp_seq (wp_region ?_)
  refine oP 82 [1, 2, 3, 4, 5, 6, 7, 8, 9, 10, 11, 12, 13] [0] [(0, .v (.int .u16 ↑h)), (2, vb false), (3, .v (.string (Go.strOfNums [43, 73, 110, 102]))), (4, vb false), (15, vb false), (21, vb true), (25, .v (.string (Go.strOfNums [43, 73, 110, 102])))] h12 d12 (fun a13 h13 d13 => ?_)
  clear h12 d12
  refine gW (s := vb false) 82 [2, 3, 4, 5, 6, 7, 8, 9, 10, 11, 12, 13] h13 d13 rfl (want_ rfl) rfl (by decide) (op_seq rfl (h13.2 25 _ rfl) rfl (by decide)) (fun a14 h14 d14 => ?_)
  clear h13 d13
  refine oP 82 [3, 4, 5, 6, 7, 8, 9, 10, 11, 12, 13] [2] [(0, .v (.int .u16 ↑h)), (2, vb false), (3, .v (.string (Go.strOfNums [43, 73, 110, 102]))), (4, vb false), (15, vb false), (21, vb true), (25, .v (.string (Go.strOfNums [43, 73, 110, 102]))), (26, vb false), (27, vb false)] h14 d14 (fun a15 h15 d15 => ?_)
  clear h14 d14
  refine skip_ops (N := 82) (i := 3) (d := 28) (j := 2) (dj := 27) (b := true) (b' := false) (l := [4, 5, 6, 7, 8, 9, 10, 11, 12, 13]) rfl rfl rfl rfl (by decide) rfl (by decide) h15 (fun a16 h16 d16 => ?_)
  replace d16 := d16.trans d15
  clear h15 d15
  refine gW (s := .v (Value.bool false)) 82 [5, 6, 7, 8, 9, 10, 11, 12, 13] h16 d16 rfl (want_ rfl) rfl (by decide) (op_pickF rfl (h16.2 27 _ rfl) rfl) (fun a17 h17 d17 => ?_)
  clear h16 d16
  refine oP 82 [6, 7, 8, 9, 10, 11, 12, 13] [5] [(0, .v (.int .u16 ↑h)), (2, vb false), (3, .v (.string (Go.strOfNums [43, 73, 110, 102]))), (4, vb false), (15, vb false), (21, vb true), (25, .v (.string (Go.strOfNums [43, 73, 110, 102]))), (26, vb false), (27, vb false), (28, .v undef), (29, vb false), (30, vb false)] h17 d17 (fun a18 h18 d18 => ?_)
  clear h17 d17
  refine guard_ops (N := 82) (T := TT) (M := (fun _ _ => none)) tabOk (i := 6) (d := 31) (j := 5) (dj := 30) (b := false) (s := .v (.string (Go.strOfNums [43, 73, 110, 102]))) (l := [7, 8, 9, 10, 11, 12, 13]) (fun _ _ _ h => by cases h) rfl rfl rfl rfl rfl (by decide) h18 (by kernel_rfl) (fun a19 h19 d19 => ?_)
  replace d19 := d19.trans d18
  clear h18 d18
  refine gW (s := vb true) 82 [8, 9, 10, 11, 12, 13] h19 d19 rfl (want_g h19 (j := 5) (d := 30) (b := false) rfl rfl rfl) rfl (by decide) (op_seq rfl (h19.2 31 _ rfl) rfl (by decide)) (fun a20 h20 d20 => ?_)
  clear h19 d19
  refine guard_ops (N := 82) (T := TT) (M := (fun _ _ => none)) tabOk (i := 8) (d := 33) (j := 5) (dj := 30) (b := false) (s := vb true) (l := [9, 10, 11, 12, 13]) (fun _ _ _ h => by cases h) rfl rfl rfl rfl rfl (by decide) h20 (by kernel_rfl) (fun a21 h21 d21 => ?_)
  replace d21 := d21.trans d20
  clear h20 d20
  refine guard_ops (N := 82) (T := TT) (M := (fun _ _ => none)) tabOk (i := 9) (d := 34) (j := 8) (dj := 33) (b := true) (s := vb false) (l := [10, 11, 12, 13]) (fun _ _ _ h => by cases h) rfl rfl rfl rfl rfl (by decide) h21 (by kernel_rfl) (fun a22 h22 d22 => ?_)
  replace d22 := d22.trans d21
  clear h21 d21
  refine guard_ops (N := 82) (T := TT) (M := (fun _ _ => none)) tabOk (i := 10) (d := 35) (j := 8) (dj := 33) (b := true) (s := vb true) (l := [11, 12, 13]) (fun _ _ _ h => by cases h) rfl rfl rfl rfl rfl (by decide) h22 (by kernel_rfl) (fun a23 h23 d23 => ?_)
  replace d23 := d23.trans d22
  clear h22 d22
  refine gW (s := vb true) 82 [12, 13] h23 d23 rfl (want_g h23 (j := 5) (d := 30) (b := false) rfl rfl rfl) rfl (by decide) (op_pickT rfl (h23.2 33 _ rfl) (h23.2 35 _ rfl)) (fun a24 h24 d24 => ?_)
  clear h23 d23
  refine gW (s := vb true) 82 [13] h24 d24 rfl (want_ rfl) rfl (by decide) (op_pickF rfl (h24.2 30 _ rfl) (h24.2 36 _ rfl)) (fun a25 h25 d25 => ?_)
  clear h24 d24
  refine oP 82 [] [13] [(0, .v (.int .u16 ↑h)), (2, vb true), (3, .v (.string (Go.strOfNums [43, 73, 110, 102]))), (4, vb false), (15, vb false), (21, vb true)] h25 d25 (fun a26 h26 d26 => ?_)
  clear h25 d25
  show Code.wp _ _ _ _ _
  refine wp_ret ?_
  exact ⟨d26, _, results_tmp rfl _ _ _, congrArg Ending.returned (h26.2 2 _ rfl), HB11⟩
set_option maxHeartbeats 8000000 in
set_option maxRecDepth 100000 in
theorem law_inf1 (h : Nat) (hh : h < 65536) (hs : h / 32768 = 1) (hq : h % 32768 = 31744) (ht32 : HN.t32 h = 4286578688) (hc : cvs 4286578688 = true) (hf : FtoaIs 4286578688 [45, 73, 110, 102]) (w : World) (HZ : GlobP w) :
    Calls Tryd.prog 3 #[.int .u16 (h : Int)] w fun e w' => e = .returned (.bool true) ∧ Below w.heap.size w w' := by
  refine calls_of_wp Tryd.func3 rfl ?_
  have h0 := has_one (β := bn []) (.v (.int .u16 (h : Int))) 81
  have d0 : (⟨#[.int .u16 (h : Int)] ++ Array.replicate 81 undef, []⟩ : Act).defers = [] := rfl
  have HB0 := Below.refl w.heap.size w
  refine wp_seq (wp_region ?_)
  refine oP 82 [] [0] [(0, .v (.int .u16 ↑h)), (2, vb false)] h0 d0 (fun a1 h1 d1 => ?_)
  clear h0 d0
  show Code.wp _ _ _ _ _
  refine wp_seq (wp_region ?_)
  refine oP 82 [1, 2] [0] [(0, .v (.int .u16 ↑h)), (2, vb false), (10, .v (.int .u16 ↑h))] h1 d1 (fun a2 h2 d2 => ?_)
  clear h1 d1
  refine callW_ops (N := 82) (i := 1) (d := 11) (f := 4) (args := [.v (.int .u16 ↑h)]) (l := [2]) rfl (want_ rfl) rfl (by decide) h2 Tryd.func4 rfl rfl rfl (by kernel_rfl) (fun v W' => v = (.string (Go.strOfNums [45, 73, 110, 102])) ∧ Below (w).heap.size (w) W') ((text_walk h _ hh ht32 hc [45, 73, 110, 102] (by decide) hf w (HZ.below HB0)).mono fun e w' hh => ⟨_, hh.1, rfl, hh.2⟩) (fun v3 W3 a3 hR3 h3 d3 => ?_)
  replace d3 := d3.trans d2
  clear h2 d2
  obtain ⟨rfl, B3⟩ := hR3
  have HB3 := below_step HB0 B3
  refine oP 82 [] [2] [(0, .v (.int .u16 ↑h)), (2, vb false), (3, .v (.string (Go.strOfNums [45, 73, 110, 102])))] h3 d3 (fun a4 h4 d4 => ?_)
  clear h3 d3
  show Code.wp _ _ _ _ _
  refine wp_seq (wp_region ?_)
  refine oP 82 [2, 3] [0, 1] [(0, .v (.int .u16 ↑h)), (2, vb false), (3, .v (.string (Go.strOfNums [45, 73, 110, 102]))), (12, .v (.int .u16 ↑h)), (13, .v (.int .u16 (((h : Nat) : Int) / 32768)))] h4 d4 (fun a5 h5 d5 => ?_)
  clear h4 d4
  rw [show (((h : Nat) : Int) / 32768) = 1 from sh15 h 1 hs] at h5
  refine oP 82 [] [2, 3] [(0, .v (.int .u16 ↑h)), (2, vb false), (3, .v (.string (Go.strOfNums [45, 73, 110, 102]))), (4, vb true)] h5 d5 (fun a6 h6 d6 => ?_)
  clear h5 d5
  show Code.wp _ _ _ _ _
  refine wp_seq ?_
  refine wp_block ?_
  have hk := kind_inf h hh hq
  refine wp_seq (wp_region ?_)
  refine oP 82 [1, 2, 3] [0] [(0, .v (.int .u16 ↑h)), (2, vb false), (3, .v (.string (Go.strOfNums [45, 73, 110, 102]))), (4, vb true), (16, .v (.int .u16 ↑h))] h6 d6 (fun a7 h7 d7 => ?_)
  clear h6 d6
  refine callW_ops (N := 82) (i := 1) (d := 17) (f := 5) (args := [.v (.int .u16 ↑h)]) (l := [2, 3]) rfl (want_ rfl) rfl (by decide) h7 Tryd.func5 rfl rfl rfl (by kernel_rfl) (fun v W' => v = (.int .i64 1) ∧ Below (W3).heap.size (W3) W') ((spec_HalfKind.calls _ _ W3 hk).mono fun e w' hh => ⟨_, hh.1, rfl, hh.2.below⟩) (fun v8 W8 a8 hR8 h8 d8 => ?_)
  replace d8 := d8.trans d7
  clear h7 d7
  obtain ⟨rfl, B8⟩ := hR8
  have HB8 := below_step HB3 B8
  refine oP 82 [] [2, 3] [(0, .v (.int .u16 ↑h)), (2, vb false), (3, .v (.string (Go.strOfNums [45, 73, 110, 102]))), (4, vb true), (15, vb false)] h8 d8 (fun a9 h9 d9 => ?_)
  clear h8 d8
  show Code.wp _ _ _ _ _
  refine wp_cond_false (h9.2 15 _ rfl) ?_
  refine wp_seq (wp_region ?_)
  refine oP 82 [1, 2, 3] [0] [(0, .v (.int .u16 ↑h)), (2, vb false), (3, .v (.string (Go.strOfNums [45, 73, 110, 102]))), (4, vb true), (15, vb false), (22, .v (.int .u16 ↑h))] h9 d9 (fun a10 h10 d10 => ?_)
  clear h9 d9
  refine callW_ops (N := 82) (i := 1) (d := 23) (f := 5) (args := [.v (.int .u16 ↑h)]) (l := [2, 3]) rfl (want_ rfl) rfl (by decide) h10 Tryd.func5 rfl rfl rfl (by kernel_rfl) (fun v W' => v = (.int .i64 1) ∧ Below (W8).heap.size (W8) W') ((spec_HalfKind.calls _ _ W8 hk).mono fun e w' hh => ⟨_, hh.1, rfl, hh.2.below⟩) (fun v11 W11 a11 hR11 h11 d11 => ?_)
  replace d11 := d11.trans d10
  clear h10 d10
  obtain ⟨rfl, B11⟩ := hR11
  have HB11 := below_step HB8 B11
  refine oP 82 [] [2, 3] [(0, .v (.int .u16 ↑h)), (2, vb false), (3, .v (.string (Go.strOfNums [45, 73, 110, 102]))), (4, vb true), (15, vb false), (21, vb true)] h11 d11 (fun a12 h12 d12 => ?_)
  clear h11 d11
  show Code.wp _ _ _ _ _
  refine wp_cond_true (h12.2 21 _ rfl) ?_
  refine wp_seq (wp_region ?_)
  refine oP 82 [1, 2, 3, 4, 5, 6, 7, 8, 9, 10, 11, 12, 13] [0] [(0, .v (.int .u16 ↑h)), (2, vb false), (3, .v (.string (Go.strOfNums [45, 73, 110, 102]))), (4, vb true), (15, vb false), (21, vb true), (25, .v (.string (Go.strOfNums [45, 73, 110, 102])))] h12 d12 (fun a13 h13 d13 => ?_)
  clear h12 d12
  refine gW (s := vb true) 82 [2, 3, 4, 5, 6, 7, 8, 9, 10, 11, 12, 13] h13 d13 rfl (want_ rfl) rfl (by decide) (op_seq rfl (h13.2 25 _ rfl) rfl (by decide)) (fun a14 h14 d14 => ?_)
  clear h13 d13
  refine oP 82 [3, 4, 5, 6, 7, 8, 9, 10, 11, 12, 13] [2] [(0, .v (.int .u16 ↑h)), (2, vb false), (3, .v (.string (Go.strOfNums [45, 73, 110, 102]))), (4, vb true), (15, vb false), (21, vb true), (25, .v (.string (Go.strOfNums [45, 73, 110, 102]))), (26, vb true), (27, vb true)] h14 d14 (fun a15 h15 d15 => ?_)
  clear h14 d14
  refine guard_ops (N := 82) (T := TT) (M := (fun _ _ => none)) tabOk (i := 3) (d := 28) (j := 2) (dj := 27) (b := true) (s := vb true) (l := [4, 5, 6, 7, 8, 9, 10, 11, 12, 13]) (fun _ _ _ h => by cases h) rfl rfl rfl rfl rfl (by decide) h15 (by kernel_rfl) (fun a16 h16 d16 => ?_)
  replace d16 := d16.trans d15
  clear h15 d15
  refine gW (s := vb true) 82 [5, 6, 7, 8, 9, 10, 11, 12, 13] h16 d16 rfl (want_ rfl) rfl (by decide) (op_pickT rfl (h16.2 27 _ rfl) (h16.2 28 _ rfl)) (fun a17 h17 d17 => ?_)
  clear h16 d16
  refine oP 82 [6, 7, 8, 9, 10, 11, 12, 13] [5] [(0, .v (.int .u16 ↑h)), (2, vb false), (3, .v (.string (Go.strOfNums [45, 73, 110, 102]))), (4, vb true), (15, vb false), (21, vb true), (25, .v (.string (Go.strOfNums [45, 73, 110, 102]))), (26, vb true), (27, vb true), (28, vb true), (29, vb true), (30, vb true)] h17 d17 (fun a18 h18 d18 => ?_)
  clear h17 d17
  refine skip_ops (N := 82) (i := 6) (d := 31) (j := 5) (dj := 30) (b := false) (b' := true) (l := [7, 8, 9, 10, 11, 12, 13]) rfl rfl rfl rfl (by decide) rfl (by decide) h18 (fun a19 h19 d19 => ?_)
  replace d19 := d19.trans d18
  clear h18 d18
  refine skip_ops (N := 82) (i := 7) (d := 32) (j := 5) (dj := 30) (b := false) (b' := true) (l := [8, 9, 10, 11, 12, 13]) rfl rfl rfl rfl (by decide) rfl (by decide) h19 (fun a20 h20 d20 => ?_)
  replace d20 := d20.trans d19
  clear h19 d19
  refine skip_ops (N := 82) (i := 8) (d := 33) (j := 5) (dj := 30) (b := false) (b' := true) (l := [9, 10, 11, 12, 13]) rfl rfl rfl rfl (by decide) rfl (by decide) h20 (fun a21 h21 d21 => ?_)
  replace d21 := d21.trans d20
  clear h20 d20
  refine skipU_ops (N := 82) (i := 9) (d := 34) (j := 8) (dj := 33) (b := true) (l := [10, 11, 12, 13]) rfl rfl rfl rfl rfl (by decide) h21 (fun a22 h22 d22 => ?_)
  replace d22 := d22.trans d21
  clear h21 d21
  refine skipU_ops (N := 82) (i := 10) (d := 35) (j := 8) (dj := 33) (b := true) (l := [11, 12, 13]) rfl rfl rfl rfl rfl (by decide) h22 (fun a23 h23 d23 => ?_)
  replace d23 := d23.trans d22
  clear h22 d22
  refine skip_ops (N := 82) (i := 11) (d := 36) (j := 5) (dj := 30) (b := false) (b' := true) (l := [12, 13]) rfl rfl rfl rfl (by decide) rfl (by decide) h23 (fun a24 h24 d24 => ?_)
  replace d24 := d24.trans d23
  clear h23 d23
  refine gW (s := .v (Value.bool true)) 82 [13] h24 d24 rfl (want_ rfl) rfl (by decide) (op_pickT rfl (h24.2 30 _ rfl) rfl) (fun a25 h25 d25 => ?_)
  clear h24 d24
  refine oP 82 [] [13] [(0, .v (.int .u16 ↑h)), (2, vb true), (3, .v (.string (Go.strOfNums [45, 73, 110, 102]))), (4, vb true), (15, vb false), (21, vb true)] h25 d25 (fun a26 h26 d26 => ?_)
  clear h25 d25
  show Code.wp _ _ _ _ _
  refine wp_ret ?_
  exact ⟨d26, _, results_tmp rfl _ _ _, congrArg Ending.returned (h26.2 2 _ rfl), HB11⟩
set_option maxHeartbeats 8000000 in
set_option maxRecDepth 100000 in
theorem law_zero0 (h : Nat) (hh : h < 65536) (hs : h / 32768 = 0) (hz : h % 32768 = 0) (hq : h % 32768 < 31744) (ht32 : HN.t32 h = 0) (hc : cvs 0 = true) (hf : FtoaIs 0 [48]) (w : World) (HZ : GlobP w) :
    Calls Tryd.prog 3 #[.int .u16 (h : Int)] w fun e w' => e = .returned (.bool true) ∧ Below w.heap.size w w' := by
  refine calls_of_wp Tryd.func3 rfl ?_
  have h0 := has_one (β := bn []) (.v (.int .u16 (h : Int))) 81
  have d0 : (⟨#[.int .u16 (h : Int)] ++ Array.replicate 81 undef, []⟩ : Act).defers = [] := rfl
  have HB0 := Below.refl w.heap.size w
  refine wp_seq (wp_region ?_)
  refine oP 82 [] [0] [(0, .v (.int .u16 ↑h)), (2, vb false)] h0 d0 (fun a1 h1 d1 => ?_)
  clear h0 d0
  show Code.wp _ _ _ _ _
  refine wp_seq (wp_region ?_)
  refine oP 82 [1, 2] [0] [(0, .v (.int .u16 ↑h)), (2, vb false), (10, .v (.int .u16 ↑h))] h1 d1 (fun a2 h2 d2 => ?_)
  clear h1 d1
  refine callW_ops (N := 82) (i := 1) (d := 11) (f := 4) (args := [.v (.int .u16 ↑h)]) (l := [2]) rfl (want_ rfl) rfl (by decide) h2 Tryd.func4 rfl rfl rfl (by kernel_rfl) (fun v W' => v = (.string (Go.strOfNums [48])) ∧ Below (w).heap.size (w) W') ((text_walk h _ hh ht32 hc [48] (by decide) hf w (HZ.below HB0)).mono fun e w' hh => ⟨_, hh.1, rfl, hh.2⟩) (fun v3 W3 a3 hR3 h3 d3 => ?_)
  replace d3 := d3.trans d2
  clear h2 d2
  obtain ⟨rfl, B3⟩ := hR3
  have HB3 := below_step HB0 B3
  refine oP 82 [] [2] [(0, .v (.int .u16 ↑h)), (2, vb false), (3, .v (.string (Go.strOfNums [48])))] h3 d3 (fun a4 h4 d4 => ?_)
  clear h3 d3
  show Code.wp _ _ _ _ _
  refine wp_seq (wp_region ?_)
  refine oP 82 [2, 3] [0, 1] [(0, .v (.int .u16 ↑h)), (2, vb false), (3, .v (.string (Go.strOfNums [48]))), (12, .v (.int .u16 ↑h)), (13, .v (.int .u16 (((h : Nat) : Int) / 32768)))] h4 d4 (fun a5 h5 d5 => ?_)
  clear h4 d4
  rw [show (((h : Nat) : Int) / 32768) = 0 from sh15 h 0 hs] at h5
  refine oP 82 [] [2, 3] [(0, .v (.int .u16 ↑h)), (2, vb false), (3, .v (.string (Go.strOfNums [48]))), (4, vb false)] h5 d5 (fun a6 h6 d6 => ?_)
  clear h5 d5
  show Code.wp _ _ _ _ _
  refine wp_seq ?_
  refine wp_block ?_
  have hk := kind_fin h hh hq
  refine wp_seq (wp_region ?_)
  refine oP 82 [1, 2, 3] [0] [(0, .v (.int .u16 ↑h)), (2, vb false), (3, .v (.string (Go.strOfNums [48]))), (4, vb false), (16, .v (.int .u16 ↑h))] h6 d6 (fun a7 h7 d7 => ?_)
  clear h6 d6
  refine callW_ops (N := 82) (i := 1) (d := 17) (f := 5) (args := [.v (.int .u16 ↑h)]) (l := [2, 3]) rfl (want_ rfl) rfl (by decide) h7 Tryd.func5 rfl rfl rfl (by kernel_rfl) (fun v W' => v = (.int .i64 0) ∧ Below (W3).heap.size (W3) W') ((spec_HalfKind.calls _ _ W3 hk).mono fun e w' hh => ⟨_, hh.1, rfl, hh.2.below⟩) (fun v8 W8 a8 hR8 h8 d8 => ?_)
  replace d8 := d8.trans d7
  clear h7 d7
  obtain ⟨rfl, B8⟩ := hR8
  have HB8 := below_step HB3 B8
  refine oP 82 [] [2, 3] [(0, .v (.int .u16 ↑h)), (2, vb false), (3, .v (.string (Go.strOfNums [48]))), (4, vb false), (15, vb false)] h8 d8 (fun a9 h9 d9 => ?_)
  clear h8 d8
  show Code.wp _ _ _ _ _
  refine wp_cond_false (h9.2 15 _ rfl) ?_
  refine wp_seq (wp_region ?_)
  refine oP 82 [1, 2, 3] [0] [(0, .v (.int .u16 ↑h)), (2, vb false), (3, .v (.string (Go.strOfNums [48]))), (4, vb false), (15, vb false), (22, .v (.int .u16 ↑h))] h9 d9 (fun a10 h10 d10 => ?_)
  clear h9 d9
  refine callW_ops (N := 82) (i := 1) (d := 23) (f := 5) (args := [.v (.int .u16 ↑h)]) (l := [2, 3]) rfl (want_ rfl) rfl (by decide) h10 Tryd.func5 rfl rfl rfl (by kernel_rfl) (fun v W' => v = (.int .i64 0) ∧ Below (W8).heap.size (W8) W') ((spec_HalfKind.calls _ _ W8 hk).mono fun e w' hh => ⟨_, hh.1, rfl, hh.2.below⟩) (fun v11 W11 a11 hR11 h11 d11 => ?_)
  replace d11 := d11.trans d10
  clear h10 d10
  obtain ⟨rfl, B11⟩ := hR11
  have HB11 := below_step HB8 B11
  refine oP 82 [] [2, 3] [(0, .v (.int .u16 ↑h)), (2, vb false), (3, .v (.string (Go.strOfNums [48]))), (4, vb false), (15, vb false), (21, vb false)] h11 d11 (fun a12 h12 d12 => ?_)
  clear h11 d11
  show Code.wp _ _ _ _ _
  refine wp_cond_false (h12.2 21 _ rfl) ?_
  refine wp_seq (wp_region ?_)
  refine oP 82 [2, 3, 4, 5, 6, 7, 8, 9, 10] [0, 1] [(0, .v (.int .u16 ↑h)), (2, vb false), (3, .v (.string (Go.strOfNums [48]))), (4, vb false), (15, vb false), (21, vb false), (39, vb false), (40, vb false)] h12 d12 (fun a13 h13 d13 => ?_)
  clear h12 d12
  refine skip_ops (N := 82) (i := 2) (d := 41) (j := 1) (dj := 40) (b := true) (b' := false) (l := [3, 4, 5, 6, 7, 8, 9, 10]) rfl rfl rfl rfl (by decide) rfl (by decide) h13 (fun a14 h14 d14 => ?_)
  replace d14 := d14.trans d13
  clear h13 d13
  refine skip_ops (N := 82) (i := 3) (d := 42) (j := 1) (dj := 40) (b := true) (b' := false) (l := [4, 5, 6, 7, 8, 9, 10]) rfl rfl rfl rfl (by decide) rfl (by decide) h14 (fun a15 h15 d15 => ?_)
  replace d15 := d15.trans d14
  clear h14 d14
  refine skip_ops (N := 82) (i := 4) (d := 43) (j := 1) (dj := 40) (b := true) (b' := false) (l := [5, 6, 7, 8, 9, 10]) rfl rfl rfl rfl (by decide) rfl (by decide) h15 (fun a16 h16 d16 => ?_)
  replace d16 := d16.trans d15
  clear h15 d15
  refine skipU_ops (N := 82) (i := 5) (d := 44) (j := 4) (dj := 43) (b := false) (l := [6, 7, 8, 9, 10]) rfl rfl rfl rfl rfl (by decide) h16 (fun a17 h17 d17 => ?_)
  replace d17 := d17.trans d16
  clear h16 d16
  refine skipU_ops (N := 82) (i := 6) (d := 45) (j := 4) (dj := 43) (b := false) (l := [7, 8, 9, 10]) rfl rfl rfl rfl rfl (by decide) h17 (fun a18 h18 d18 => ?_)
  replace d18 := d18.trans d17
  clear h17 d17
  refine skipU_ops (N := 82) (i := 7) (d := 46) (j := 4) (dj := 43) (b := false) (l := [8, 9, 10]) rfl rfl rfl rfl rfl (by decide) h18 (fun a19 h19 d19 => ?_)
  replace d19 := d19.trans d18
  clear h18 d18
  refine skip_ops (N := 82) (i := 8) (d := 47) (j := 1) (dj := 40) (b := true) (b' := false) (l := [9, 10]) rfl rfl rfl rfl (by decide) rfl (by decide) h19 (fun a20 h20 d20 => ?_)
  replace d20 := d20.trans d19
  clear h19 d19
  refine gW (s := .v (Value.bool false)) 82 [10] h20 d20 rfl (want_ rfl) rfl (by decide) (op_pickF rfl (h20.2 40 _ rfl) rfl) (fun a21 h21 d21 => ?_)
  clear h20 d20
  refine oP 82 [] [10] [(0, .v (.int .u16 ↑h)), (2, vb false), (3, .v (.string (Go.strOfNums [48]))), (4, vb false), (15, vb false), (21, vb false), (38, vb false)] h21 d21 (fun a22 h22 d22 => ?_)
  clear h21 d21
  show Code.wp _ _ _ _ _
  refine wp_cond_false (h22.2 38 _ rfl) ?_
  refine wp_seq (wp_region ?_)
  refine oP 82 [] [0, 1] [(0, .v (.int .u16 ↑h)), (2, vb false), (3, .v (.string (Go.strOfNums [48]))), (4, vb false), (15, vb false), (21, vb false), (38, vb false), (49, vb false)] h22 d22 (fun a23 h23 d23 => ?_)
  clear h22 d22
  show Code.wp _ _ _ _ _
  refine wp_cond_false (h23.2 49 _ rfl) ?_
  refine wp_skip ?_
  show Code.wp _ _ _ _ _
  refine wp_seq ?_
  refine wp_seq (wp_region ?_)
  refine oP 82 [2] [0, 1] [(0, .v (.int .u16 ↑h)), (2, vb false), (3, .v (.string (Go.strOfNums [48]))), (4, vb false), (15, vb false), (21, vb false), (38, vb false), (49, vb false), (53, .v (.int .u16 ↑h)), (54, .v (.int .u16 (Go.bits .and .u16 ↑h 32767)))] h23 d23 (fun a24 h24 d24 => ?_)
  clear h23 d23
  rw [show (Go.bits .and .u16 ↑h 32767) = ((h % 32768 : Nat) : Int) from and15 h hh] at h24
  refine oP 82 [] [2] [(0, .v (.int .u16 ↑h)), (2, vb false), (3, .v (.string (Go.strOfNums [48]))), (4, vb false), (15, vb false), (21, vb false), (38, vb false), (49, vb false), (55, vb ((((h % 32768 : Nat) : Int) : Int) == 0))] h24 d24 (fun a25 h25 d25 => ?_)
  clear h24 d24
  rw [show ((((h % 32768 : Nat) : Int) : Int) == 0) = true from eq_zero _ hz] at h25
  show Code.wp _ _ _ _ _
  refine wp_cond_true (h25.2 55 _ rfl) ?_
  refine wp_seq (wp_region ?_)
  refine oP 82 [1, 2] [0] [(0, .v (.int .u16 ↑h)), (2, vb false), (3, .v (.string (Go.strOfNums [48]))), (4, vb false), (15, vb false), (21, vb false), (38, vb false), (49, vb false), (55, vb true), (56, .v (.string (Go.strOfNums [48])))] h25 d25 (fun a26 h26 d26 => ?_)
  clear h25 d25
  refine gW (s := vb true) 82 [2] h26 d26 rfl (want_ rfl) rfl (by decide) (op_seq rfl (h26.2 56 _ rfl) rfl (by decide)) (fun a27 h27 d27 => ?_)
  clear h26 d26
  refine oP 82 [] [2] [(0, .v (.int .u16 ↑h)), (2, vb true), (3, .v (.string (Go.strOfNums [48]))), (4, vb false), (15, vb false), (21, vb false), (38, vb false), (49, vb false), (55, vb true)] h27 d27 (fun a28 h28 d28 => ?_)
  clear h27 d27
  show Code.wp _ _ _ _ _
  refine wp_ret ?_
  exact ⟨d28, _, results_tmp rfl _ _ _, congrArg Ending.returned (h28.2 2 _ rfl), HB11⟩
set_option maxHeartbeats 8000000 in
set_option maxRecDepth 100000 in
theorem law_zero1 (h : Nat) (hh : h < 65536) (hs : h / 32768 = 1) (hz : h % 32768 = 0) (hq : h % 32768 < 31744) (ht32 : HN.t32 h = 2147483648) (hc : cvs 2147483648 = true) (hf : FtoaIs 2147483648 [45, 48]) (w : World) (HZ : GlobP w) :
    Calls Tryd.prog 3 #[.int .u16 (h : Int)] w fun e w' => e = .returned (.bool true) ∧ Below w.heap.size w w' := by
  refine calls_of_wp Tryd.func3 rfl ?_
  have h0 := has_one (β := bn []) (.v (.int .u16 (h : Int))) 81
  have d0 : (⟨#[.int .u16 (h : Int)] ++ Array.replicate 81 undef, []⟩ : Act).defers = [] := rfl
  have HB0 := Below.refl w.heap.size w
  refine wp_seq (wp_region ?_)
  refine oP 82 [] [0] [(0, .v (.int .u16 ↑h)), (2, vb false)] h0 d0 (fun a1 h1 d1 => ?_)
  clear h0 d0
  show Code.wp _ _ _ _ _
  refine wp_seq (wp_region ?_)
  refine oP 82 [1, 2] [0] [(0, .v (.int .u16 ↑h)), (2, vb false), (10, .v (.int .u16 ↑h))] h1 d1 (fun a2 h2 d2 => ?_)
  clear h1 d1
  refine callW_ops (N := 82) (i := 1) (d := 11) (f := 4) (args := [.v (.int .u16 ↑h)]) (l := [2]) rfl (want_ rfl) rfl (by decide) h2 Tryd.func4 rfl rfl rfl (by kernel_rfl) (fun v W' => v = (.string (Go.strOfNums [45, 48])) ∧ Below (w).heap.size (w) W') ((text_walk h _ hh ht32 hc [45, 48] (by decide) hf w (HZ.below HB0)).mono fun e w' hh => ⟨_, hh.1, rfl, hh.2⟩) (fun v3 W3 a3 hR3 h3 d3 => ?_)
  replace d3 := d3.trans d2
  clear h2 d2
  obtain ⟨rfl, B3⟩ := hR3
  have HB3 := below_step HB0 B3
  refine oP 82 [] [2] [(0, .v (.int .u16 ↑h)), (2, vb false), (3, .v (.string (Go.strOfNums [45, 48])))] h3 d3 (fun a4 h4 d4 => ?_)
  clear h3 d3
  show Code.wp _ _ _ _ _
  refine wp_seq (wp_region ?_)
  refine oP 82 [2, 3] [0, 1] [(0, .v (.int .u16 ↑h)), (2, vb false), (3, .v (.string (Go.strOfNums [45, 48]))), (12, .v (.int .u16 ↑h)), (13, .v (.int .u16 (((h : Nat) : Int) / 32768)))] h4 d4 (fun a5 h5 d5 => ?_)
  clear h4 d4
  rw [show (((h : Nat) : Int) / 32768) = 1 from sh15 h 1 hs] at h5
  refine oP 82 [] [2, 3] [(0, .v (.int .u16 ↑h)), (2, vb false), (3, .v (.string (Go.strOfNums [45, 48]))), (4, vb true)] h5 d5 (fun a6 h6 d6 => ?_)
  clear h5 d5
  show Code.wp _ _ _ _ _
  refine wp_seq ?_
  refine wp_block ?_
  have hk := kind_fin h hh hq
  refine wp_seq (wp_region ?_)
  refine oP 82 [1, 2, 3] [0] [(0, .v (.int .u16 ↑h)), (2, vb false), (3, .v (.string (Go.strOfNums [45, 48]))), (4, vb true), (16, .v (.int .u16 ↑h))] h6 d6 (fun a7 h7 d7 => ?_)
  clear h6 d6
  refine callW_ops (N := 82) (i := 1) (d := 17) (f := 5) (args := [.v (.int .u16 ↑h)]) (l := [2, 3]) rfl (want_ rfl) rfl (by decide) h7 Tryd.func5 rfl rfl rfl (by kernel_rfl) (fun v W' => v = (.int .i64 0) ∧ Below (W3).heap.size (W3) W') ((spec_HalfKind.calls _ _ W3 hk).mono fun e w' hh => ⟨_, hh.1, rfl, hh.2.below⟩) (fun v8 W8 a8 hR8 h8 d8 => ?_)
  replace d8 := d8.trans d7
  clear h7 d7
  obtain ⟨rfl, B8⟩ := hR8
  have HB8 := below_step HB3 B8
  refine oP 82 [] [2, 3] [(0, .v (.int .u16 ↑h)), (2, vb false), (3, .v (.string (Go.strOfNums [45, 48]))), (4, vb true), (15, vb false)] h8 d8 (fun a9 h9 d9 => ?_)
  clear h8 d8
  show Code.wp _ _ _ _ _
  refine wp_cond_false (h9.2 15 _ rfl) ?_
  refine wp_seq (wp_region ?_)
  refine oP 82 [1, 2, 3] [0] [(0, .v (.int .u16 ↑h)), (2, vb false), (3, .v (.string (Go.strOfNums [45, 48]))), (4, vb true), (15, vb false), (22, .v (.int .u16 ↑h))] h9 d9 (fun a10 h10 d10 => ?_)
  clear h9 d9
  refine callW_ops (N := 82) (i := 1) (d := 23) (f := 5) (args := [.v (.int .u16 ↑h)]) (l := [2, 3]) rfl (want_ rfl) rfl (by decide) h10 Tryd.func5 rfl rfl rfl (by kernel_rfl) (fun v W' => v = (.int .i64 0) ∧ Below (W8).heap.size (W8) W') ((spec_HalfKind.calls _ _ W8 hk).mono fun e w' hh => ⟨_, hh.1, rfl, hh.2.below⟩) (fun v11 W11 a11 hR11 h11 d11 => ?_)
  replace d11 := d11.trans d10
  clear h10 d10
  obtain ⟨rfl, B11⟩ := hR11
  have HB11 := below_step HB8 B11
  refine oP 82 [] [2, 3] [(0, .v (.int .u16 ↑h)), (2, vb false), (3, .v (.string (Go.strOfNums [45, 48]))), (4, vb true), (15, vb false), (21, vb false)] h11 d11 (fun a12 h12 d12 => ?_)
  clear h11 d11
  show Code.wp _ _ _ _ _
  refine wp_cond_false (h12.2 21 _ rfl) ?_
  refine wp_seq (wp_region ?_)
  refine oP 82 [2, 3, 4, 5, 6, 7, 8, 9, 10] [0, 1] [(0, .v (.int .u16 ↑h)), (2, vb false), (3, .v (.string (Go.strOfNums [45, 48]))), (4, vb true), (15, vb false), (21, vb false), (39, vb true), (40, vb true)] h12 d12 (fun a13 h13 d13 => ?_)
  clear h12 d12
  refine guard_ops (N := 82) (T := TT) (M := (fun _ _ => none)) tabOk (i := 2) (d := 41) (j := 1) (dj := 40) (b := true) (s := .v (.string (Go.strOfNums [45, 48]))) (l := [3, 4, 5, 6, 7, 8, 9, 10]) (fun _ _ _ h => by cases h) rfl rfl rfl rfl rfl (by decide) h13 (by kernel_rfl) (fun a14 h14 d14 => ?_)
  replace d14 := d14.trans d13
  clear h13 d13
  refine gW (s := vb false) 82 [4, 5, 6, 7, 8, 9, 10] h14 d14 rfl (want_g h14 (j := 1) (d := 40) (b := true) rfl rfl rfl) rfl (by decide) (op_seq rfl (h14.2 41 _ rfl) rfl (str_ne _ _)) (fun a15 h15 d15 => ?_)
  clear h14 d14
  refine guard_ops (N := 82) (T := TT) (M := (fun _ _ => none)) tabOk (i := 4) (d := 43) (j := 1) (dj := 40) (b := true) (s := vb false) (l := [5, 6, 7, 8, 9, 10]) (fun _ _ _ h => by cases h) rfl rfl rfl rfl rfl (by decide) h15 (by kernel_rfl) (fun a16 h16 d16 => ?_)
  replace d16 := d16.trans d15
  clear h15 d15
  refine guard_ops (N := 82) (T := TT) (M := (fun _ _ => none)) tabOk (i := 5) (d := 44) (j := 4) (dj := 43) (b := false) (s := .v (.string (Go.strOfNums [45, 48]))) (l := [6, 7, 8, 9, 10]) (fun _ _ _ h => by cases h) rfl rfl rfl rfl rfl (by decide) h16 (by kernel_rfl) (fun a17 h17 d17 => ?_)
  replace d17 := d17.trans d16
  clear h16 d16
  refine gW (s := vo 45) 82 [7, 8, 9, 10] h17 d17 rfl (want_g h17 (j := 4) (d := 43) (b := false) rfl rfl rfl) rfl (by decide) (op_sidx (c := 45) rfl (h17.2 44 _ rfl) rfl Tryd.underlying9 (by decide)) (fun a18 h18 d18 => ?_)
  clear h17 d17
  refine guard_ops (N := 82) (T := TT) (M := (fun _ _ => none)) tabOk (i := 7) (d := 46) (j := 4) (dj := 43) (b := false) (s := vb false) (l := [8, 9, 10]) (fun _ _ _ h => by cases h) rfl rfl rfl rfl rfl (by decide) h18 (by kernel_rfl) (fun a19 h19 d19 => ?_)
  replace d19 := d19.trans d18
  clear h18 d18
  refine gW (s := vb false) 82 [9, 10] h19 d19 rfl (want_g h19 (j := 1) (d := 40) (b := true) rfl rfl rfl) rfl (by decide) (op_pickF rfl (h19.2 43 _ rfl) (h19.2 46 _ rfl)) (fun a20 h20 d20 => ?_)
  clear h19 d19
  refine gW (s := vb false) 82 [10] h20 d20 rfl (want_ rfl) rfl (by decide) (op_pickT rfl (h20.2 40 _ rfl) (h20.2 47 _ rfl)) (fun a21 h21 d21 => ?_)
  clear h20 d20
  refine oP 82 [] [10] [(0, .v (.int .u16 ↑h)), (2, vb false), (3, .v (.string (Go.strOfNums [45, 48]))), (4, vb true), (15, vb false), (21, vb false), (38, vb false)] h21 d21 (fun a22 h22 d22 => ?_)
  clear h21 d21
  show Code.wp _ _ _ _ _
  refine wp_cond_false (h22.2 38 _ rfl) ?_
  refine wp_seq (wp_region ?_)
  refine oP 82 [] [0, 1] [(0, .v (.int .u16 ↑h)), (2, vb false), (3, .v (.string (Go.strOfNums [45, 48]))), (4, vb true), (15, vb false), (21, vb false), (38, vb false), (49, vb true)] h22 d22 (fun a23 h23 d23 => ?_)
  clear h22 d22
  show Code.wp _ _ _ _ _
  refine wp_cond_true (h23.2 49 _ rfl) ?_
  refine wp_region ?_
  refine oP 82 [1, 2] [0] [(0, .v (.int .u16 ↑h)), (2, vb false), (3, .v (.string (Go.strOfNums [45, 48]))), (4, vb true), (15, vb false), (21, vb false), (38, vb false), (49, vb true), (51, .v (.string (Go.strOfNums [45, 48])))] h23 d23 (fun a24 h24 d24 => ?_)
  clear h23 d23
  refine gW (s := .v (.string (Go.strOfNums [48]))) 82 [2] h24 d24 rfl (want_ rfl) rfl (by decide) (op_ssl rfl (h24.2 51 _ rfl) rfl Tryd.underlying9) (fun a25 h25 d25 => ?_)
  clear h24 d24
  refine oP 82 [] [2] [(0, .v (.int .u16 ↑h)), (2, vb false), (3, .v (.string (Go.strOfNums [48]))), (4, vb true), (15, vb false), (21, vb false), (38, vb false), (49, vb true)] h25 d25 (fun a26 h26 d26 => ?_)
  clear h25 d25
  show Code.wp _ _ _ _ _
  refine wp_seq ?_
  refine wp_seq (wp_region ?_)
  refine oP 82 [2] [0, 1] [(0, .v (.int .u16 ↑h)), (2, vb false), (3, .v (.string (Go.strOfNums [48]))), (4, vb true), (15, vb false), (21, vb false), (38, vb false), (49, vb true), (53, .v (.int .u16 ↑h)), (54, .v (.int .u16 (Go.bits .and .u16 ↑h 32767)))] h26 d26 (fun a27 h27 d27 => ?_)
  clear h26 d26
  rw [show (Go.bits .and .u16 ↑h 32767) = ((h % 32768 : Nat) : Int) from and15 h hh] at h27
  refine oP 82 [] [2] [(0, .v (.int .u16 ↑h)), (2, vb false), (3, .v (.string (Go.strOfNums [48]))), (4, vb true), (15, vb false), (21, vb false), (38, vb false), (49, vb true), (55, vb ((((h % 32768 : Nat) : Int) : Int) == 0))] h27 d27 (fun a28 h28 d28 => ?_)
  clear h27 d27
  rw [show ((((h % 32768 : Nat) : Int) : Int) == 0) = true from eq_zero _ hz] at h28
  show Code.wp _ _ _ _ _
  refine wp_cond_true (h28.2 55 _ rfl) ?_
  refine wp_seq (wp_region ?_)
  refine oP 82 [1, 2] [0] [(0, .v (.int .u16 ↑h)), (2, vb false), (3, .v (.string (Go.strOfNums [48]))), (4, vb true), (15, vb false), (21, vb false), (38, vb false), (49, vb true), (55, vb true), (56, .v (.string (Go.strOfNums [48])))] h28 d28 (fun a29 h29 d29 => ?_)
  clear h28 d28
  refine gW (s := vb true) 82 [2] h29 d29 rfl (want_ rfl) rfl (by decide) (op_seq rfl (h29.2 56 _ rfl) rfl (by decide)) (fun a30 h30 d30 => ?_)
  clear h29 d29
  refine oP 82 [] [2] [(0, .v (.int .u16 ↑h)), (2, vb true), (3, .v (.string (Go.strOfNums [48]))), (4, vb true), (15, vb false), (21, vb false), (38, vb false), (49, vb true), (55, vb true)] h30 d30 (fun a31 h31 d31 => ?_)
  clear h30 d30
  show Code.wp _ _ _ _ _
  refine wp_ret ?_
  exact ⟨d31, _, results_tmp rfl _ _ _, congrArg Ending.returned (h31.2 2 _ rfl), HB11⟩
set_option maxHeartbeats 8000000 in
set_option maxRecDepth 100000 in
theorem law_fin0 (h : Nat) (hh : h < 65536) (hs : h / 32768 = 0) (hz : h % 32768 ≠ 0) (hq : h % 32768 < 31744) (b m E x P : Nat) (L : List Int) (hL : 0 < L.length) (ht32 : HN.t32 h = b) (hc : cvs b = true) (hf : FtoaIs b L) (hto : impl_HalfTo.f 12 (h : Int) = some ((b : Nat) : Int)) (hTok : Tok L P) (hx : 10 ^ (200 - (L.length - P - 1)) * bv L = x) (hval : spec_SingleValue.f ((b : Nat) : Int) = some (((m : Nat) : Int), -((E : Nat) : Int))) (hkd : spec_SingleKind.f ((b : Nat) : Int) = some 0) (hsh : ∀ (w : World) (vd : Value) (ok : Nat → Prop), DV ok w vd x → Calls Tryd.prog 10 #[vd, .int .i64 ↑m, .int .i64 (-((E : Nat) : Int))] w fun e w' => e = .returned (.bool true) ∧ Below w.heap.size w w') (w : World) (HZ : GlobP w) :
    Calls Tryd.prog 3 #[.int .u16 (h : Int)] w fun e w' => e = .returned (.bool true) ∧ Below w.heap.size w w' := by
  refine calls_of_wp Tryd.func3 rfl ?_
  have h0 := has_one (β := bn []) (.v (.int .u16 (h : Int))) 81
  have d0 : (⟨#[.int .u16 (h : Int)] ++ Array.replicate 81 undef, []⟩ : Act).defers = [] := rfl
  have HB0 := Below.refl w.heap.size w
  refine wp_seq (wp_region ?_)
  refine oP 82 [] [0] [(0, .v (.int .u16 ↑h)), (2, vb false)] h0 d0 (fun a1 h1 d1 => ?_)
  clear h0 d0
  show Code.wp _ _ _ _ _
  refine wp_seq (wp_region ?_)
  refine oP 82 [1, 2] [0] [(0, .v (.int .u16 ↑h)), (2, vb false), (10, .v (.int .u16 ↑h))] h1 d1 (fun a2 h2 d2 => ?_)
  clear h1 d1
  refine callW_ops (N := 82) (i := 1) (d := 11) (f := 4) (args := [.v (.int .u16 ↑h)]) (l := [2]) rfl (want_ rfl) rfl (by decide) h2 Tryd.func4 rfl rfl rfl (by kernel_rfl) (fun v W' => v = (.string (Go.strOfNums L)) ∧ Below (w).heap.size (w) W') ((text_walk h _ hh ht32 hc L hL hf w (HZ.below HB0)).mono fun e w' hh => ⟨_, hh.1, rfl, hh.2⟩) (fun v3 W3 a3 hR3 h3 d3 => ?_)
  replace d3 := d3.trans d2
  clear h2 d2
  obtain ⟨rfl, B3⟩ := hR3
  have HB3 := below_step HB0 B3
  refine oP 82 [] [2] [(0, .v (.int .u16 ↑h)), (2, vb false), (3, .v (.string (Go.strOfNums L)))] h3 d3 (fun a4 h4 d4 => ?_)
  clear h3 d3
  show Code.wp _ _ _ _ _
  refine wp_seq (wp_region ?_)
  refine oP 82 [2, 3] [0, 1] [(0, .v (.int .u16 ↑h)), (2, vb false), (3, .v (.string (Go.strOfNums L))), (12, .v (.int .u16 ↑h)), (13, .v (.int .u16 (((h : Nat) : Int) / 32768)))] h4 d4 (fun a5 h5 d5 => ?_)
  clear h4 d4
  rw [show (((h : Nat) : Int) / 32768) = 0 from sh15 h 0 hs] at h5
  refine oP 82 [] [2, 3] [(0, .v (.int .u16 ↑h)), (2, vb false), (3, .v (.string (Go.strOfNums L))), (4, vb false)] h5 d5 (fun a6 h6 d6 => ?_)
  clear h5 d5
  show Code.wp _ _ _ _ _
  refine wp_seq ?_
  refine wp_block ?_
  have hk := kind_fin h hh hq
  refine wp_seq (wp_region ?_)
  refine oP 82 [1, 2, 3] [0] [(0, .v (.int .u16 ↑h)), (2, vb false), (3, .v (.string (Go.strOfNums L))), (4, vb false), (16, .v (.int .u16 ↑h))] h6 d6 (fun a7 h7 d7 => ?_)
  clear h6 d6
  refine callW_ops (N := 82) (i := 1) (d := 17) (f := 5) (args := [.v (.int .u16 ↑h)]) (l := [2, 3]) rfl (want_ rfl) rfl (by decide) h7 Tryd.func5 rfl rfl rfl (by kernel_rfl) (fun v W' => v = (.int .i64 0) ∧ Below (W3).heap.size (W3) W') ((spec_HalfKind.calls _ _ W3 hk).mono fun e w' hh => ⟨_, hh.1, rfl, hh.2.below⟩) (fun v8 W8 a8 hR8 h8 d8 => ?_)
  replace d8 := d8.trans d7
  clear h7 d7
  obtain ⟨rfl, B8⟩ := hR8
  have HB8 := below_step HB3 B8
  refine oP 82 [] [2, 3] [(0, .v (.int .u16 ↑h)), (2, vb false), (3, .v (.string (Go.strOfNums L))), (4, vb false), (15, vb false)] h8 d8 (fun a9 h9 d9 => ?_)
  clear h8 d8
  show Code.wp _ _ _ _ _
  refine wp_cond_false (h9.2 15 _ rfl) ?_
  refine wp_seq (wp_region ?_)
  refine oP 82 [1, 2, 3] [0] [(0, .v (.int .u16 ↑h)), (2, vb false), (3, .v (.string (Go.strOfNums L))), (4, vb false), (15, vb false), (22, .v (.int .u16 ↑h))] h9 d9 (fun a10 h10 d10 => ?_)
  clear h9 d9
  refine callW_ops (N := 82) (i := 1) (d := 23) (f := 5) (args := [.v (.int .u16 ↑h)]) (l := [2, 3]) rfl (want_ rfl) rfl (by decide) h10 Tryd.func5 rfl rfl rfl (by kernel_rfl) (fun v W' => v = (.int .i64 0) ∧ Below (W8).heap.size (W8) W') ((spec_HalfKind.calls _ _ W8 hk).mono fun e w' hh => ⟨_, hh.1, rfl, hh.2.below⟩) (fun v11 W11 a11 hR11 h11 d11 => ?_)
  replace d11 := d11.trans d10
  clear h10 d10
  obtain ⟨rfl, B11⟩ := hR11
  have HB11 := below_step HB8 B11
  refine oP 82 [] [2, 3] [(0, .v (.int .u16 ↑h)), (2, vb false), (3, .v (.string (Go.strOfNums L))), (4, vb false), (15, vb false), (21, vb false)] h11 d11 (fun a12 h12 d12 => ?_)
  clear h11 d11
  show Code.wp _ _ _ _ _
  refine wp_cond_false (h12.2 21 _ rfl) ?_
  refine wp_seq (wp_region ?_)
  refine oP 82 [2, 3, 4, 5, 6, 7, 8, 9, 10] [0, 1] [(0, .v (.int .u16 ↑h)), (2, vb false), (3, .v (.string (Go.strOfNums L))), (4, vb false), (15, vb false), (21, vb false), (39, vb false), (40, vb false)] h12 d12 (fun a13 h13 d13 => ?_)
  clear h12 d12
  refine skip_ops (N := 82) (i := 2) (d := 41) (j := 1) (dj := 40) (b := true) (b' := false) (l := [3, 4, 5, 6, 7, 8, 9, 10]) rfl rfl rfl rfl (by decide) rfl (by decide) h13 (fun a14 h14 d14 => ?_)
  replace d14 := d14.trans d13
  clear h13 d13
  refine skip_ops (N := 82) (i := 3) (d := 42) (j := 1) (dj := 40) (b := true) (b' := false) (l := [4, 5, 6, 7, 8, 9, 10]) rfl rfl rfl rfl (by decide) rfl (by decide) h14 (fun a15 h15 d15 => ?_)
  replace d15 := d15.trans d14
  clear h14 d14
  refine skip_ops (N := 82) (i := 4) (d := 43) (j := 1) (dj := 40) (b := true) (b' := false) (l := [5, 6, 7, 8, 9, 10]) rfl rfl rfl rfl (by decide) rfl (by decide) h15 (fun a16 h16 d16 => ?_)
  replace d16 := d16.trans d15
  clear h15 d15
  refine skipU_ops (N := 82) (i := 5) (d := 44) (j := 4) (dj := 43) (b := false) (l := [6, 7, 8, 9, 10]) rfl rfl rfl rfl rfl (by decide) h16 (fun a17 h17 d17 => ?_)
  replace d17 := d17.trans d16
  clear h16 d16
  refine skipU_ops (N := 82) (i := 6) (d := 45) (j := 4) (dj := 43) (b := false) (l := [7, 8, 9, 10]) rfl rfl rfl rfl rfl (by decide) h17 (fun a18 h18 d18 => ?_)
  replace d18 := d18.trans d17
  clear h17 d17
  refine skipU_ops (N := 82) (i := 7) (d := 46) (j := 4) (dj := 43) (b := false) (l := [8, 9, 10]) rfl rfl rfl rfl rfl (by decide) h18 (fun a19 h19 d19 => ?_)
  replace d19 := d19.trans d18
  clear h18 d18
  refine skip_ops (N := 82) (i := 8) (d := 47) (j := 1) (dj := 40) (b := true) (b' := false) (l := [9, 10]) rfl rfl rfl rfl (by decide) rfl (by decide) h19 (fun a20 h20 d20 => ?_)
  replace d20 := d20.trans d19
  clear h19 d19
  refine gW (s := .v (Value.bool false)) 82 [10] h20 d20 rfl (want_ rfl) rfl (by decide) (op_pickF rfl (h20.2 40 _ rfl) rfl) (fun a21 h21 d21 => ?_)
  clear h20 d20
  refine oP 82 [] [10] [(0, .v (.int .u16 ↑h)), (2, vb false), (3, .v (.string (Go.strOfNums L))), (4, vb false), (15, vb false), (21, vb false), (38, vb false)] h21 d21 (fun a22 h22 d22 => ?_)
  clear h21 d21
  show Code.wp _ _ _ _ _
  refine wp_cond_false (h22.2 38 _ rfl) ?_
  refine wp_seq (wp_region ?_)
  refine oP 82 [] [0, 1] [(0, .v (.int .u16 ↑h)), (2, vb false), (3, .v (.string (Go.strOfNums L))), (4, vb false), (15, vb false), (21, vb false), (38, vb false), (49, vb false)] h22 d22 (fun a23 h23 d23 => ?_)
  clear h22 d22
  show Code.wp _ _ _ _ _
  refine wp_cond_false (h23.2 49 _ rfl) ?_
  refine wp_skip ?_
  show Code.wp _ _ _ _ _
  refine wp_seq ?_
  refine wp_seq (wp_region ?_)
  refine oP 82 [2] [0, 1] [(0, .v (.int .u16 ↑h)), (2, vb false), (3, .v (.string (Go.strOfNums L))), (4, vb false), (15, vb false), (21, vb false), (38, vb false), (49, vb false), (53, .v (.int .u16 ↑h)), (54, .v (.int .u16 (Go.bits .and .u16 ↑h 32767)))] h23 d23 (fun a24 h24 d24 => ?_)
  clear h23 d23
  rw [show (Go.bits .and .u16 ↑h 32767) = ((h % 32768 : Nat) : Int) from and15 h hh] at h24
  refine oP 82 [] [2] [(0, .v (.int .u16 ↑h)), (2, vb false), (3, .v (.string (Go.strOfNums L))), (4, vb false), (15, vb false), (21, vb false), (38, vb false), (49, vb false), (55, vb ((((h % 32768 : Nat) : Int) : Int) == 0))] h24 d24 (fun a25 h25 d25 => ?_)
  clear h24 d24
  rw [show ((((h % 32768 : Nat) : Int) : Int) == 0) = false from ne_zero _ hz] at h25
  show Code.wp _ _ _ _ _
  refine wp_cond_false (h25.2 55 _ rfl) ?_
  refine wp_skip ?_
  show Code.wp _ _ _ _ _
  refine wp_seq (wp_region ?_)
  refine oP 82 [1, 2] [0] [(0, .v (.int .u16 ↑h)), (2, vb false), (3, .v (.string (Go.strOfNums L))), (4, vb false), (15, vb false), (21, vb false), (38, vb false), (49, vb false), (55, vb false), (58, .v (.int .u16 ↑h))] h25 d25 (fun a26 h26 d26 => ?_)
  clear h25 d25
  refine callW_ops (N := 82) (i := 1) (d := 59) (f := 6) (args := [.v (.int .u16 ↑h)]) (l := [2]) rfl (want_ rfl) rfl (by decide) h26 Tryd.func6 rfl rfl rfl (by kernel_rfl) (fun v W' => v = (.int .u32 ↑b) ∧ Below (W11).heap.size (W11) W') ((impl_HalfTo.calls 12 _ _ W11 hto).mono fun e w' hh => ⟨_, hh.1, rfl, hh.2.below⟩) (fun v27 W27 a27 hR27 h27 d27 => ?_)
  replace d27 := d27.trans d26
  clear h26 d26
  obtain ⟨rfl, B27⟩ := hR27
  have HB27 := below_step HB11 B27
  refine oP 82 [] [2] [(0, .v (.int .u16 ↑h)), (2, vb false), (3, .v (.string (Go.strOfNums L))), (4, vb false), (5, vw ↑b), (15, vb false), (21, vb false), (38, vb false), (49, vb false), (55, vb false)] h27 d27 (fun a28 h28 d28 => ?_)
  clear h27 d27
  show Code.wp _ _ _ _ _
  refine wp_seq (wp_region ?_)
  refine oP 82 [1, 2, 3, 4, 5, 6] [0] [(0, .v (.int .u16 ↑h)), (2, vb false), (3, .v (.string (Go.strOfNums L))), (4, vb false), (5, vw ↑b), (15, vb false), (21, vb false), (38, vb false), (49, vb false), (55, vb false), (61, .v (.string (Go.strOfNums L)))] h28 d28 (fun a29 h29 d29 => ?_)
  clear h28 d28
  refine callW_ops (N := 82) (i := 1) (d := 62) (f := 7) (args := [.v (.string (Go.strOfNums L))]) (l := [2, 3, 4, 5, 6]) rfl (want_ rfl) rfl (by decide) h29 Tryd.func7 rfl rfl rfl (by kernel_rfl) (fun u W' => ∃ vd, u = .tuple #[vd, .bool true] ∧ Ans W27 x vd W') ((read_walk L P hTok W27).mono fun e w' hh => by obtain ⟨v', e1, e2⟩ := hh; exact ⟨_, e1, v', rfl, by rw [← hx]; exact e2⟩) (fun v30 W30 a30 hR30 h30 d30 => ?_)
  replace d30 := d30.trans d29
  clear h29 d29
  obtain ⟨vd, rfl, hd, B30⟩ := hR30
  have HB30 := below_step HB27 B30
  refine oP 82 [] [2, 3, 4, 5, 6] [(0, .v (.int .u16 ↑h)), (2, vb false), (3, .v (.string (Go.strOfNums L))), (4, vb false), (5, vw ↑b), (6, .v vd), (7, vb true), (15, vb false), (21, vb false), (38, vb false), (49, vb false), (55, vb false)] h30 d30 (fun a31 h31 d31 => ?_)
  clear h30 d30
  show Code.wp _ _ _ _ _
  refine wp_seq (wp_region ?_)
  refine oP 82 [1, 2, 3, 4, 5, 6] [0] [(0, .v (.int .u16 ↑h)), (2, vb false), (3, .v (.string (Go.strOfNums L))), (4, vb false), (5, vw ↑b), (6, .v vd), (7, vb true), (15, vb false), (21, vb false), (38, vb false), (49, vb false), (55, vb false), (66, vw ↑b)] h31 d31 (fun a32 h32 d32 => ?_)
  clear h31 d31
  refine callW_ops (N := 82) (i := 1) (d := 67) (f := 8) (args := [(vw ↑b)]) (l := [2, 3, 4, 5, 6]) rfl (want_ rfl) rfl (by decide) h32 Tryd.func8 rfl rfl rfl (by kernel_rfl) (fun v W' => v = (.tuple #[.int .i64 ↑m, .int .i64 (-((E : Nat) : Int))]) ∧ Below (W30).heap.size (W30) W') ((spec_SingleValue.calls _ _ _ W30 hval).mono fun e w' hh => ⟨_, hh.1, rfl, hh.2.below⟩) (fun v33 W33 a33 hR33 h33 d33 => ?_)
  replace d33 := d33.trans d32
  clear h32 d32
  obtain ⟨rfl, B33⟩ := hR33
  have HB33 := below_step HB30 B33
  replace hd := hd.step B33
  refine oP 82 [] [2, 3, 4, 5, 6] [(0, .v (.int .u16 ↑h)), (2, vb false), (3, .v (.string (Go.strOfNums L))), (4, vb false), (5, vw ↑b), (6, .v vd), (7, vb true), (8, vi ↑m), (9, vi (-((E : Nat) : Int))), (15, vb false), (21, vb false), (38, vb false), (49, vb false), (55, vb false)] h33 d33 (fun a34 h34 d34 => ?_)
  clear h33 d33
  show Code.wp _ _ _ _ _
  refine wp_seq (wp_region ?_)
  refine oP 82 [2, 3, 4, 5, 6, 7, 8, 9, 10, 11, 12] [0, 1] [(0, .v (.int .u16 ↑h)), (2, vb false), (3, .v (.string (Go.strOfNums L))), (4, vb false), (5, vw ↑b), (6, .v vd), (7, vb true), (8, vi ↑m), (9, vi (-((E : Nat) : Int))), (15, vb false), (21, vb false), (38, vb false), (49, vb false), (55, vb false), (70, vb true), (71, vb true)] h34 d34 (fun a35 h35 d35 => ?_)
  clear h34 d34
  refine guard_ops (N := 82) (T := TT) (M := (fun _ _ => none)) tabOk (i := 2) (d := 72) (j := 1) (dj := 71) (b := true) (s := vw ↑b) (l := [3, 4, 5, 6, 7, 8, 9, 10, 11, 12]) (fun _ _ _ h => by cases h) rfl rfl rfl rfl rfl (by decide) h35 (by kernel_rfl) (fun a36 h36 d36 => ?_)
  replace d36 := d36.trans d35
  clear h35 d35
  refine callW_ops (N := 82) (i := 3) (d := 73) (f := 9) (args := [(vw ↑b)]) (l := [4, 5, 6, 7, 8, 9, 10, 11, 12]) rfl (want_g h36 (j := 1) (d := 71) (b := true) rfl rfl rfl) rfl (by decide) h36 Tryd.func9 rfl rfl rfl (by kernel_rfl) (fun v W' => v = .int .i64 0 ∧ Below (W33).heap.size W33 W') ((spec_SingleKind.calls _ _ W33 hkd).mono fun e w' hh => ⟨_, hh.1, rfl, hh.2.below⟩) (fun v37 W37 a37 hR37 h37 d37 => ?_)
  replace d37 := d37.trans d36
  clear h36 d36
  obtain ⟨rfl, B37⟩ := hR37
  have HB37 := below_step HB33 B37
  replace hd := hd.step B37
  refine guard_ops (N := 82) (T := TT) (M := (fun _ _ => none)) tabOk (i := 4) (d := 74) (j := 1) (dj := 71) (b := true) (s := vb true) (l := [5, 6, 7, 8, 9, 10, 11, 12]) (fun _ _ _ h => by cases h) rfl rfl rfl rfl rfl (by decide) h37 (by kernel_rfl) (fun a38 h38 d38 => ?_)
  replace d38 := d38.trans d37
  clear h37 d37
  refine gW (s := vb true) 82 [6, 7, 8, 9, 10, 11, 12] h38 d38 rfl (want_ rfl) rfl (by decide) (op_pickT rfl (h38.2 71 _ rfl) (h38.2 74 _ rfl)) (fun a39 h39 d39 => ?_)
  clear h38 d38
  refine oP 82 [7, 8, 9, 10, 11, 12] [6] [(0, .v (.int .u16 ↑h)), (2, vb false), (3, .v (.string (Go.strOfNums L))), (4, vb false), (5, vw ↑b), (6, .v vd), (7, vb true), (8, vi ↑m), (9, vi (-((E : Nat) : Int))), (15, vb false), (21, vb false), (38, vb false), (49, vb false), (55, vb false), (70, vb true), (71, vb true), (72, vw ↑b), (73, vi 0), (74, vb true), (75, vb true), (76, vb true)] h39 d39 (fun a40 h40 d40 => ?_)
  clear h39 d39
  refine guard_ops (N := 82) (T := TT) (M := (fun _ _ => none)) tabOk (i := 7) (d := 77) (j := 6) (dj := 76) (b := true) (s := .v vd) (l := [8, 9, 10, 11, 12]) (fun _ _ _ h => by cases h) rfl rfl rfl rfl rfl (by decide) h40 (by kernel_rfl) (fun a41 h41 d41 => ?_)
  replace d41 := d41.trans d40
  clear h40 d40
  refine guard_ops (N := 82) (T := TT) (M := (fun _ _ => none)) tabOk (i := 8) (d := 78) (j := 6) (dj := 76) (b := true) (s := vi ↑m) (l := [9, 10, 11, 12]) (fun _ _ _ h => by cases h) rfl rfl rfl rfl rfl (by decide) h41 (by kernel_rfl) (fun a42 h42 d42 => ?_)
  replace d42 := d42.trans d41
  clear h41 d41
  refine guard_ops (N := 82) (T := TT) (M := (fun _ _ => none)) tabOk (i := 9) (d := 79) (j := 6) (dj := 76) (b := true) (s := vi (-((E : Nat) : Int))) (l := [10, 11, 12]) (fun _ _ _ h => by cases h) rfl rfl rfl rfl rfl (by decide) h42 (by kernel_rfl) (fun a43 h43 d43 => ?_)
  replace d43 := d43.trans d42
  clear h42 d42
  refine callW_ops (N := 82) (i := 10) (d := 80) (f := 10) (args := [.v vd, vi ↑m, vi (-((E : Nat) : Int))]) (l := [11, 12]) rfl (want_g h43 (j := 6) (d := 76) (b := true) rfl rfl rfl) rfl (by decide) h43 Tryd.func10 rfl rfl rfl (by kernel_rfl) (fun v W' => v = .bool true ∧ Below (W37).heap.size W37 W') ((hsh W37 vd _ hd).mono fun e w' hh => ⟨_, hh.1, rfl, hh.2⟩) (fun v44 W44 a44 hR44 h44 d44 => ?_)
  replace d44 := d44.trans d43
  clear h43 d43
  obtain ⟨rfl, B44⟩ := hR44
  have HB44 := below_step HB37 B44
  refine gW (s := vb true) 82 [12] h44 d44 rfl (want_ rfl) rfl (by decide) (op_pickT rfl (h44.2 76 _ rfl) (h44.2 80 _ rfl)) (fun a45 h45 d45 => ?_)
  clear h44 d44
  refine oP 82 [] [12] [(0, .v (.int .u16 ↑h)), (2, vb true), (3, .v (.string (Go.strOfNums L))), (4, vb false), (5, vw ↑b), (15, vb false), (21, vb false), (38, vb false), (49, vb false), (55, vb false)] h45 d45 (fun a46 h46 d46 => ?_)
  clear h45 d45
  show Code.wp _ _ _ _ _
  refine wp_ret ?_
  exact ⟨d46, _, results_tmp rfl _ _ _, congrArg Ending.returned (h46.2 2 _ rfl), HB44⟩
set_option maxHeartbeats 8000000 in
set_option maxRecDepth 100000 in
theorem law_fin1 (h : Nat) (hh : h < 65536) (hs : h / 32768 = 1) (hz : h % 32768 ≠ 0) (hq : h % 32768 < 31744) (b m E x P : Nat) (L : List Int) (hL : 0 < L.length) (ht32 : HN.t32 h = b) (hc : cvs b = true) (hf : FtoaIs b (45 :: L)) (hto : impl_HalfTo.f 12 (h : Int) = some ((b : Nat) : Int)) (hTok : Tok L P) (hx : 10 ^ (200 - (L.length - P - 1)) * bv L = x) (hval : spec_SingleValue.f ((b : Nat) : Int) = some (((m : Nat) : Int), -((E : Nat) : Int))) (hkd : spec_SingleKind.f ((b : Nat) : Int) = some 0) (hsh : ∀ (w : World) (vd : Value) (ok : Nat → Prop), DV ok w vd x → Calls Tryd.prog 10 #[vd, .int .i64 ↑m, .int .i64 (-((E : Nat) : Int))] w fun e w' => e = .returned (.bool true) ∧ Below w.heap.size w w') (w : World) (HZ : GlobP w) :
    Calls Tryd.prog 3 #[.int .u16 (h : Int)] w fun e w' => e = .returned (.bool true) ∧ Below w.heap.size w w' := by
  refine calls_of_wp Tryd.func3 rfl ?_
  have h0 := has_one (β := bn []) (.v (.int .u16 (h : Int))) 81
  have d0 : (⟨#[.int .u16 (h : Int)] ++ Array.replicate 81 undef, []⟩ : Act).defers = [] := rfl
  have HB0 := Below.refl w.heap.size w
  refine wp_seq (wp_region ?_)
  refine oP 82 [] [0] [(0, .v (.int .u16 ↑h)), (2, vb false)] h0 d0 (fun a1 h1 d1 => ?_)
  clear h0 d0
  show Code.wp _ _ _ _ _
  refine wp_seq (wp_region ?_)
  refine oP 82 [1, 2] [0] [(0, .v (.int .u16 ↑h)), (2, vb false), (10, .v (.int .u16 ↑h))] h1 d1 (fun a2 h2 d2 => ?_)
  clear h1 d1
  refine callW_ops (N := 82) (i := 1) (d := 11) (f := 4) (args := [.v (.int .u16 ↑h)]) (l := [2]) rfl (want_ rfl) rfl (by decide) h2 Tryd.func4 rfl rfl rfl (by kernel_rfl) (fun v W' => v = (.string (Go.strOfNums (45 :: L))) ∧ Below (w).heap.size (w) W') ((text_walk h _ hh ht32 hc (45 :: L) (by simp) hf w (HZ.below HB0)).mono fun e w' hh => ⟨_, hh.1, rfl, hh.2⟩) (fun v3 W3 a3 hR3 h3 d3 => ?_)
  replace d3 := d3.trans d2
  clear h2 d2
  obtain ⟨rfl, B3⟩ := hR3
  have HB3 := below_step HB0 B3
  refine oP 82 [] [2] [(0, .v (.int .u16 ↑h)), (2, vb false), (3, .v (.string (Go.strOfNums (45 :: L))))] h3 d3 (fun a4 h4 d4 => ?_)
  clear h3 d3
  show Code.wp _ _ _ _ _
  refine wp_seq (wp_region ?_)
  refine oP 82 [2, 3] [0, 1] [(0, .v (.int .u16 ↑h)), (2, vb false), (3, .v (.string (Go.strOfNums (45 :: L)))), (12, .v (.int .u16 ↑h)), (13, .v (.int .u16 (((h : Nat) : Int) / 32768)))] h4 d4 (fun a5 h5 d5 => ?_)
  clear h4 d4
  rw [show (((h : Nat) : Int) / 32768) = 1 from sh15 h 1 hs] at h5
  refine oP 82 [] [2, 3] [(0, .v (.int .u16 ↑h)), (2, vb false), (3, .v (.string (Go.strOfNums (45 :: L)))), (4, vb true)] h5 d5 (fun a6 h6 d6 => ?_)
  clear h5 d5
  show Code.wp _ _ _ _ _
  refine wp_seq ?_
  refine wp_block ?_
  have hk := kind_fin h hh hq
  refine wp_seq (wp_region ?_)
  refine oP 82 [1, 2, 3] [0] [(0, .v (.int .u16 ↑h)), (2, vb false), (3, .v (.string (Go.strOfNums (45 :: L)))), (4, vb true), (16, .v (.int .u16 ↑h))] h6 d6 (fun a7 h7 d7 => ?_)
  clear h6 d6
  refine callW_ops (N := 82) (i := 1) (d := 17) (f := 5) (args := [.v (.int .u16 ↑h)]) (l := [2, 3]) rfl (want_ rfl) rfl (by decide) h7 Tryd.func5 rfl rfl rfl (by kernel_rfl) (fun v W' => v = (.int .i64 0) ∧ Below (W3).heap.size (W3) W') ((spec_HalfKind.calls _ _ W3 hk).mono fun e w' hh => ⟨_, hh.1, rfl, hh.2.below⟩) (fun v8 W8 a8 hR8 h8 d8 => ?_)
  replace d8 := d8.trans d7
  clear h7 d7
  obtain ⟨rfl, B8⟩ := hR8
  have HB8 := below_step HB3 B8
  refine oP 82 [] [2, 3] [(0, .v (.int .u16 ↑h)), (2, vb false), (3, .v (.string (Go.strOfNums (45 :: L)))), (4, vb true), (15, vb false)] h8 d8 (fun a9 h9 d9 => ?_)
  clear h8 d8
  show Code.wp _ _ _ _ _
  refine wp_cond_false (h9.2 15 _ rfl) ?_
  refine wp_seq (wp_region ?_)
  refine oP 82 [1, 2, 3] [0] [(0, .v (.int .u16 ↑h)), (2, vb false), (3, .v (.string (Go.strOfNums (45 :: L)))), (4, vb true), (15, vb false), (22, .v (.int .u16 ↑h))] h9 d9 (fun a10 h10 d10 => ?_)
  clear h9 d9
  refine callW_ops (N := 82) (i := 1) (d := 23) (f := 5) (args := [.v (.int .u16 ↑h)]) (l := [2, 3]) rfl (want_ rfl) rfl (by decide) h10 Tryd.func5 rfl rfl rfl (by kernel_rfl) (fun v W' => v = (.int .i64 0) ∧ Below (W8).heap.size (W8) W') ((spec_HalfKind.calls _ _ W8 hk).mono fun e w' hh => ⟨_, hh.1, rfl, hh.2.below⟩) (fun v11 W11 a11 hR11 h11 d11 => ?_)
  replace d11 := d11.trans d10
  clear h10 d10
  obtain ⟨rfl, B11⟩ := hR11
  have HB11 := below_step HB8 B11
  refine oP 82 [] [2, 3] [(0, .v (.int .u16 ↑h)), (2, vb false), (3, .v (.string (Go.strOfNums (45 :: L)))), (4, vb true), (15, vb false), (21, vb false)] h11 d11 (fun a12 h12 d12 => ?_)
  clear h11 d11
  show Code.wp _ _ _ _ _
  refine wp_cond_false (h12.2 21 _ rfl) ?_
  refine wp_seq (wp_region ?_)
  refine oP 82 [2, 3, 4, 5, 6, 7, 8, 9, 10] [0, 1] [(0, .v (.int .u16 ↑h)), (2, vb false), (3, .v (.string (Go.strOfNums (45 :: L)))), (4, vb true), (15, vb false), (21, vb false), (39, vb true), (40, vb true)] h12 d12 (fun a13 h13 d13 => ?_)
  clear h12 d12
  refine guard_ops (N := 82) (T := TT) (M := (fun _ _ => none)) tabOk (i := 2) (d := 41) (j := 1) (dj := 40) (b := true) (s := .v (.string (Go.strOfNums (45 :: L)))) (l := [3, 4, 5, 6, 7, 8, 9, 10]) (fun _ _ _ h => by cases h) rfl rfl rfl rfl rfl (by decide) h13 (by kernel_rfl) (fun a14 h14 d14 => ?_)
  replace d14 := d14.trans d13
  clear h13 d13
  refine gW (s := vb false) 82 [4, 5, 6, 7, 8, 9, 10] h14 d14 rfl (want_g h14 (j := 1) (d := 40) (b := true) rfl rfl rfl) rfl (by decide) (op_seq rfl (h14.2 41 _ rfl) rfl (str_ne _ _)) (fun a15 h15 d15 => ?_)
  clear h14 d14
  refine guard_ops (N := 82) (T := TT) (M := (fun _ _ => none)) tabOk (i := 4) (d := 43) (j := 1) (dj := 40) (b := true) (s := vb false) (l := [5, 6, 7, 8, 9, 10]) (fun _ _ _ h => by cases h) rfl rfl rfl rfl rfl (by decide) h15 (by kernel_rfl) (fun a16 h16 d16 => ?_)
  replace d16 := d16.trans d15
  clear h15 d15
  refine guard_ops (N := 82) (T := TT) (M := (fun _ _ => none)) tabOk (i := 5) (d := 44) (j := 4) (dj := 43) (b := false) (s := .v (.string (Go.strOfNums (45 :: L)))) (l := [6, 7, 8, 9, 10]) (fun _ _ _ h => by cases h) rfl rfl rfl rfl rfl (by decide) h16 (by kernel_rfl) (fun a17 h17 d17 => ?_)
  replace d17 := d17.trans d16
  clear h16 d16
  refine gW (s := vo 45) 82 [7, 8, 9, 10] h17 d17 rfl (want_g h17 (j := 4) (d := 43) (b := false) rfl rfl rfl) rfl (by decide) (op_sidx (c := 45) rfl (h17.2 44 _ rfl) rfl Tryd.underlying9 (by decide)) (fun a18 h18 d18 => ?_)
  clear h17 d17
  refine guard_ops (N := 82) (T := TT) (M := (fun _ _ => none)) tabOk (i := 7) (d := 46) (j := 4) (dj := 43) (b := false) (s := vb false) (l := [8, 9, 10]) (fun _ _ _ h => by cases h) rfl rfl rfl rfl rfl (by decide) h18 (by kernel_rfl) (fun a19 h19 d19 => ?_)
  replace d19 := d19.trans d18
  clear h18 d18
  refine gW (s := vb false) 82 [9, 10] h19 d19 rfl (want_g h19 (j := 1) (d := 40) (b := true) rfl rfl rfl) rfl (by decide) (op_pickF rfl (h19.2 43 _ rfl) (h19.2 46 _ rfl)) (fun a20 h20 d20 => ?_)
  clear h19 d19
  refine gW (s := vb false) 82 [10] h20 d20 rfl (want_ rfl) rfl (by decide) (op_pickT rfl (h20.2 40 _ rfl) (h20.2 47 _ rfl)) (fun a21 h21 d21 => ?_)
  clear h20 d20
  refine oP 82 [] [10] [(0, .v (.int .u16 ↑h)), (2, vb false), (3, .v (.string (Go.strOfNums (45 :: L)))), (4, vb true), (15, vb false), (21, vb false), (38, vb false)] h21 d21 (fun a22 h22 d22 => ?_)
  clear h21 d21
  show Code.wp _ _ _ _ _
  refine wp_cond_false (h22.2 38 _ rfl) ?_
  refine wp_seq (wp_region ?_)
  refine oP 82 [] [0, 1] [(0, .v (.int .u16 ↑h)), (2, vb false), (3, .v (.string (Go.strOfNums (45 :: L)))), (4, vb true), (15, vb false), (21, vb false), (38, vb false), (49, vb true)] h22 d22 (fun a23 h23 d23 => ?_)
  clear h22 d22
  show Code.wp _ _ _ _ _
  refine wp_cond_true (h23.2 49 _ rfl) ?_
  refine wp_region ?_
  refine oP 82 [1, 2] [0] [(0, .v (.int .u16 ↑h)), (2, vb false), (3, .v (.string (Go.strOfNums (45 :: L)))), (4, vb true), (15, vb false), (21, vb false), (38, vb false), (49, vb true), (51, .v (.string (Go.strOfNums (45 :: L))))] h23 d23 (fun a24 h24 d24 => ?_)
  clear h23 d23
  refine gW (s := .v (.string (Go.strOfNums L))) 82 [2] h24 d24 rfl (want_ rfl) rfl (by decide) (op_ssl rfl (h24.2 51 _ rfl) rfl Tryd.underlying9) (fun a25 h25 d25 => ?_)
  clear h24 d24
  refine oP 82 [] [2] [(0, .v (.int .u16 ↑h)), (2, vb false), (3, .v (.string (Go.strOfNums L))), (4, vb true), (15, vb false), (21, vb false), (38, vb false), (49, vb true)] h25 d25 (fun a26 h26 d26 => ?_)
  clear h25 d25
  show Code.wp _ _ _ _ _
  refine wp_seq ?_
  refine wp_seq (wp_region ?_)
  refine oP 82 [2] [0, 1] [(0, .v (.int .u16 ↑h)), (2, vb false), (3, .v (.string (Go.strOfNums L))), (4, vb true), (15, vb false), (21, vb false), (38, vb false), (49, vb true), (53, .v (.int .u16 ↑h)), (54, .v (.int .u16 (Go.bits .and .u16 ↑h 32767)))] h26 d26 (fun a27 h27 d27 => ?_)
  clear h26 d26
  rw [show (Go.bits .and .u16 ↑h 32767) = ((h % 32768 : Nat) : Int) from and15 h hh] at h27
  refine oP 82 [] [2] [(0, .v (.int .u16 ↑h)), (2, vb false), (3, .v (.string (Go.strOfNums L))), (4, vb true), (15, vb false), (21, vb false), (38, vb false), (49, vb true), (55, vb ((((h % 32768 : Nat) : Int) : Int) == 0))] h27 d27 (fun a28 h28 d28 => ?_)
  clear h27 d27
  rw [show ((((h % 32768 : Nat) : Int) : Int) == 0) = false from ne_zero _ hz] at h28
  show Code.wp _ _ _ _ _
  refine wp_cond_false (h28.2 55 _ rfl) ?_
  refine wp_skip ?_
  show Code.wp _ _ _ _ _
  refine wp_seq (wp_region ?_)
  refine oP 82 [1, 2] [0] [(0, .v (.int .u16 ↑h)), (2, vb false), (3, .v (.string (Go.strOfNums L))), (4, vb true), (15, vb false), (21, vb false), (38, vb false), (49, vb true), (55, vb false), (58, .v (.int .u16 ↑h))] h28 d28 (fun a29 h29 d29 => ?_)
  clear h28 d28
  refine callW_ops (N := 82) (i := 1) (d := 59) (f := 6) (args := [.v (.int .u16 ↑h)]) (l := [2]) rfl (want_ rfl) rfl (by decide) h29 Tryd.func6 rfl rfl rfl (by kernel_rfl) (fun v W' => v = (.int .u32 ↑b) ∧ Below (W11).heap.size (W11) W') ((impl_HalfTo.calls 12 _ _ W11 hto).mono fun e w' hh => ⟨_, hh.1, rfl, hh.2.below⟩) (fun v30 W30 a30 hR30 h30 d30 => ?_)
  replace d30 := d30.trans d29
  clear h29 d29
  obtain ⟨rfl, B30⟩ := hR30
  have HB30 := below_step HB11 B30
  refine oP 82 [] [2] [(0, .v (.int .u16 ↑h)), (2, vb false), (3, .v (.string (Go.strOfNums L))), (4, vb true), (5, vw ↑b), (15, vb false), (21, vb false), (38, vb false), (49, vb true), (55, vb false)] h30 d30 (fun a31 h31 d31 => ?_)
  clear h30 d30
  show Code.wp _ _ _ _ _
  refine wp_seq (wp_region ?_)
  refine oP 82 [1, 2, 3, 4, 5, 6] [0] [(0, .v (.int .u16 ↑h)), (2, vb false), (3, .v (.string (Go.strOfNums L))), (4, vb true), (5, vw ↑b), (15, vb false), (21, vb false), (38, vb false), (49, vb true), (55, vb false), (61, .v (.string (Go.strOfNums L)))] h31 d31 (fun a32 h32 d32 => ?_)
  clear h31 d31
  refine callW_ops (N := 82) (i := 1) (d := 62) (f := 7) (args := [.v (.string (Go.strOfNums L))]) (l := [2, 3, 4, 5, 6]) rfl (want_ rfl) rfl (by decide) h32 Tryd.func7 rfl rfl rfl (by kernel_rfl) (fun u W' => ∃ vd, u = .tuple #[vd, .bool true] ∧ Ans W30 x vd W') ((read_walk L P hTok W30).mono fun e w' hh => by obtain ⟨v', e1, e2⟩ := hh; exact ⟨_, e1, v', rfl, by rw [← hx]; exact e2⟩) (fun v33 W33 a33 hR33 h33 d33 => ?_)
  replace d33 := d33.trans d32
  clear h32 d32
  obtain ⟨vd, rfl, hd, B33⟩ := hR33
  have HB33 := below_step HB30 B33
  refine oP 82 [] [2, 3, 4, 5, 6] [(0, .v (.int .u16 ↑h)), (2, vb false), (3, .v (.string (Go.strOfNums L))), (4, vb true), (5, vw ↑b), (6, .v vd), (7, vb true), (15, vb false), (21, vb false), (38, vb false), (49, vb true), (55, vb false)] h33 d33 (fun a34 h34 d34 => ?_)
  clear h33 d33
  show Code.wp _ _ _ _ _
  refine wp_seq (wp_region ?_)
  refine oP 82 [1, 2, 3, 4, 5, 6] [0] [(0, .v (.int .u16 ↑h)), (2, vb false), (3, .v (.string (Go.strOfNums L))), (4, vb true), (5, vw ↑b), (6, .v vd), (7, vb true), (15, vb false), (21, vb false), (38, vb false), (49, vb true), (55, vb false), (66, vw ↑b)] h34 d34 (fun a35 h35 d35 => ?_)
  clear h34 d34
  refine callW_ops (N := 82) (i := 1) (d := 67) (f := 8) (args := [(vw ↑b)]) (l := [2, 3, 4, 5, 6]) rfl (want_ rfl) rfl (by decide) h35 Tryd.func8 rfl rfl rfl (by kernel_rfl) (fun v W' => v = (.tuple #[.int .i64 ↑m, .int .i64 (-((E : Nat) : Int))]) ∧ Below (W33).heap.size (W33) W') ((spec_SingleValue.calls _ _ _ W33 hval).mono fun e w' hh => ⟨_, hh.1, rfl, hh.2.below⟩) (fun v36 W36 a36 hR36 h36 d36 => ?_)
  replace d36 := d36.trans d35
  clear h35 d35
  obtain ⟨rfl, B36⟩ := hR36
  have HB36 := below_step HB33 B36
  replace hd := hd.step B36
  refine oP 82 [] [2, 3, 4, 5, 6] [(0, .v (.int .u16 ↑h)), (2, vb false), (3, .v (.string (Go.strOfNums L))), (4, vb true), (5, vw ↑b), (6, .v vd), (7, vb true), (8, vi ↑m), (9, vi (-((E : Nat) : Int))), (15, vb false), (21, vb false), (38, vb false), (49, vb true), (55, vb false)] h36 d36 (fun a37 h37 d37 => ?_)
  clear h36 d36
  show Code.wp _ _ _ _ _
  refine wp_seq (wp_region ?_)
  refine oP 82 [2, 3, 4, 5, 6, 7, 8, 9, 10, 11, 12] [0, 1] [(0, .v (.int .u16 ↑h)), (2, vb false), (3, .v (.string (Go.strOfNums L))), (4, vb true), (5, vw ↑b), (6, .v vd), (7, vb true), (8, vi ↑m), (9, vi (-((E : Nat) : Int))), (15, vb false), (21, vb false), (38, vb false), (49, vb true), (55, vb false), (70, vb true), (71, vb true)] h37 d37 (fun a38 h38 d38 => ?_)
  clear h37 d37
  refine guard_ops (N := 82) (T := TT) (M := (fun _ _ => none)) tabOk (i := 2) (d := 72) (j := 1) (dj := 71) (b := true) (s := vw ↑b) (l := [3, 4, 5, 6, 7, 8, 9, 10, 11, 12]) (fun _ _ _ h => by cases h) rfl rfl rfl rfl rfl (by decide) h38 (by kernel_rfl) (fun a39 h39 d39 => ?_)
  replace d39 := d39.trans d38
  clear h38 d38
  refine callW_ops (N := 82) (i := 3) (d := 73) (f := 9) (args := [(vw ↑b)]) (l := [4, 5, 6, 7, 8, 9, 10, 11, 12]) rfl (want_g h39 (j := 1) (d := 71) (b := true) rfl rfl rfl) rfl (by decide) h39 Tryd.func9 rfl rfl rfl (by kernel_rfl) (fun v W' => v = .int .i64 0 ∧ Below (W36).heap.size W36 W') ((spec_SingleKind.calls _ _ W36 hkd).mono fun e w' hh => ⟨_, hh.1, rfl, hh.2.below⟩) (fun v40 W40 a40 hR40 h40 d40 => ?_)
  replace d40 := d40.trans d39
  clear h39 d39
  obtain ⟨rfl, B40⟩ := hR40
  have HB40 := below_step HB36 B40
  replace hd := hd.step B40
  refine guard_ops (N := 82) (T := TT) (M := (fun _ _ => none)) tabOk (i := 4) (d := 74) (j := 1) (dj := 71) (b := true) (s := vb true) (l := [5, 6, 7, 8, 9, 10, 11, 12]) (fun _ _ _ h => by cases h) rfl rfl rfl rfl rfl (by decide) h40 (by kernel_rfl) (fun a41 h41 d41 => ?_)
  replace d41 := d41.trans d40
  clear h40 d40
  refine gW (s := vb true) 82 [6, 7, 8, 9, 10, 11, 12] h41 d41 rfl (want_ rfl) rfl (by decide) (op_pickT rfl (h41.2 71 _ rfl) (h41.2 74 _ rfl)) (fun a42 h42 d42 => ?_)
  clear h41 d41
  refine oP 82 [7, 8, 9, 10, 11, 12] [6] [(0, .v (.int .u16 ↑h)), (2, vb false), (3, .v (.string (Go.strOfNums L))), (4, vb true), (5, vw ↑b), (6, .v vd), (7, vb true), (8, vi ↑m), (9, vi (-((E : Nat) : Int))), (15, vb false), (21, vb false), (38, vb false), (49, vb true), (55, vb false), (70, vb true), (71, vb true), (72, vw ↑b), (73, vi 0), (74, vb true), (75, vb true), (76, vb true)] h42 d42 (fun a43 h43 d43 => ?_)
  clear h42 d42
  refine guard_ops (N := 82) (T := TT) (M := (fun _ _ => none)) tabOk (i := 7) (d := 77) (j := 6) (dj := 76) (b := true) (s := .v vd) (l := [8, 9, 10, 11, 12]) (fun _ _ _ h => by cases h) rfl rfl rfl rfl rfl (by decide) h43 (by kernel_rfl) (fun a44 h44 d44 => ?_)
  replace d44 := d44.trans d43
  clear h43 d43
  refine guard_ops (N := 82) (T := TT) (M := (fun _ _ => none)) tabOk (i := 8) (d := 78) (j := 6) (dj := 76) (b := true) (s := vi ↑m) (l := [9, 10, 11, 12]) (fun _ _ _ h => by cases h) rfl rfl rfl rfl rfl (by decide) h44 (by kernel_rfl) (fun a45 h45 d45 => ?_)
  replace d45 := d45.trans d44
  clear h44 d44
  refine guard_ops (N := 82) (T := TT) (M := (fun _ _ => none)) tabOk (i := 9) (d := 79) (j := 6) (dj := 76) (b := true) (s := vi (-((E : Nat) : Int))) (l := [10, 11, 12]) (fun _ _ _ h => by cases h) rfl rfl rfl rfl rfl (by decide) h45 (by kernel_rfl) (fun a46 h46 d46 => ?_)
  replace d46 := d46.trans d45
  clear h45 d45
  refine callW_ops (N := 82) (i := 10) (d := 80) (f := 10) (args := [.v vd, vi ↑m, vi (-((E : Nat) : Int))]) (l := [11, 12]) rfl (want_g h46 (j := 6) (d := 76) (b := true) rfl rfl rfl) rfl (by decide) h46 Tryd.func10 rfl rfl rfl (by kernel_rfl) (fun v W' => v = .bool true ∧ Below (W40).heap.size W40 W') ((hsh W40 vd _ hd).mono fun e w' hh => ⟨_, hh.1, rfl, hh.2⟩) (fun v47 W47 a47 hR47 h47 d47 => ?_)
  replace d47 := d47.trans d46
  clear h46 d46
  obtain ⟨rfl, B47⟩ := hR47
  have HB47 := below_step HB40 B47
  refine gW (s := vb true) 82 [12] h47 d47 rfl (want_ rfl) rfl (by decide) (op_pickT rfl (h47.2 76 _ rfl) (h47.2 80 _ rfl)) (fun a48 h48 d48 => ?_)
  clear h47 d47
  refine oP 82 [] [12] [(0, .v (.int .u16 ↑h)), (2, vb true), (3, .v (.string (Go.strOfNums L))), (4, vb true), (5, vw ↑b), (15, vb false), (21, vb false), (38, vb false), (49, vb true), (55, vb false)] h48 d48 (fun a49 h49 d49 => ?_)
  clear h48 d48
  show Code.wp _ _ _ _ _
  refine wp_ret ?_
  exact ⟨d49, _, results_tmp rfl _ _ _, congrArg Ending.returned (h49.2 2 _ rfl), HB47⟩
end Go.Proofs.YtmgnffklmdhooaaDoor.PAll
namespace Go.Proofs.YtmgnffklmdhooaaDoor.PAll
open Go.RowKit Go.Proofs.YtmgnffklmdhooaaDoorW.PrintWords Go.Proofs.YtmgnffklmdhooaaDoorW.PrintLast Go.Proofs.YtmgnffklmdhooaaDoorW.PrintMore
set_option linter.unusedVariables false
set_option linter.unusedSimpArgs false
theorem dg_noughts (N : Nat) (hN : N ≠ 0) : ∀ k, dg (N * 10 ^ k) = List.replicate k 0 ++ dg N
  | 0 => by simp
  | k + 1 => by
    have hp : N * 10 ^ k ≠ 0 := Nat.mul_ne_zero hN (Nat.pos_iff_ne_zero.1 (Nat.pow_pos (by decide)))
    have h := dg_step 0 (N * 10 ^ k) (by decide) hp
    have e : N * 10 ^ (k + 1) = 0 + 10 * (N * 10 ^ k) := by rw [Nat.pow_succ, ← Nat.mul_assoc, Nat.zero_add, Nat.mul_comm]
    rw [e, h, dg_noughts N hN k]
    rfl
theorem p5 (k : Nat) (h : k ≤ 200) : 10 ^ (200 - k) * 5 ^ k ≤ 10 ^ 200 := by
  have h1 : 5 ^ k ≤ 10 ^ k := Nat.pow_le_pow_left (by decide) k
  have h2 : 10 ^ (200 - k) * 10 ^ k = 10 ^ 200 := by
    rw [← Nat.pow_add]
    congr 1
    omega
  exact Nat.le_trans (Nat.mul_le_mul_left _ h1) (Nat.le_of_eq h2)
theorem len_scaled (m k : Nat) (hm : m < 100000000) (h : k ≤ 200) : (dg (m * 10 ^ (200 - k) * 5 ^ k)).length < 900 := by
  have h1 : m * 10 ^ (200 - k) * 5 ^ k < 10 ^ 8 * 10 ^ 200 := by
    rw [Nat.mul_assoc]
    exact Nat.lt_of_le_of_lt (Nat.mul_le_mul_left m (p5 k h)) (Nat.mul_lt_mul_of_pos_right hm (Nat.pow_pos (by decide)))
  have h2 : (dg (m * 10 ^ (200 - k) * 5 ^ k)).length ≤ 208 := dg_len_le (by
    have e : (10 : Nat) ^ 208 = 10 ^ 8 * 10 ^ 200 := Nat.pow_add 10 8 200
    rw [e]
    exact h1)
  omega
theorem len_x (N k : Nat) (hN : N < 1000000000) (hk : k ≤ 300) : (dg (N * 10 ^ k)).length < 900 := by
  have h2 : (dg (N * 10 ^ k)).length ≤ 9 + k := dg_len_le (by
    rw [Nat.pow_add]
    exact Nat.mul_lt_mul_of_pos_right hN (Nat.pow_pos (by decide)))
  omega
theorem rd_noughts {N k : Nat} (hN : N % 10 ≠ 0) : k < (dg (N * 10 ^ k)).length ∧ (∀ i, i < k → rd (dg (N * 10 ^ k)) (i : Int) = 0) ∧ rd (dg (N * 10 ^ k)) (k : Int) ≠ 0 := by
  have h0 : N ≠ 0 := fun e => hN (by rw [e])
  rw [dg_noughts N h0 k, dg_pos h0]
  refine ⟨by simp, fun i hi => ?_, ?_⟩
  · rw [rd_app1 _ _ _ (by simpa using hi), rd_rep _ _ _ hi]
  · rw [rd_app2 _ _ _ (by simp)]
    simp [rd]
    omega
/-- HalfShort, of what is seen of a half. -/
theorem short_ok (m E R n nd : Nat) (PR : Int) (hE1 : 1 ≤ E) (hE : E ≤ 100) (hm1 : 1 ≤ m) (hm : m < 20000000) (hs : seenB m E R n nd PR = true) (w : World) (vd : Value) (ok : Nat → Prop) (hd : DV ok w vd (R / 10 ^ (n - nd) * 10 ^ (200 + ((n : Int) + PR) - nd).toNat)) :
    Calls Tryd.prog 10 #[vd, .int .i64 ((m : Nat) : Int), .int .i64 (-((E : Nat) : Int))] w fun e w' => e = .returned (.bool true) ∧ Below w.heap.size w w' := by
  unfold seenB shortB at hs
  simp only [Bool.and_eq_true, decide_eq_true_eq, Bool.not_eq_true'] at hs
  obtain ⟨⟨h1, h2, h3, h4, h5, h6, h7, h8, h9, h10⟩, h11, h12, h13, h14, h15⟩ := hs
  have hN : R / 10 ^ (n - nd) < 1000000000 := Nat.lt_of_le_of_lt (Nat.div_le_self _ _) h5
  have hk : (200 + ((n : Int) + PR) - nd).toNat ≤ 300 := by omega
  generalize (200 + ((n : Int) + PR) - nd).toNat = last at *
  generalize R / 10 ^ (n - nd) = N at *
  obtain ⟨r1, r2, r3⟩ := rd_noughts (k := last) h10
  have hx := len_x N last hN hk
  have hLl := len_scaled (2 * m - 1) (E + 1) (by omega) (by omega)
  have hHl := len_scaled (2 * m + 1) (E + 1) (by omega) (by omega)
  have hVl := len_scaled m E (by omega) (by omega)
  unfold lowN at h11 h12 h13
  by_cases hmb : m = 8388608
  · rw [if_pos hmb] at h11 h12 h13
    have hll := len_scaled (4 * m - 1) (E + 2) (by omega) (by omega)
    exact hs_walk_even m E _ last _ _ _ hmb hE1 hE hm1 (by omega) rfl rfl rfl hLl hll hHl hx hVl r1 r2 r3 h11 h12 h13 h14 h15 w vd hd
  · rw [if_neg hmb] at h11 h12 h13
    exact hs_walk_odd m E _ last _ _ _ hmb hE1 hE hm1 (by omega) rfl rfl rfl hLl hLl hHl hx hVl r1 r2 r3 h11 h12 h13 h14 h15 w vd hd
theorem sfC_of (ex fr R : Nat) (PR : Int) (hf : fr < 8388608) (h : sfN ((8388608 + fr) * 1099511627776) ((ex : Int) - 190) = some (((R : Nat) : Int), PR)) : sfC (((8388608 + fr) * 1099511627776 : Nat) : Int) ((ex : Int) - 190) = some (((R : Nat) : Int), PR) := by
  rw [sfC_N _ _ (by omega)]
  exact h
theorem t32_s (h s y : Nat) (hs : h / 32768 = s) (hy : h % 32768 = y) : HN.t32 h = s * 2147483648 + HN.tf y := by
  unfold HN.t32
  rw [hs, hy]
theorem tf_inf : HN.tf 31744 = 2139095040 := by kernel_rfl
theorem tf_zero : HN.tf 0 = 0 := by kernel_rfl
theorem tf_nan (y : Nat) (h1 : 31744 < y) (h2 : y < 32768) : 2139095040 < HN.tf y ∧ HN.tf y < 2147483648 := by
  have e1 : y / 1024 = 31 := by omega
  have e2 : ¬ y % 1024 = 0 := by omega
  have e3 : 4194304 ≤ 4194304 ||| y % 1024 * 8192 := Nat.left_le_or
  have e4 : 4194304 ||| y % 1024 * 8192 < 2 ^ 23 := Nat.or_lt_two_pow (by decide) (by omega)
  unfold HN.tf
  rw [if_pos e1, if_neg e2]
  omega
theorem value_fin (s ex fr b : Nat) (hs : s ≤ 1) (hb : b = s * 2147483648 + ex * 8388608 + fr) (h1 : 1 ≤ ex) (h2 : ex ≤ 149) (hf : fr < 8388608) : spec_SingleValue.f ((b : Nat) : Int) = some (((8388608 + fr : Nat) : Int), -((150 - ex : Nat) : Int)) := by
  have e1 : b / 8388608 % 256 = ex := by omega
  have e2 : b % 8388608 = fr := by omega
  have e3 : ((ex : Nat) : Int) - 150 = -((150 - ex : Nat) : Int) := by omega
  rw [valueS b (by omega), e1, e2, if_neg (by omega), e3]
theorem kind_fin32 (s ex fr b : Nat) (hs : s ≤ 1) (hb : b = s * 2147483648 + ex * 8388608 + fr) (h2 : ex ≤ 254) (hf : fr < 8388608) : spec_SingleKind.f ((b : Nat) : Int) = some 0 := by
  have e1 : b / 8388608 % 256 = ex := by omega
  rw [kindS b (by omega), e1, if_neg (by omega)]
theorem law_fin (h s y : Nat) (hh : h < 65536) (hs : h / 32768 = s) (hy : h % 32768 = y) (h0 : y ≠ 0) (h1 : y < 31744) (w : World) (HZ : GlobP w) :
    Calls Tryd.prog 3 #[.int .u16 (h : Int)] w fun e w' => e = .returned (.bool true) ∧ Below w.heap.size w w' := by
  obtain ⟨R, PR, e1, e2, e3, e4⟩ := halfB_of (half_all y (by omega) h1)
  have hs1 : s ≤ 1 := by omega
  have ht := t32_s h s y hs hy
  have hto := toH h hh 0
  generalize HN.tf y = t at e1 e2 e3 e4 ht
  generalize hex : t / 8388608 = ex at e1 e2 e3 e4
  generalize hfr : t % 8388608 = fr at e3 e4
  have hf : fr < 8388608 := by omega
  generalize hb : HN.t32 h = b at ht hto
  have hte : t = ex * 8388608 + fr := by
    have h9 := Nat.div_add_mod t 8388608
    rw [hex, hfr] at h9
    rw [← h9, Nat.mul_comm]
  have hbe : b = s * 2147483648 + ex * 8388608 + fr := by rw [ht, hte, Nat.add_assoc]
  have hc : cvs b = true := by
    rw [hbe]
    exact cvs_ok s ex fr hs1 (by omega) (by omega) hf
  have hC := sfC_of ex fr R PR hf e3
  have hsee := e4
  unfold seenB at hsee
  simp only [Bool.and_eq_true, decide_eq_true_eq] at hsee
  obtain ⟨⟨q1, q2, q3, q4, q5, q6, q7, q8, q9, q10⟩, -⟩ := hsee
  have hF := ftoaIs_fin s ex fr b R PR hs1 hbe (by omega) (by omega) hf hC q1 q2 q3 q5 q6 q7 q8 q9
  unfold txtL at hF
  generalize hn : ndN R = n at *
  generalize hnd : strip (dgC n R) n = nd at *
  have hc0 : dgC n R 0 ≠ 48 := by
    have h5 : 0 < R / 10 ^ (n - 1) := Nat.div_pos q4 (Nat.pow_pos (by decide))
    have h6 : R / 10 ^ (n - 1) < 10 := by
      apply Nat.div_lt_of_lt_mul
      rw [← Nat.pow_succ, Nat.succ_eq_add_one, Nat.sub_add_cancel (by omega)]
      exact q3
    unfold dgC
    rw [Nat.sub_zero]
    omega
  have hcz : dgC n R (nd - 1) ≠ 48 := by
    unfold dgC
    have e : n - 1 - (nd - 1) = n - nd := by omega
    rw [e]
    omega
  obtain ⟨P, hTok, hx⟩ := efg_tok (dgC n R) nd ((n : Int) + PR) q8 (by omega) (fun i _ => by unfold dgC; omega) hc0 hcz (by omega) (by omega)
  rw [bv_dgC n R q3 nd q9] at hx
  have hL : 0 < (efgR false (dgC n R) ((n : Int) + PR) nd).length := by
    have := hTok.tx.le
    have := hTok.p0
    omega
  have hval := value_fin s ex fr b hs1 hbe (by omega) (by omega) hf
  have hkd := kind_fin32 s ex fr b hs1 hbe (by omega) hf
  have hsh := short_ok (8388608 + fr) (150 - ex) R n nd PR (by omega) (by omega) (by omega) (by omega) e4
  rcases Nat.le_one_iff_eq_zero_or_eq_one.1 hs1 with rfl | rfl
  · exact law_fin0 h hh hs (by omega) (by omega) b _ _ _ P _ hL hb hc hF hto hTok hx hval hkd hsh w HZ
  · exact law_fin1 h hh hs (by omega) (by omega) b _ _ _ P _ hL hb hc hF hto hTok hx hval hkd hsh w HZ
theorem half_law (h : Nat) (hh : h < 65536) (w : World) (HZ : GlobP w) :
    Calls Tryd.prog 3 #[.int .u16 (h : Int)] w fun e w' => e = .returned (.bool true) ∧ Below w.heap.size w w' := by
  have hs : h / 32768 = 0 ∨ h / 32768 = 1 := by omega
  by_cases h1 : 31744 < h % 32768
  · refine law_nan h hh h1 ?_ w HZ
    have h2 := tf_nan (h % 32768) h1 (by omega)
    rcases hs with hs | hs
    · left
      rw [t32_s h _ _ hs rfl]
      omega
    · right
      rw [t32_s h _ _ hs rfl]
      omega
  · by_cases h2 : h % 32768 = 31744
    · rcases hs with hs | hs
      · exact law_inf0 h hh hs h2 (by rw [t32_s h _ _ hs h2, tf_inf]) (by kernel_rfl) ftoaIs_inf w HZ
      · exact law_inf1 h hh hs h2 (by rw [t32_s h _ _ hs h2, tf_inf]) (by kernel_rfl) ftoaIs_minf w HZ
    · by_cases h3 : h % 32768 = 0
      · rcases hs with hs | hs
        · exact law_zero0 h hh hs h3 (by omega) (by rw [t32_s h _ _ hs h3, tf_zero]) (by kernel_rfl) ftoaIs_zero w HZ
        · exact law_zero1 h hh hs h3 (by omega) (by rw [t32_s h _ _ hs h3, tf_zero]) (by kernel_rfl) ftoaIs_minus w HZ
      · exact law_fin h _ _ hh rfl rfl h3 (by omega) w HZ
end Go.Proofs.YtmgnffklmdhooaaDoor.PAll
namespace Go.Proofs.YtmgnffklmdhooaaDoor.PAll
open Go.RowKit Go.Proofs.YtmgnffklmdhooaaDoorW.PrintWords Go.Proofs.YtmgnffklmdhooaaDoorW.PrintLast Go.Proofs.YtmgnffklmdhooaaDoorW.PrintMore
set_option linter.unusedVariables false
set_option linter.unusedSimpArgs false
set_option maxRecDepth 100000
theorem gPow : Tryd.prog.globalNamed "internal/strconv.uint64pow10" = some 2 := by kernel_rfl
theorem tPow : (Tryd.prog.globals[2]?).map (·.type) = some 87 := by kernel_rfl
theorem gTab : Tryd.prog.globalNamed "internal/strconv.pow10Tab" = some 3 := by kernel_rfl
theorem tTab : (Tryd.prog.globals[3]?).map (·.type) = some 97 := by kernel_rfl
def powZ : List Int := (List.range 20).map fun i => ((10 ^ i : Nat) : Int)
theorem pow_tab : (Rows.laid_internal_strconv_uint64pow10 : DataW Unit) = Lib.tabData .u64 powZ := by kernel_rfl
/-- A row of pairs of numbers of 64 bits reads as it holds. -/
theorem cells_of_pairs {P : Program} {w : World} {fuel : Nat} {t e : TypeId} {n : Nat} {cs : List Value} {f0 f1 : Field} {zs : List (Nat × Nat)} {p : List MemPlace}
    (ht : P.underlying t = some (.array n e)) (he : P.underlying e = some (.struct #[f0, f1])) (ho0 : f0.offset = 0) (ho1 : f1.offset = 1) (hu0 : P.underlying f0.type = some (.int .u64)) (hu1 : P.underlying f1.type = some (.int .u64)) (hc0 : P.cellsOf f0.type = 1) (hc1 : P.cellsOf f1.type = 1) (hce : P.cellsOf e = 2)
    (h : DataW.trod (fun _ => ()) P w 0 (fun _ => true) false fuel t cs = some (.agg (zs.map fun x => .agg [.lit (.int .u64 x.1), .lit (.int .u64 x.2)]), p)) (i : Nat) (hi : i < n) (x : Nat × Nat) (hx : zs[i]? = some x) :
    cs[i * 2]? = some (.int .u64 x.1) ∧ cs[i * 2 + 1]? = some (.int .u64 x.2) := by
  cases fuel with
  | zero => simp [DataW.trod] at h
  | succ fuel =>
    simp only [DataW.trod, ht, hce] at h
    split at h
    · rename_i hl
      obtain ⟨xs, hm, hxx⟩ := Option.map_eq_some_iff.1 h
      have hxs : xs.map (·.1) = zs.map fun x => (DataW.agg [.lit (.int .u64 x.1), .lit (.int .u64 x.2)] : DataW Unit) := by
        have := congrArg Prod.fst hxx
        simpa using this
      obtain ⟨b, hb, hf⟩ := Lib.mapM_at hm i i (by simp [hi])
      have h2 : (xs.map (·.1))[i]? = some b.1 := by simp [hb]
      rw [hxs, List.getElem?_map, hx] at h2
      simp only [Option.map_some, Option.some.injEq] at h2
      obtain ⟨y0, y1, m, hy, _, h0, h1⟩ := Go.ChangeShapes.trod_struct2 he hf
      rw [hy] at h2
      simp only [DataW.agg.injEq, List.cons.injEq, and_true] at h2
      obtain ⟨e0, e1⟩ := h2
      rw [ho0, hc0] at h0
      rw [ho1, hc1] at h1
      obtain ⟨z0, q0, w0, _⟩ := DataW.trod_int hu0 h0
      obtain ⟨z1, q1, w1, _⟩ := DataW.trod_int hu1 h1
      rw [w0] at e0
      rw [w1] at e1
      simp only [DataW.lit.injEq, Lit.int.injEq, true_and] at e0 e1
      subst e0
      subst e1
      constructor
      · have := congrArg (·[0]?) q0
        simpa [List.getElem?_take, List.getElem?_drop] using this
      · have := congrArg (·[0]?) q1
        simpa [List.getElem?_take, List.getElem?_drop] using this
    · cases h
theorem rows_pow : ∀ i, i < 13 → Go.Pinned.pow10Rows[i + 351]? = some (10 ^ (i + 3) * 2 ^ (63 - Nat.log2 (10 ^ (i + 3))), 0) := by decide +kernel
theorem globP_of {W : World} (h : laidMetH Tryd.prog Rows.fnHalfTextRow.laid W) : GlobP W := by
  rw [MakeChecks.laidMetH_plain _ _ _ (by kernel_rfl)] at h
  obtain ⟨ps, ⟨g0, t0, cs0, f0, p0, q0, _, _, _, _, ⟨g1, t1, cs1, f1, p1, q1, _, _, _, _, ⟨g2, t2, cs2, f2, p2, q2, _, _, _, _, ⟨g3, t3, cs3, f3, p3, q3, hg3, ht3, hv3, hd3, ⟨g4, t4, cs4, f4, p4, q4, _, _, _, _, ⟨g5, t5, cs5, f5, p5, q5, hg5, ht5, hv5, hd5, _, _⟩, _⟩, _⟩, _⟩, _⟩, _⟩, _, _⟩ := h
  obtain rfl := Option.some.inj (gPow.symm.trans hg3)
  obtain rfl := Option.some.inj (tPow.symm.trans ht3)
  obtain rfl := Option.some.inj (gTab.symm.trans hg5)
  obtain rfl := Option.some.inj (tTab.symm.trans ht5)
  rw [pow_tab] at hd3
  have hp := Lib.cells_of_tab Tryd.underlying87 Tryd.underlying54 (by kernel_rfl) (by kernel_rfl) hd3
  have hq := cells_of_pairs Tryd.underlying97 Tryd.underlying96 rfl rfl Tryd.underlying54 Tryd.underlying54 (by kernel_rfl) (by kernel_rfl) (by kernel_rfl) hd5
  have c3 := fun i => World.var?_cell hg3 hv3 i
  have c5 := fun i => World.var?_cell hg5 hv5 i
  have r := fun i (h1 : 3 ≤ i) (h2 : i ≤ 15) => hq (i + 348) (by omega) _ (by
    have := rows_pow (i - 3) (by omega)
    have e1 : i - 3 + 351 = i + 348 := by omega
    have e2 : i - 3 + 3 = i := by omega
    rw [e1, e2] at this
    exact this)
  refine ⟨fun i hi => ?_, fun i h1 h2 => ?_, fun i h1 h2 => ?_⟩
  · rw [c3 i, ← Array.getElem?_toList, hp]
    simp [powZ, hi]
  · rw [c5 _, ← Array.getElem?_toList, (r i h1 h2).1]
  · rw [c5 _, ← Array.getElem?_toList, (r i h1 h2).2]
    rfl
theorem halfText_law (a : Int) (ha : 0 ≤ a ∧ a ≤ 65535) (w : World) (hL : laidMetH Tryd.prog Rows.fnHalfTextRow.laid w) :
    Calls Tryd.prog 3 #[.int .u16 a] w fun e w' => e = .returned (.bool true) ∧ Below w.heap.size w w' := by
  obtain ⟨x, rfl⟩ := Int.eq_ofNat_of_zero_le ha.1
  exact half_law x (by omega) w (globP_of hL)
end Go.Proofs.YtmgnffklmdhooaaDoor.PAll
