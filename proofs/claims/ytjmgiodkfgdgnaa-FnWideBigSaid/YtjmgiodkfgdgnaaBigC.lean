/- math/big's setBytes, SetBytes, Sign, BitLen, Uint64, Neg of itself and Rsh by 64 of itself: what they leave in memory; for rows of fewer than 900 octets, each below 256. -/
import Derived.Test.YtjmgiodkfgdgnaaBigB
import Derived.Test.YtjmgiodkfgdgnaaPAllx1
import Derived.Laws.BitsLemmas
import Derived.Laws.Bits64b
import Derived.Lib.Builder
namespace Go.Proofs.Ytjmgiodkfgdgnaa.PAll
open Go.RowKit Go.Proofs.YtjmgiodkfgdgnaaW.PrintWords Go.Proofs.YtjmgiodkfgdgnaaW.PrintLast Go.Proofs.YtjmgiodkfgdgnaaW.PrintMore
set_option linter.unusedVariables false
set_option linter.unusedSimpArgs false
/-- The number of the octets l, the highest first. -/
def beN (l : List Nat) : Nat := l.foldl (fun a o => 256 * a + o) 0
theorem beN_from (l : List Nat) (a : Nat) : l.foldl (fun a o => 256 * a + o) a = a * 256 ^ l.length + beN l := by
  induction l generalizing a with
  | nil => simp [beN]
  | cons o t ih =>
    unfold beN
    rw [List.foldl_cons, List.foldl_cons, ih, ih (256 * 0 + o), List.length_cons, Nat.pow_succ, Nat.mul_zero, Nat.zero_add, Nat.add_mul, Nat.mul_comm 256 a, Nat.mul_assoc, Nat.mul_comm 256 (256 ^ _), Nat.add_assoc]
theorem beN_append (a b : List Nat) : beN (a ++ b) = beN a * 256 ^ b.length + beN b := by
  unfold beN
  rw [List.foldl_append, beN_from]
  rfl
theorem beN_lt (l : List Nat) (h : ∀ o ∈ l, o < 256) : beN l < 256 ^ l.length := by
  induction l with
  | nil => simp [beN]
  | cons o t ih =>
    have h1 : beN (o :: t) = o * 256 ^ t.length + beN t := by
      have := beN_append [o] t
      simpa [beN] using this
    have h2 := ih (fun x hx => h x (List.mem_cons_of_mem _ hx))
    have h3 := h o List.mem_cons_self
    have h4 : (o + 1) * 256 ^ t.length ≤ 256 * 256 ^ t.length := Nat.mul_le_mul_right _ h3
    rw [Nat.add_mul, Nat.one_mul] at h4
    rw [h1, List.length_cons, Nat.pow_succ]
    omega
/-- The row at A holds the octets l. -/
def Oc (W : World) (A : Option Addr) (l : List Nat) : Prop := Kd.C (Kd.int .u8) W A l.length (l.map (fun (x : Nat) => (x : Int)))
theorem addr_add2 (a : Addr) (i j : Nat) : (a.add i).add j = a.add (i + j) := by
  unfold Addr.add
  by_cases hi : i = 0
  · subst hi
    simp
  · by_cases hj : j = 0
    · subst hj
      simp [hi]
    · have : ¬ i + j = 0 := by omega
      simp [hi, hj, this, Nat.add_assoc]
theorem Oc.cut {W : World} {A : Option Addr} {l : List Nat} (h : Oc W A l) (c i k : Nat) (hc : l.length ≤ c) (hk : i + k ≤ l.length) : Oc W (cutA A c i) ((l.drop i).take k) := by
  have hl : ((l.drop i).take k).length = k := by simp; omega
  refine ⟨by rw [List.length_map], by have := h.2.1; omega, fun h0 => ?_⟩
  obtain ⟨ad, e, hc'⟩ := h.2.2 (by omega)
  refine ⟨ad.add i, ?_, fun j p hj => ?_⟩
  · unfold cutA
    rw [if_neg (by omega), e]
    simp
  · rw [List.getElem?_map, List.getElem?_take, List.getElem?_drop] at hj
    split at hj
    · obtain ⟨x, hx, hr, hcell⟩ := hc' (i + j) p (by rw [List.getElem?_map]; exact hj)
      refine ⟨x, hx, hr, fun i' u hu => ?_⟩
      have := hcell i' u hu
      rw [addr_add2]
      rw [show i + (j * (Kd.int .u8).sz + i') = (i + j) * (Kd.int .u8).sz + i' by show i + (j * 1 + i') = (i + j) * 1 + i'; omega]
      exact this
    · simp at hj
theorem Oc.take {W : World} {A : Option Addr} {l : List Nat} (h : Oc W A l) (k : Nat) (hk : k ≤ l.length) : Oc W A (l.take k) := by
  have := h.cut (l.length + 1) 0 k (by omega) (by omega)
  rwa [cutA_zero, List.drop_zero] at this
theorem Oc.at_ {W : World} {A : Option Addr} {l : List Nat} (h : Oc W A l) (hn : 0 < l.length) : ∃ ad, A = some ad ∧ ∀ j, j < l.length → W.cell? (ad.add j) = some (.int .u8 ((l.getD j 0 : Nat) : Int)) := by
  obtain ⟨ad, e, hc⟩ := h.2.2 hn
  refine ⟨ad, e, fun j hj => ?_⟩
  obtain ⟨x, hx, hr, hcell⟩ := hc j ((l.getD j 0 : Nat) : Int) (by rw [List.getElem?_map, List.getD_eq_getElem?_getD, List.getElem?_eq_getElem hj]; rfl)
  have hr' : x = [Value.int .u8 ((l.getD j 0 : Nat) : Int)] := hr
  have := hcell 0 (.int .u8 ((l.getD j 0 : Nat) : Int)) (by rw [hr']; rfl)
  rw [show j * (Kd.int .u8).sz + 0 = j by show j * 1 + 0 = j; omega] at this
  exact this
theorem Oc.below {W W' : World} {A : Option Addr} {l : List Nat} (h : Oc W A l) (hb : Below W.heap.size W W') : Oc W' A l := Kd.C_below h hb
theorem or_u32 (s x n : Nat) (hs : s < 2 ^ n) (h : s + x * 2 ^ n < 4294967296) : Go.bits .or .u32 (s : Int) ((x * 2 ^ n : Nat) : Int) = ((s + x * 2 ^ n : Nat) : Int) := by
  rw [(bits_nat .u32 32 (by decide) (fun n h0 h1 => by rw [IntKind.wrap_u32]; omega) s (x * 2 ^ n) (by omega) (by omega)).2]
  have h6 := Nat.two_pow_add_eq_or_of_lt hs x
  rw [Nat.or_comm, Nat.mul_comm x, ← h6, Nat.add_comm]
theorem or_u64 (s x n : Nat) (hs : s < 2 ^ n) (h : s + x * 2 ^ n < 18446744073709551616) : Go.bits .or .u64 (s : Int) ((x * 2 ^ n : Nat) : Int) = ((s + x * 2 ^ n : Nat) : Int) := by
  rw [(bits_nat .u64 64 (by decide) (fun n h0 h1 => by rw [IntKind.wrap_u64]; omega) s (x * 2 ^ n) (by omega) (by omega)).2]
  have h6 := Nat.two_pow_add_eq_or_of_lt hs x
  rw [Nat.or_comm, Nat.mul_comm x, ← h6, Nat.add_comm]
theorem ro_u64 (s x n : Nat) (hs : s < 2 ^ n) (h : s + x * 2 ^ n < 18446744073709551616) : Go.bits .or .u64 ((x * 2 ^ n : Nat) : Int) (s : Int) = ((s + x * 2 ^ n : Nat) : Int) := by
  rw [(bits_nat .u64 64 (by decide) (fun n h0 h1 => by rw [IntKind.wrap_u64]; omega) (x * 2 ^ n) s (by omega) (by omega)).2]
  have h6 := Nat.two_pow_add_eq_or_of_lt hs x
  rw [Nat.mul_comm x, ← h6, Nat.add_comm]
theorem be32_val (a b c d : Nat) (t : List Nat) (ha : a < 256) (hb : b < 256) (hc : c < 256) (hd : d < 256) : bigall_beUint32.f ((a :: b :: c :: d :: t).map (fun (x : Nat) => (x : Int))) = some ((beN [a, b, c, d] : Nat) : Int) := by
  unfold bigall_beUint32.f
  have hl : ((((a :: b :: c :: d :: t).map (fun (x : Nat) => (x : Int))).length : Nat) : Int) = (t.length : Int) + 4 := by simp; omega
  rw [if_pos (by omega), if_pos (by omega), if_pos (by omega), if_pos (by omega)]
  have e0 : rd ((a :: b :: c :: d :: t).map (fun (x : Nat) => (x : Int))) 0 = (a : Int) := rfl
  have e1 : rd ((a :: b :: c :: d :: t).map (fun (x : Nat) => (x : Int))) 1 = (b : Int) := rfl
  have e2 : rd ((a :: b :: c :: d :: t).map (fun (x : Nat) => (x : Int))) 2 = (c : Int) := rfl
  have e3 : rd ((a :: b :: c :: d :: t).map (fun (x : Nat) => (x : Int))) 3 = (d : Int) := rfl
  rw [e0, e1, e2, e3]
  have s1 := or_u32 d c 8 (by omega) (by omega)
  have s2 := or_u32 (d + c * 2 ^ 8) b 16 (by omega) (by omega)
  have s3 := or_u32 (d + c * 2 ^ 8 + b * 2 ^ 16) a 24 (by omega) (by omega)
  have w0 : (d : Int) % 4294967296 = (d : Int) := by omega
  have w1 : (((c : Int) % 4294967296) * 256) % 4294967296 = ((c * 2 ^ 8 : Nat) : Int) := by omega
  have w2 : (((b : Int) % 4294967296) * 65536) % 4294967296 = ((b * 2 ^ 16 : Nat) : Int) := by omega
  have w3 : (((a : Int) % 4294967296) * 16777216) % 4294967296 = ((a * 2 ^ 24 : Nat) : Int) := by omega
  rw [w0, w1, w2, w3, s1, s2, s3]
  congr 2
  show _ = 256 * (256 * (256 * (256 * 0 + a) + b) + c) + d
  omega
theorem be32_walk (A : Option Addr) (c : Nat) (l : List Nat) (w : World) (h : Oc w A l) (hl : 4 ≤ l.length) (hc : l.length ≤ c) (h8 : ∀ o ∈ l, o < 256) :
    Calls Try.prog 60 #[.slice A l.length c] w fun e w' => e = .returned (.int .u32 ((beN (l.take 4) : Nat) : Int)) ∧ Below w.heap.size w w' := by
  match l, hl with
  | a :: b :: x :: d :: t, _ =>
    have h1 := be32_val a b x d t (h8 _ (by simp)) (h8 _ (by simp)) (h8 _ (by simp)) (h8 _ (by simp))
    have h2 := bigall_beUint32.calls A c ((a :: b :: x :: d :: t).map (fun (x : Nat) => (x : Int))) _ w (by rw [List.length_map]; exact h) (by rw [List.length_map]; exact hc) h1
    rw [List.length_map] at h2
    exact h2.mono fun e w' hh => ⟨hh.1, hh.2.below⟩
theorem be32n (A : Option Addr) (n c : Nat) (l : List Nat) (w : World) (h : Oc w A l) (hn : l.length = n) (hl : 4 ≤ n) (hc : n ≤ c) (h8 : ∀ o ∈ l, o < 256) :
    Calls Try.prog 60 #[.slice A n c] w fun e w' => e = .returned (.int .u32 ((beN (l.take 4) : Nat) : Int)) ∧ Below w.heap.size w w' := by
  subst hn
  exact be32_walk A c l w h hl hc h8
theorem beN_halves (l : List Nat) (hl : l.length = 8) (h8 : ∀ o ∈ l, o < 256) : beN (l.take 4) < 4294967296 ∧ beN ((l.drop 4).take 4) < 4294967296 ∧ beN l = beN ((l.drop 4).take 4) + beN (l.take 4) * 2 ^ 32 := by
  have h1 := beN_lt (l.take 4) (fun o ho => h8 o (List.mem_of_mem_take ho))
  have h2 := beN_lt ((l.drop 4).take 4) (fun o ho => h8 o (List.mem_of_mem_drop (List.mem_of_mem_take ho)))
  have e1 : (l.take 4).length = 4 := by simp; omega
  have e2 : ((l.drop 4).take 4).length = 4 := by simp; omega
  have h3 := beN_append (l.take 4) ((l.drop 4).take 4)
  have e3 : l.take 4 ++ (l.drop 4).take 4 = l := by
    rw [List.take_of_length_le (i := 4) (l := l.drop 4) (by simp; omega), List.take_append_drop]
  rw [e3, e2] at h3
  rw [e1] at h1
  rw [e2] at h2
  refine ⟨by omega, by omega, ?_⟩
  rw [h3]
  omega
end Go.Proofs.Ytjmgiodkfgdgnaa.PAll
namespace Go.Proofs.Ytjmgiodkfgdgnaa.PAll
open Go.RowKit Go.Proofs.YtjmgiodkfgdgnaaW.PrintWords Go.Proofs.YtjmgiodkfgdgnaaW.PrintLast Go.Proofs.YtjmgiodkfgdgnaaW.PrintMore
set_option linter.unusedVariables false
set_option linter.unusedSimpArgs false
theorem w64 (n : Nat) (h : n < 18446744073709551616) : IntKind.u64.wrap ((n : Nat) : Int) = ((n : Nat) : Int) := by
  rw [IntKind.wrap_u64]
  omega
theorem s64 (n : Nat) (h : n < 4294967296) : IntKind.u64.wrap (((n : Nat) : Int) * 4294967296) = ((n * 2 ^ 32 : Nat) : Int) := by
  rw [IntKind.wrap_u64]
  omega
set_option maxHeartbeats 8000000 in
set_option maxRecDepth 100000 in
theorem be64_at (ad : Addr) (c : Nat) (l : List Nat) (hl : l.length = 8) (hc : 8 ≤ c) (h8 : ∀ o ∈ l, o < 256) (w : World) (h : Oc w (some ad) l) :
    Calls Try.prog 59 #[.slice (some ad) 8 c] w fun e w' => e = .returned (.int .u64 ((beN l : Nat) : Int)) ∧ Below w.heap.size w w' := by
  obtain ⟨ad', e, hcell⟩ := h.at_ (by omega)
  obtain rfl := Option.some.inj e
  obtain ⟨h1, h2, h3⟩ := beN_halves l hl h8
  refine calls_of_wp Try.func59 rfl ?_
  have h0 := has_one (β := bn []) (.v (.slice (some ad) 8 c)) 14
  have d0 : (⟨#[.slice (some ad) 8 c] ++ Array.replicate 14 undef, []⟩ : Act).defers = [] := rfl
  refine wp_seq ?_
  refine wp_region ?_
  refine opsP (N := 15) (T := TT) (M := (fun _ _ => none)) tabOk (fun _ _ _ h => by cases h) [] [0] [(0, .v (.slice (some ad) 8 c)), (2, .v (.int .u64 0))] h0 (by kernel_rfl) ⟨by kernel_rfl, by kernel_rfl, trivial⟩ (fun a1 h1 d1 => ?_)
  replace d1 := d1.trans d0
  clear h0 d0
  show Code.wp _ _ _ _ _
  refine wp_seq ?_
  refine wp_region ?_
  refine opsP (N := 15) (T := TT) (M := (fun _ _ => none)) tabOk (fun _ _ _ h => by cases h) [1, 2] [0] [(0, .v (.slice (some ad) 8 c)), (2, .v (.int .u64 0)), (3, .v (.slice (some ad) 8 c))] h1 (by kernel_rfl) ⟨by kernel_rfl, by kernel_rfl, by kernel_rfl, trivial⟩ (fun a2 h2 d2 => ?_)
  replace d2 := d2.trans d1
  clear h1 d1
  refine givenW_ops (N := 15) (i := 1) (d := 4) (s := .v (.pointer (some (ad.add 7)))) (l := [2]) rfl (want_ rfl) rfl (by decide) h2 (op_indexA (j := 7) rfl (h2.2 3 _ rfl) rfl Try.underlying25 Try.sizeOf5 (by decide)) (fun a3 h3 d3 => ?_)
  replace d3 := d3.trans d2
  clear h2 d2
  refine givenW_ops (N := 15) (i := 2) (d := 5) (s := .v (.int .u8 ((l.getD 7 0 : Nat) : Int))) (l := []) rfl (want_ rfl) rfl (by decide) h3 (op_load rfl (h3.2 4 _ rfl) Try.isAgg5 (hcell 7 (by omega))) (fun a4 h4 d4 => ?_)
  replace d4 := d4.trans d3
  clear h3 d3
  show Code.wp _ _ _ _ _
  refine wp_seq ?_
  refine start_ (S := fun V => Below w.heap.size w V) (ds := []) (n := 10) _ (by kernel_rfl) rfl rfl ((Below.refl w.heap.size w).drew) (fun hS5 => ?_)
  refine segP (S := fun V => Below w.heap.size w V) (ds := []) (T := TT) (M := fun _ _ => none) (N := 15) tabOk (fun _ _ _ _ _ h => by cases h) (fun _ _ _ _ hd h => And.intro (hd.trans (And.left h)) (And.right h)) hS5 [0, 4] 8 [(0, .v (.slice (some ad) 8 c)), (2, .v (.int .u64 0)), (6, .v (.slice (some ad) 8 c)), (10, .v (.slice (some ad) 8 c))] h4 (by kernel_rfl) (by kernel_rfl) ⟨by kernel_rfl, by kernel_rfl, by kernel_rfl, by kernel_rfl, trivial⟩ (fun a5 h5 d5 => ?_)
  replace d5 := d5.trans d4
  clear h4 d4
  refine segV (S := fun V => Below w.heap.size w V) (ds := []) (N := 15) (i := 5) (d := 11) (s := .v (.slice (cutA (some ad) c 4) 4 (c - 4))) (fun _ _ _ _ hd h => And.intro (hd.trans (And.left h)) (And.right h)) hS5 h5 rfl rfl rfl (by decide) (by kernel_rfl) (fun W' hW => (op_sll (l := 4) rfl sltBytes (h5.2 10 _ rfl) rfl (by decide)).trans rfl) (fun a6 h6 d6 => ?_)
  replace d6 := d6.trans d5
  clear h5 d5
  refine stepR (S := fun V => Below w.heap.size w V) (ds := []) (N := 15) (j := 1) (d := 7) (f := 60) (args := [.v (.slice (some ad) 8 c)]) h6 (by kernel_rfl) (by kernel_rfl) Try.func60 rfl rfl (fun (v : Value) (W' : World) => v = .int .u32 ((beN (l.take 4) : Nat) : Int) ∧ Below w.heap.size w W') (fun v W' hh => hh.2) ((be32n (some ad) 8 c l _ (h.below hS5) hl (by decide) hc h8).mono fun e w' hh => ⟨_, hh.1, rfl, Below.trans hS5 (hh.2.mono (Below.size hS5))⟩) (fun a7 v7 W7 h7 d7 hR7 => ?_)
  replace d7 := d7.trans d6
  clear h6 d6
  have hS7 : (fun V => Below w.heap.size w V) W7 := (fun (v : Value) (W' : World) (hh : (fun (v : Value) (W' : World) => v = .int .u32 ((beN (l.take 4) : Nat) : Int) ∧ Below w.heap.size w W') v W') => (show (fun V => Below w.heap.size w V) W' from hh.2)) _ _ hR7
  obtain ⟨rfl, hB1⟩ := hR7
  refine segP (S := fun V => Below w.heap.size w V) (ds := []) (T := TT) (M := fun _ _ => none) (N := 15) tabOk (fun _ _ _ _ _ h => by cases h) (fun _ _ _ _ hd h => And.intro (hd.trans (And.left h)) (And.right h)) hS7 [2] 5 [(0, .v (.slice (some ad) 8 c)), (2, .v (.int .u64 0)), (6, .v (.slice (some ad) 8 c)), (7, .v (.int .u32 ((beN (l.take 4) : Nat) : Int))), (8, .v (.int .u64 (IntKind.u64.wrap (((beN (l.take 4) : Nat) : Int))))), (10, .v (.slice (some ad) 8 c)), (11, .v (.slice (cutA (some ad) c 4) 4 (c - 4)))] h7 (by kernel_rfl) (by kernel_rfl) ⟨by kernel_rfl, by kernel_rfl, by kernel_rfl, by kernel_rfl, by kernel_rfl, by kernel_rfl, by kernel_rfl, trivial⟩ (fun a8 h8 d8 => ?_)
  replace d8 := d8.trans d7
  clear h7 d7
  rw [show (IntKind.u64.wrap (((beN (l.take 4) : Nat) : Int))) = ((beN (l.take 4) : Nat) : Int) from w64 _ (by omega)] at h8
  refine segP (S := fun V => Below w.heap.size w V) (ds := []) (T := TT) (M := fun _ _ => none) (N := 15) tabOk (fun _ _ _ _ _ h => by cases h) (fun _ _ _ _ hd h => And.intro (hd.trans (And.left h)) (And.right h)) hS7 [3] 4 [(0, .v (.slice (some ad) 8 c)), (2, .v (.int .u64 0)), (6, .v (.slice (some ad) 8 c)), (7, .v (.int .u32 ((beN (l.take 4) : Nat) : Int))), (8, .v (.int .u64 ((beN (l.take 4) : Nat) : Int))), (9, .v (.int .u64 (IntKind.u64.wrap (((beN (l.take 4) : Nat) : Int) * 4294967296)))), (10, .v (.slice (some ad) 8 c)), (11, .v (.slice (cutA (some ad) c 4) 4 (c - 4)))] h8 (by kernel_rfl) (by kernel_rfl) ⟨by kernel_rfl, by kernel_rfl, by kernel_rfl, by kernel_rfl, by kernel_rfl, by kernel_rfl, by kernel_rfl, by kernel_rfl, trivial⟩ (fun a9 h9 d9 => ?_)
  replace d9 := d9.trans d8
  clear h8 d8
  rw [show (IntKind.u64.wrap (((beN (l.take 4) : Nat) : Int) * 4294967296)) = ((beN (l.take 4) * 2 ^ 32 : Nat) : Int) from s64 _ h1] at h9
  refine stepR (S := fun V => Below w.heap.size w V) (ds := []) (N := 15) (j := 6) (d := 12) (f := 60) (args := [.v (.slice (cutA (some ad) c 4) 4 (c - 4))]) h9 (by kernel_rfl) (by kernel_rfl) Try.func60 rfl rfl (fun (v : Value) (W' : World) => v = .int .u32 ((beN ((l.drop 4).take 4) : Nat) : Int) ∧ Below w.heap.size w W') (fun v W' hh => hh.2) ((be32n (cutA (some ad) c 4) 4 (c - 4) ((l.drop 4).take 4) _ ((h.below hB1).cut c 4 4 (by omega) (by omega)) (by simp; omega) (by decide) (by omega) (fun o ho => h8 o (List.mem_of_mem_drop (List.mem_of_mem_take ho)))).mono fun e w' hh => ⟨_, hh.1.trans (by rw [List.take_take]; rfl), rfl, hB1.trans (hh.2.mono hB1.size)⟩) (fun a10 v10 W10 h10 d10 hR10 => ?_)
  replace d10 := d10.trans d9
  clear h9 d9
  have hS10 : (fun V => Below w.heap.size w V) W10 := (fun (v : Value) (W' : World) (hh : (fun (v : Value) (W' : World) => v = .int .u32 ((beN ((l.drop 4).take 4) : Nat) : Int) ∧ Below w.heap.size w W') v W') => (show (fun V => Below w.heap.size w V) W' from hh.2)) _ _ hR10
  obtain ⟨rfl, hB2⟩ := hR10
  refine segP (S := fun V => Below w.heap.size w V) (ds := []) (T := TT) (M := fun _ _ => none) (N := 15) tabOk (fun _ _ _ _ _ h => by cases h) (fun _ _ _ _ hd h => And.intro (hd.trans (And.left h)) (And.right h)) hS10 [7] 2 [(0, .v (.slice (some ad) 8 c)), (2, .v (.int .u64 0)), (6, .v (.slice (some ad) 8 c)), (7, .v (.int .u32 ((beN (l.take 4) : Nat) : Int))), (8, .v (.int .u64 ((beN (l.take 4) : Nat) : Int))), (9, .v (.int .u64 ((beN (l.take 4) * 2 ^ 32 : Nat) : Int))), (10, .v (.slice (some ad) 8 c)), (11, .v (.slice (cutA (some ad) c 4) 4 (c - 4))), (12, .v (.int .u32 ((beN ((l.drop 4).take 4) : Nat) : Int))), (13, .v (.int .u64 (IntKind.u64.wrap (((beN ((l.drop 4).take 4) : Nat) : Int)))))] h10 (by kernel_rfl) (by kernel_rfl) ⟨by kernel_rfl, by kernel_rfl, by kernel_rfl, by kernel_rfl, by kernel_rfl, by kernel_rfl, by kernel_rfl, by kernel_rfl, by kernel_rfl, by kernel_rfl, trivial⟩ (fun a11 h11 d11 => ?_)
  replace d11 := d11.trans d10
  clear h10 d10
  rw [show (IntKind.u64.wrap (((beN ((l.drop 4).take 4) : Nat) : Int))) = ((beN ((l.drop 4).take 4) : Nat) : Int) from w64 _ (by omega)] at h11
  refine segP (S := fun V => Below w.heap.size w V) (ds := []) (T := TT) (M := fun _ _ => none) (N := 15) tabOk (fun _ _ _ _ _ h => by cases h) (fun _ _ _ _ hd h => And.intro (hd.trans (And.left h)) (And.right h)) hS10 [8] 1 [(0, .v (.slice (some ad) 8 c)), (2, .v (.int .u64 0)), (6, .v (.slice (some ad) 8 c)), (7, .v (.int .u32 ((beN (l.take 4) : Nat) : Int))), (8, .v (.int .u64 ((beN (l.take 4) : Nat) : Int))), (9, .v (.int .u64 ((beN (l.take 4) * 2 ^ 32 : Nat) : Int))), (10, .v (.slice (some ad) 8 c)), (11, .v (.slice (cutA (some ad) c 4) 4 (c - 4))), (12, .v (.int .u32 ((beN ((l.drop 4).take 4) : Nat) : Int))), (13, .v (.int .u64 ((beN ((l.drop 4).take 4) : Nat) : Int))), (14, .v (.int .u64 (Go.bits .or .u64 ((beN (l.take 4) * 2 ^ 32 : Nat) : Int) ((beN ((l.drop 4).take 4) : Nat) : Int))))] h11 (by kernel_rfl) (by kernel_rfl) ⟨by kernel_rfl, by kernel_rfl, by kernel_rfl, by kernel_rfl, by kernel_rfl, by kernel_rfl, by kernel_rfl, by kernel_rfl, by kernel_rfl, by kernel_rfl, by kernel_rfl, trivial⟩ (fun a12 h12 d12 => ?_)
  replace d12 := d12.trans d11
  clear h11 d11
  rw [show (Go.bits .or .u64 ((beN (l.take 4) * 2 ^ 32 : Nat) : Int) ((beN ((l.drop 4).take 4) : Nat) : Int)) = ((beN l : Nat) : Int) from (ro_u64 _ _ 32 (by omega) (by omega)).trans (by rw [h3])] at h12
  refine segP (S := fun V => Below w.heap.size w V) (ds := []) (T := TT) (M := fun _ _ => none) (N := 15) tabOk (fun _ _ _ _ _ h => by cases h) (fun _ _ _ _ hd h => And.intro (hd.trans (And.left h)) (And.right h)) hS10 [9] 0 [(0, .v (.slice (some ad) 8 c)), (2, .v (.int .u64 ((beN l : Nat) : Int))), (6, .v (.slice (some ad) 8 c)), (7, .v (.int .u32 ((beN (l.take 4) : Nat) : Int))), (8, .v (.int .u64 ((beN (l.take 4) : Nat) : Int))), (9, .v (.int .u64 ((beN (l.take 4) * 2 ^ 32 : Nat) : Int))), (10, .v (.slice (some ad) 8 c)), (11, .v (.slice (cutA (some ad) c 4) 4 (c - 4))), (12, .v (.int .u32 ((beN ((l.drop 4).take 4) : Nat) : Int))), (13, .v (.int .u64 ((beN ((l.drop 4).take 4) : Nat) : Int))), (14, .v (.int .u64 ((beN l : Nat) : Int)))] h12 (by kernel_rfl) (by kernel_rfl) ⟨by kernel_rfl, by kernel_rfl, by kernel_rfl, by kernel_rfl, by kernel_rfl, by kernel_rfl, by kernel_rfl, by kernel_rfl, by kernel_rfl, by kernel_rfl, by kernel_rfl, trivial⟩ (fun a13 h13 d13 => ?_)
  replace d13 := d13.trans d12
  clear h12 d12
  refine done_ (by kernel_rfl) ?_
  show Code.wp _ _ _ _ _
  refine wp_ret ?_
  exact ⟨d13, _, results_tmp rfl _ _ _, congrArg Ending.returned (h13.2 2 _ rfl), hB2⟩
set_option maxHeartbeats 8000000 in
set_option maxRecDepth 100000 in
theorem bew_at (ad : Addr) (c : Nat) (l : List Nat) (hl : l.length = 8) (hc : 8 ≤ c) (h8 : ∀ o ∈ l, o < 256) (w : World) (h : Oc w (some ad) l) :
    Calls Try.prog 45 #[.slice (some ad) 8 c] w fun e w' => e = .returned (.int .u64 ((beN l : Nat) : Int)) ∧ Below w.heap.size w w' := by
  refine calls_of_wp Try.func45 rfl ?_
  have h0 := has_one (β := bn []) (.v (.slice (some ad) 8 c)) 7
  have d0 : (⟨#[.slice (some ad) 8 c] ++ Array.replicate 7 undef, []⟩ : Act).defers = [] := rfl
  refine wp_seq ?_
  refine wp_region ?_
  refine opsP (N := 8) (T := TT) (M := (fun _ _ => none)) tabOk (fun _ _ _ h => by cases h) [] [0] [(0, .v (.slice (some ad) 8 c)), (2, .v (.int .u64 0))] h0 (by kernel_rfl) ⟨by kernel_rfl, by kernel_rfl, trivial⟩ (fun a1 h1 d1 => ?_)
  replace d1 := d1.trans d0
  clear h0 d0
  show Code.wp _ _ _ _ _
  refine wp_seq ?_
  refine wp_cond_true (rfl) ?_
  refine wp_seq ?_
  refine wp_region ?_
  refine opsP (N := 8) (T := TT) (M := (fun _ _ => none)) tabOk (fun _ _ _ h => by cases h) [1, 2] [0] [(0, .v (.slice (some ad) 8 c)), (2, .v (.int .u64 0)), (3, .v (.slice (some ad) 8 c))] h1 (by kernel_rfl) ⟨by kernel_rfl, by kernel_rfl, by kernel_rfl, trivial⟩ (fun a2 h2 d2 => ?_)
  replace d2 := d2.trans d1
  clear h1 d1
  refine callW_ops (N := 8) (i := 1) (d := 4) (f := 59) (args := [.v (.slice (some ad) 8 c)]) (l := [2]) rfl (want_ rfl) rfl (by decide) h2 Try.func59 rfl rfl rfl (by kernel_rfl) (fun (v : Value) (W' : World) => v = .int .u64 ((beN l : Nat) : Int) ∧ Below w.heap.size w W') ((be64_at ad c l hl hc h8 _ h).mono fun e w' hh => ⟨_, hh.1, rfl, hh.2⟩) (fun v3 W3 a3 hR3 h3 d3 => ?_)
  replace d3 := d3.trans d2
  clear h2 d2
  obtain ⟨rfl, hB⟩ := hR3
  refine opsP (N := 8) (T := TT) (M := (fun _ _ => none)) tabOk (fun _ _ _ h => by cases h) [] [2] [(0, .v (.slice (some ad) 8 c)), (2, .v (.int .u64 ((beN l : Nat) : Int)))] h3 (by kernel_rfl) ⟨by kernel_rfl, by kernel_rfl, trivial⟩ (fun a4 h4 d4 => ?_)
  replace d4 := d4.trans d3
  clear h3 d3
  show Code.wp _ _ _ _ _
  refine wp_ret ?_
  exact ⟨d4, _, results_tmp rfl _ _ _, congrArg Ending.returned (h4.2 2 _ rfl), hB⟩
theorem bew_walk (A : Option Addr) (n c : Nat) (l : List Nat) (hn : n = 8) (hl : l.length = 8) (hc : 8 ≤ c) (h8 : ∀ o ∈ l, o < 256) (w : World) (h : Oc w A l) :
    Calls Try.prog 45 #[.slice A n c] w fun e w' => e = .returned (.int .u64 ((beN l : Nat) : Int)) ∧ Below w.heap.size w w' := by
  subst hn
  obtain ⟨ad, rfl, _⟩ := h.at_ (by omega)
  exact bew_at ad c l hl hc h8 w h
end Go.Proofs.Ytjmgiodkfgdgnaa.PAll
namespace Go.Proofs.Ytjmgiodkfgdgnaa.PAll
open Go.RowKit Go.Proofs.YtjmgiodkfgdgnaaW.PrintWords Go.Proofs.YtjmgiodkfgdgnaaW.PrintLast Go.Proofs.YtjmgiodkfgdgnaaW.PrintMore
set_option linter.unusedVariables false
set_option linter.unusedSimpArgs false
def fm (f : Nat → Int) (c : Nat) : List Int := (List.range c).map f
theorem fm_len (f : Nat → Int) (c : Nat) : (fm f c).length = c := by simp [fm]
theorem fm_get (f : Nat → Int) (c j : Nat) (h : j < c) : (fm f c).getD j 0 = f j := by
  simp [fm, List.getD_eq_getElem?_getD, h]
theorem fm_congr (f f' : Nat → Int) (c : Nat) (h : ∀ j, j < c → f j = f' j) : fm f c = fm f' c := by
  unfold fm
  exact List.map_congr_left (fun j hj => h j (List.mem_range.1 hj))
theorem fm_set (f : Nat → Int) (c t : Nat) (x : Int) : (fm f c).set t x = fm (fun j => if j = t then x else f j) c := by
  apply List.ext_getElem (by simp [fm])
  intro i h1 h2
  simp only [fm, List.getElem_set, List.getElem_map, List.getElem_range]
  by_cases e : t = i
  · subst e
    simp
  · rw [if_neg e, if_neg (fun e' => e e'.symm)]
theorem fm_zero (c : Nat) : List.replicate c (0 : Int) = fm (fun _ => 0) c := by
  apply List.ext_getElem (by simp [fm])
  intro i h1 h2
  simp [fm]
/-- How many words a new row for k words has. -/
def capN (k : Nat) : Nat := if k = 1 then 1 else k + 4
theorem capN_le (k : Nat) : k ≤ capN k := by
  unfold capN
  split <;> omega
theorem make_new (k : Nat) (h1 : 0 < k) (hk : k < 1000) (w : World) :
    Calls Try.prog 44 #[.slice none 0 0, .int .i64 ((k : Nat) : Int)] w fun e w' => e = .returned (.slice (some ⟨w.heap.size, 0, none⟩) k (capN k)) ∧ Wd w' w.heap.size (List.replicate (capN k) 0) ∧ Below w.heap.size w w' := by
  by_cases e : k = 1
  · subst e
    exact make_one none 0 0 (by decide) w
  · have := make_more none 0 k 0 h1 e hk w
    unfold capN
    rw [if_neg e]
    exact this
/-- The j-th word of the n octets l, the lowest first. -/
def wd (l : List Nat) (n j : Nat) : Nat := beN ((l.drop (n - 8 * (j + 1))).take 8)
def fw (l : List Nat) (n t j : Nat) : Int := if j < t then ((wd l n j : Nat) : Int) else 0
theorem fw_step (l : List Nat) (n t c : Nat) : (fm (fw l n t) c).set t ((wd l n t : Nat) : Int) = fm (fw l n (t + 1)) c := by
  rw [fm_set]
  refine fm_congr _ _ _ (fun j _ => ?_)
  unfold fw
  by_cases e : j = t
  · subst e
    rw [if_pos rfl, if_pos (by omega)]
  · rw [if_neg e]
    by_cases h : j < t
    · rw [if_pos h, if_pos (by omega)]
    · rw [if_neg h, if_neg (by omega)]
/-- The j-th word of the number V. -/
def wV (V j : Nat) : Int := ((V / 2 ^ (64 * j) % 18446744073709551616 : Nat) : Int)
theorem p256 (n : Nat) : 256 ^ n = 2 ^ (8 * n) := by rw [show (256 : Nat) = 2 ^ 8 from rfl, ← Nat.pow_mul]
theorem wd_val (l : List Nat) (n j : Nat) (hl : l.length = n) (h8 : ∀ o ∈ l, o < 256) (hj : 8 * (j + 1) ≤ n) : ((wd l n j : Nat) : Int) = wV (beN l) j := by
  have e : l = l.take (n - 8 * (j + 1)) ++ ((l.drop (n - 8 * (j + 1))).take 8 ++ l.drop (n - 8 * j)) := by
    have e1 : l.drop (n - 8 * j) = (l.drop (n - 8 * (j + 1))).drop 8 := by rw [List.drop_drop]; congr 1; omega
    rw [e1, List.take_append_drop, List.take_append_drop]
  have hb : beN l = (beN (l.take (n - 8 * (j + 1))) * 256 ^ 8 + wd l n j) * 256 ^ (8 * j) + beN (l.drop (n - 8 * j)) := by
    have h1 := beN_append (l.take (n - 8 * (j + 1))) ((l.drop (n - 8 * (j + 1))).take 8 ++ l.drop (n - 8 * j))
    rw [← e, beN_append] at h1
    have l1 : ((l.drop (n - 8 * (j + 1))).take 8).length = 8 := by simp; omega
    have l2 : (l.drop (n - 8 * j)).length = 8 * j := by simp; omega
    rw [List.length_append, l1, l2, Nat.pow_add] at h1
    rw [h1, Nat.add_mul, Nat.mul_assoc, Nat.add_assoc]
    rfl
  have hx := beN_lt ((l.drop (n - 8 * (j + 1))).take 8) (fun o ho => h8 o (List.mem_of_mem_drop (List.mem_of_mem_take ho)))
  have hy := beN_lt (l.drop (n - 8 * j)) (fun o ho => h8 o (List.mem_of_mem_drop ho))
  have l1 : ((l.drop (n - 8 * (j + 1))).take 8).length = 8 := by simp; omega
  have l2 : (l.drop (n - 8 * j)).length = 8 * j := by simp; omega
  rw [l1] at hx
  rw [l2] at hy
  unfold wV
  have p : 2 ^ (64 * j) = 256 ^ (8 * j) := by rw [p256]; congr 1; omega
  rw [p, hb, Nat.mul_comm _ (256 ^ (8 * j)), Nat.mul_add_div (Nat.pow_pos (by decide)), Nat.div_eq_of_lt hy]
  have : wd l n j < 18446744073709551616 := hx
  congr 1
  omega
theorem rest_val (l : List Nat) (n q r : Nat) (hl : l.length = n) (h8 : ∀ o ∈ l, o < 256) (hr : n = 8 * q + r) (hr8 : r < 8) : ((beN (l.take r) : Nat) : Int) = wV (beN l) q := by
  have h1 := beN_append (l.take r) (l.drop r)
  rw [List.take_append_drop] at h1
  have l2 : (l.drop r).length = 8 * q := by simp; omega
  have hy := beN_lt (l.drop r) (fun o ho => h8 o (List.mem_of_mem_drop ho))
  have hx := beN_lt (l.take r) (fun o ho => h8 o (List.mem_of_mem_take ho))
  have l1 : (l.take r).length = r := by simp; omega
  rw [l1] at hx
  rw [l2] at h1 hy
  unfold wV
  have p : 2 ^ (64 * q) = 256 ^ (8 * q) := by rw [p256]; congr 1; omega
  have h3 : (256 : Nat) ^ r ≤ 256 ^ 7 := Nat.pow_le_pow_right (by decide) (by omega)
  rw [p, h1, Nat.mul_comm _ (256 ^ (8 * q)), Nat.mul_add_div (Nat.pow_pos (by decide)), Nat.div_eq_of_lt hy]
  congr 1
  omega
theorem wV_high (l : List Nat) (n j : Nat) (hl : l.length = n) (h8 : ∀ o ∈ l, o < 256) (hj : n ≤ 8 * j) : wV (beN l) j = 0 := by
  have h := beN_lt l h8
  unfold wV
  have h2 : (256 : Nat) ^ l.length ≤ 256 ^ (8 * j) := Nat.pow_le_pow_right (by decide) (by omega)
  have p : 2 ^ (64 * j) = 256 ^ (8 * j) := by rw [p256]; congr 1; omega
  rw [p, Nat.div_eq_of_lt (Nat.lt_of_lt_of_le h h2)]
  rfl
theorem fw_whole (l : List Nat) (n q c : Nat) (hl : l.length = n) (h8 : ∀ o ∈ l, o < 256) (hq : n = 8 * q) : fm (fw l n q) c = fm (wV (beN l)) c := by
  refine fm_congr _ _ _ (fun j _ => ?_)
  unfold fw
  split
  · exact wd_val l n j hl h8 (by omega)
  · exact (wV_high l n j hl h8 (by omega)).symm
theorem fw_rest (l : List Nat) (n q r c : Nat) (hl : l.length = n) (h8 : ∀ o ∈ l, o < 256) (hq : n = 8 * q + r) (hr : r < 8) : (fm (fw l n q) c).set q ((beN (l.take r) : Nat) : Int) = fm (wV (beN l)) c := by
  rw [fm_set]
  refine fm_congr _ _ _ (fun j _ => ?_)
  by_cases e : j = q
  · subst e
    rw [if_pos rfl]
    exact rest_val l n j r hl h8 hq hr
  · rw [if_neg e]
    unfold fw
    split
    · exact wd_val l n j hl h8 (by omega)
    · exact (wV_high l n j hl h8 (by omega)).symm
theorem rest_step (l : List Nat) (r i j : Nat) (hr : r ≤ l.length) (h : i + 1 + j = r) : beN ((l.take r).drop (i + 1)) + l.getD i 0 * 2 ^ (8 * j) = beN ((l.take r).drop i) := by
  have hi : i < (l.take r).length := by simp; omega
  have e : (l.take r).drop i = [l.getD i 0] ++ (l.take r).drop (i + 1) := by
    rw [List.drop_eq_getElem_cons hi, List.getElem_take, List.getD_eq_getElem?_getD, List.getElem?_eq_getElem (by omega)]
    rfl
  rw [e, beN_append, List.length_drop, List.length_take, Nat.min_eq_left hr, show r - (i + 1) = j by omega, p256]
  show _ = (256 * 0 + l.getD i 0) * _ + _
  rw [Nat.mul_zero, Nat.zero_add]
  omega
theorem rest_lt (l : List Nat) (r i j : Nat) (hr : r ≤ l.length) (h8 : ∀ o ∈ l, o < 256) (h : i + j = r) : beN ((l.take r).drop i) < 2 ^ (8 * j) := by
  have hy := beN_lt ((l.take r).drop i) (fun o ho => h8 o (List.mem_of_mem_take (List.mem_of_mem_drop ho)))
  rw [List.length_drop, List.length_take, Nat.min_eq_left hr, show r - i = j by omega, p256] at hy
  exact hy
theorem op_shlV {ρ : Operand → Value} {o : Oper} {W : World} {t t2 : TypeId} {x y : Operand} {p : Int} {n : Nat} (ho : o.op = .binOp .shl t x y t2) (hx : ρ x = .int .u64 p) (hy : ρ y = .int .u64 (n : Int)) (hn : n < 64) : (execOp ρ o).run Try.prog W = .ok (.value (.int .u64 (IntKind.u64.wrap (p * ((2 ^ n : Nat) : Int))))) W := by
  refine op_bin ho hx hy (fun w => ?_)
  have h : (binOp .shl t (.int .u64 p) (.int .u64 (n : Int))).run Try.prog w = .ok (.int .u64 (IntKind.u64.wrap (p * ((2 ^ (min n 64) : Nat) : Int)))) w := binV_ok rfl w
  rw [Nat.min_eq_left (by omega)] at h
  exact h
theorem w64i (x : Nat) (h : x < 256) : IntKind.u64.wrap ((x : Nat) : Int) = ((x : Nat) : Int) := w64 x (by omega)
theorem sh_u64 (x n : Nat) (h : x * 2 ^ n < 18446744073709551616) : IntKind.u64.wrap (((x : Nat) : Int) * ((2 ^ n : Nat) : Int)) = ((x * 2 ^ n : Nat) : Int) := by
  rw [show (x : Int) * ((2 ^ n : Nat) : Int) = ((x * 2 ^ n : Nat) : Int) by rw [Int.natCast_mul], IntKind.wrap_u64]
  omega
theorem i_less8 (a b : Nat) (h : a = b + 8) (ha : a < 100000) : IntKind.i64.wrap (((a : Nat) : Int) - 8) = ((b : Nat) : Int) := by
  rw [IntKind.wrap_i64]
  omega
theorem u_more8 (j : Nat) (h : j < 1000) : IntKind.u64.wrap (((8 * j : Nat) : Int) + 8) = ((8 * (j + 1) : Nat) : Int) := by
  rw [IntKind.wrap_u64]
  omega
theorem i_more8 (n : Nat) (h : n < 1000) : IntKind.i64.wrap (((n : Nat) : Int) + 8) = ((n + 8 : Nat) : Int) := by
  rw [IntKind.wrap_i64]
  omega
theorem i_less1 (n : Nat) (h : n < 1000) : IntKind.i64.wrap (((n + 8 : Nat) : Int) - 1) = ((n + 7 : Nat) : Int) := by
  rw [IntKind.wrap_i64]
  omega
theorem i_quo8 (n : Nat) (h : n < 1000) : IntKind.i64.wrap (Int.tdiv ((n + 7 : Nat) : Int) 8) = (((n + 7) / 8 : Nat) : Int) := by
  rw [IntKind.wrap_i64, Int.tdiv_eq_ediv_of_nonneg (by omega)]
  omega
noncomputable def sbL : Code := match Try.f31.body with
  | some (.seq _ (.seq _ (.seq _ (.seq (.seq _ (.block _ (.loop c))) _)))) => c
  | _ => .skip
noncomputable def sbM : Code := match Try.f31.body with
  | some (.seq _ (.seq _ (.seq _ (.seq _ (.seq (.seq _ (.cond _ (.seq _ (.seq (.seq _ (.block _ (.loop c))) _)) _)) _))))) => c
  | _ => .skip
set_option maxHeartbeats 8000000 in
set_option maxRecDepth 100000 in
theorem sb_loop {Q : Exit → Act → World → Prop} (g k cap n c q : Nat) (A : Option Addr) (l : List Nat) (w : World) (h : Oc w A l) (hl : l.length = n) (hc : n ≤ c) (h8 : ∀ o ∈ l, o < 256) (hq : 8 * q ≤ n) (hq2 : n < 8 * q + 8) (hn : n < 1000) (hk : q ≤ k) (hkc : k ≤ cap) (hg : w.heap.size ≤ g) : ∀ (m t : Nat) (W : World), t + m = q → Below w.heap.size w W → Wd W g (fm (fw l n t) cap) → ∀ a0, Has 59 (bn []) [(0, .v (.slice (some ⟨g, 0, none⟩) k cap)), (1, .v (.slice A n c)), (5, .v (.int .i64 ((n - 8 * t : Nat) : Int))), (6, .v (.int .i64 ((t : Nat) : Int)))] a0 → a0.defers = [] →
    (∀ a' W', Below w.heap.size w W' → Wd W' g (fm (fw l n q) cap) → Has 59 (bn []) [(0, .v (.slice (some ⟨g, 0, none⟩) k cap)), (1, .v (.slice A n c)), (5, .v (.int .i64 ((n - 8 * q : Nat) : Int))), (6, .v (.int .i64 ((q : Nat) : Int)))] a' → a'.defers = [] → Q (.exit 0) a' W') → Code.rounds Try.prog sbL Q (m + 1) a0 W := by
  intro m
  induction m with
  | zero =>
    intro t W ht hB hw a0 h0 d0 hex
    obtain rfl : t = q := by omega
    rw [rounds_succ]
    refine wp_seq ?_
    refine wp_seq ?_
    refine wp_region ?_
    refine opsP (N := 59) (T := TT) (M := (fun _ _ => none)) tabOk (fun _ _ _ h => by cases h) [] [0, 1] [(0, .v (.slice (some ⟨g, 0, none⟩) k cap)), (1, .v (.slice A n c)), (5, .v (.int .i64 ((n - 8 * t : Nat) : Int))), (6, .v (.int .i64 ((t : Nat) : Int))), (19, .v (.bool (decide ((((n - 8 * t : Nat) : Int) : Int) ≥ 8))))] h0 (by kernel_rfl) ⟨by kernel_rfl, by kernel_rfl, by kernel_rfl, by kernel_rfl, by kernel_rfl, trivial⟩ (fun a1 h1 d1 => ?_)
    replace d1 := d1.trans d0
    clear h0 d0
    rw [show (decide ((((n - 8 * t : Nat) : Int) : Int) ≥ 8)) = false from decide_eq_false (by omega)] at h1
    show Code.wp _ _ _ _ _
    refine wp_cond_false (h1.2 19 _ rfl) ?_
    refine wp_exit ?_
    refine then_exit (then_exit ?_)
    exact hex a1 W hB hw (sub_ok (E := [(0, .v (.slice (some ⟨g, 0, none⟩) k cap)), (1, .v (.slice A n c)), (5, .v (.int .i64 ((n - 8 * t : Nat) : Int))), (6, .v (.int .i64 ((t : Nat) : Int)))]) h1 sE) d1
  | succ m ih =>
    intro t W ht hB hw a0 h0 d0 hex
    rw [rounds_succ]
    refine wp_seq ?_
    refine wp_seq ?_
    refine wp_region ?_
    refine opsP (N := 59) (T := TT) (M := (fun _ _ => none)) tabOk (fun _ _ _ h => by cases h) [] [0, 1] [(0, .v (.slice (some ⟨g, 0, none⟩) k cap)), (1, .v (.slice A n c)), (5, .v (.int .i64 ((n - 8 * t : Nat) : Int))), (6, .v (.int .i64 ((t : Nat) : Int))), (19, .v (.bool (decide ((((n - 8 * t : Nat) : Int) : Int) ≥ 8))))] h0 (by kernel_rfl) ⟨by kernel_rfl, by kernel_rfl, by kernel_rfl, by kernel_rfl, by kernel_rfl, trivial⟩ (fun a1 h1 d1 => ?_)
    replace d1 := d1.trans d0
    clear h0 d0
    rw [show (decide ((((n - 8 * t : Nat) : Int) : Int) ≥ 8)) = true from decide_eq_true (by omega)] at h1
    show Code.wp _ _ _ _ _
    refine wp_cond_true (h1.2 19 _ rfl) ?_
    refine wp_skip ?_
    show Code.wp _ _ _ _ _
    refine wp_seq ?_
    refine wp_block ?_
    refine wp_seq ?_
    refine wp_region ?_
    refine opsP (N := 59) (T := TT) (M := (fun _ _ => none)) tabOk (fun _ _ _ h => by cases h) [5, 6, 7, 8, 9] [0, 1, 2, 3, 4] [(0, .v (.slice (some ⟨g, 0, none⟩) k cap)), (1, .v (.slice A n c)), (5, .v (.int .i64 ((n - 8 * t : Nat) : Int))), (6, .v (.int .i64 ((t : Nat) : Int))), (19, .v (.bool true)), (22, .v (.slice (some ⟨g, 0, none⟩) k cap)), (23, .v (.int .i64 ((t : Nat) : Int))), (24, .v (.slice A n c)), (25, .v (.int .i64 ((n - 8 * t : Nat) : Int))), (26, .v (.int .i64 (IntKind.i64.wrap (((n - 8 * t : Nat) : Int) - 8))))] h1 (by kernel_rfl) ⟨by kernel_rfl, by kernel_rfl, by kernel_rfl, by kernel_rfl, by kernel_rfl, by kernel_rfl, by kernel_rfl, by kernel_rfl, by kernel_rfl, by kernel_rfl, trivial⟩ (fun a2 h2 d2 => ?_)
    replace d2 := d2.trans d1
    clear h1 d1
    rw [show (IntKind.i64.wrap (((n - 8 * t : Nat) : Int) - 8)) = (((n - 8 * (t + 1)) : Nat) : Int) from i_less8 _ _ (by omega) (by omega)] at h2
    refine opsP (N := 59) (T := TT) (M := (fun _ _ => none)) tabOk (fun _ _ _ h => by cases h) [6, 7, 8, 9] [5] [(0, .v (.slice (some ⟨g, 0, none⟩) k cap)), (1, .v (.slice A n c)), (5, .v (.int .i64 ((n - 8 * t : Nat) : Int))), (6, .v (.int .i64 ((t : Nat) : Int))), (19, .v (.bool true)), (22, .v (.slice (some ⟨g, 0, none⟩) k cap)), (23, .v (.int .i64 ((t : Nat) : Int))), (24, .v (.slice A n c)), (25, .v (.int .i64 ((n - 8 * t : Nat) : Int))), (26, .v (.int .i64 (((n - 8 * (t + 1)) : Nat) : Int))), (27, .v (.int .i64 ((n - 8 * t : Nat) : Int)))] h2 (by kernel_rfl) ⟨by kernel_rfl, by kernel_rfl, by kernel_rfl, by kernel_rfl, by kernel_rfl, by kernel_rfl, by kernel_rfl, by kernel_rfl, by kernel_rfl, by kernel_rfl, by kernel_rfl, trivial⟩ (fun a3 h3 d3 => ?_)
    replace d3 := d3.trans d2
    clear h2 d2
    refine givenW_ops (N := 59) (i := 6) (d := 28) (s := .v (.slice (cutA A c (n - 8 * (t + 1))) (n - 8 * t - (n - 8 * (t + 1))) (c - (n - 8 * (t + 1))))) (l := [7, 8, 9]) rfl (want_ rfl) rfl (by decide) h3 (op_sllh (l := (n - 8 * (t + 1))) (h := n - 8 * t) rfl sltBytes (h3.2 24 _ rfl) (h3.2 26 _ rfl) (h3.2 27 _ rfl) (by omega) (by omega)) (fun a4 h4 d4 => ?_)
    replace d4 := d4.trans d3
    clear h3 d3
    refine callW_ops (N := 59) (i := 7) (d := 29) (f := 45) (args := [.v (.slice (cutA A c (n - 8 * (t + 1))) (n - 8 * t - (n - 8 * (t + 1))) (c - (n - 8 * (t + 1))))]) (l := [8, 9]) rfl (want_ rfl) rfl (by decide) h4 Try.func45 rfl rfl rfl (by kernel_rfl) (fun (v : Value) (W' : World) => v = .int .u64 ((wd l n t : Nat) : Int) ∧ Below W.heap.size W W') ((bew_walk (cutA A c (n - 8 * (t + 1))) _ _ ((l.drop (n - 8 * (t + 1))).take 8) (by omega) (by simp; omega) (by omega) (fun o ho => h8 o (List.mem_of_mem_drop (List.mem_of_mem_take ho))) W ((h.below hB).cut c (n - 8 * (t + 1)) 8 (by omega) (by omega))).mono fun e w' hh => ⟨_, hh.1, rfl, hh.2⟩) (fun v5 W5 a5 hR5 h5 d5 => ?_)
    replace d5 := d5.trans d4
    clear h4 d4
    obtain ⟨rfl, hBk⟩ := hR5
    have hw1 := hw.below hBk
    have hB1 := hB.trans (hBk.mono hB.size)
    refine givenW_ops (N := 59) (i := 8) (d := 30) (s := .v (.pointer (some ⟨g, 0 + t, none⟩))) (l := [9]) rfl (want_ rfl) rfl (by decide) h5 (op_indexE (j := t) rfl (h5.2 22 _ rfl) (h5.2 23 _ rfl) Try.underlying47 Try.sizeOf70 (by omega)) (fun a6 h6 d6 => ?_)
    replace d6 := d6.trans d5
    clear h5 d5
    rw [Nat.zero_add] at h6
    refine st_ops (i := 9) (l := []) rfl rfl rfl (op_store rfl (h6.2 30 _ rfl) (h6.2 29 _ rfl) (Or.inl ⟨_, _, rfl⟩) Try.sizeOf70 (hw1.cell (i := t) (by rw [fm_len]; omega)) (hw1.frozen t)) ?_
    have hw2 := hw1.set t ((wd l n t : Nat) : Int)
    rw [fw_step] at hw2
    have hB2 := hB1.trans ((Fr.setc (W := W5) g t (.int .u64 ((wd l n t : Nat) : Int))).below w.heap.size hB1.size (by simp; omega))
    show Code.wp _ _ _ _ _
    refine wp_region ?_
    refine opsP (N := 59) (T := TT) (M := (fun _ _ => none)) tabOk (fun _ _ _ h => by cases h) [2] [0, 1] [(0, .v (.slice (some ⟨g, 0, none⟩) k cap)), (1, .v (.slice A n c)), (5, .v (.int .i64 ((n - 8 * t : Nat) : Int))), (6, .v (.int .i64 ((t : Nat) : Int))), (19, .v (.bool true)), (31, .v (.int .i64 ((n - 8 * t : Nat) : Int))), (32, .v (.int .i64 (IntKind.i64.wrap (((n - 8 * t : Nat) : Int) - 8))))] h6 (by kernel_rfl) ⟨by kernel_rfl, by kernel_rfl, by kernel_rfl, by kernel_rfl, by kernel_rfl, by kernel_rfl, by kernel_rfl, trivial⟩ (fun a7 h7 d7 => ?_)
    replace d7 := d7.trans d6
    clear h6 d6
    rw [show (IntKind.i64.wrap (((n - 8 * t : Nat) : Int) - 8)) = (((n - 8 * (t + 1)) : Nat) : Int) from i_less8 _ _ (by omega) (by omega)] at h7
    refine opsP (N := 59) (T := TT) (M := (fun _ _ => none)) tabOk (fun _ _ _ h => by cases h) [] [2] [(0, .v (.slice (some ⟨g, 0, none⟩) k cap)), (1, .v (.slice A n c)), (5, .v (.int .i64 (((n - 8 * (t + 1)) : Nat) : Int))), (6, .v (.int .i64 ((t : Nat) : Int))), (19, .v (.bool true))] h7 (by kernel_rfl) ⟨by kernel_rfl, by kernel_rfl, by kernel_rfl, by kernel_rfl, by kernel_rfl, trivial⟩ (fun a8 h8 d8 => ?_)
    replace d8 := d8.trans d7
    clear h7 d7
    show Code.wp _ _ _ _ _
    refine wp_region ?_
    refine opsP (N := 59) (T := TT) (M := (fun _ _ => none)) tabOk (fun _ _ _ h => by cases h) [2] [0, 1] [(0, .v (.slice (some ⟨g, 0, none⟩) k cap)), (1, .v (.slice A n c)), (5, .v (.int .i64 (((n - 8 * (t + 1)) : Nat) : Int))), (6, .v (.int .i64 ((t : Nat) : Int))), (19, .v (.bool true)), (20, .v (.int .i64 ((t : Nat) : Int))), (21, .v (.int .i64 (IntKind.i64.wrap (((t : Nat) : Int) + 1))))] h8 (by kernel_rfl) ⟨by kernel_rfl, by kernel_rfl, by kernel_rfl, by kernel_rfl, by kernel_rfl, by kernel_rfl, by kernel_rfl, trivial⟩ (fun a9 h9 d9 => ?_)
    replace d9 := d9.trans d8
    clear h8 d8
    rw [show (IntKind.i64.wrap (((t : Nat) : Int) + 1)) = ((t + 1 : Nat) : Int) from i_suc1 t (by omega)] at h9
    refine opsP (N := 59) (T := TT) (M := (fun _ _ => none)) tabOk (fun _ _ _ h => by cases h) [] [2] [(0, .v (.slice (some ⟨g, 0, none⟩) k cap)), (1, .v (.slice A n c)), (5, .v (.int .i64 (((n - 8 * (t + 1)) : Nat) : Int))), (6, .v (.int .i64 ((t + 1 : Nat) : Int))), (19, .v (.bool true))] h9 (by kernel_rfl) ⟨by kernel_rfl, by kernel_rfl, by kernel_rfl, by kernel_rfl, by kernel_rfl, trivial⟩ (fun a10 h10 d10 => ?_)
    replace d10 := d10.trans d9
    clear h9 d9
    show Code.rounds _ _ _ _ _ _
    exact ih (t + 1) _ (by omega) hB2 hw2 a10 (sub_ok (E := [(0, .v (.slice (some ⟨g, 0, none⟩) k cap)), (1, .v (.slice A n c)), (5, .v (.int .i64 ((n - 8 * (t + 1) : Nat) : Int))), (6, .v (.int .i64 ((t + 1 : Nat) : Int)))]) h10 sE) d10 hex
set_option maxHeartbeats 8000000 in
set_option maxRecDepth 100000 in
theorem sb_rest {Q : Exit → Act → World → Prop} (g k cap n c r : Nat) (ad : Addr) (l : List Nat) (W : World) (hcell : ∀ j, j < l.length → W.cell? (ad.add j) = some (.int .u8 ((l.getD j 0 : Nat) : Int))) (hl : l.length = n) (h8 : ∀ o ∈ l, o < 256) (hr : r ≤ n) (hr8 : r < 8) : ∀ (i j : Nat), i + j = r → ∀ a0, Has 59 (bn []) [(0, .v (.slice (some ⟨g, 0, none⟩) k cap)), (1, .v (.slice (some ad) n c)), (5, .v (.int .i64 ((i : Nat) : Int))), (7, .v (.int .u64 ((beN ((l.take r).drop i) : Nat) : Int))), (8, .v (.int .u64 ((8 * j : Nat) : Int)))] a0 → a0.defers = [] →
    (∀ a', Has 59 (bn []) [(0, .v (.slice (some ⟨g, 0, none⟩) k cap)), (1, .v (.slice (some ad) n c)), (5, .v (.int .i64 ((0 : Nat) : Int))), (7, .v (.int .u64 ((beN ((l.take r).drop 0) : Nat) : Int))), (8, .v (.int .u64 ((8 * r : Nat) : Int)))] a' → a'.defers = [] → Q (.exit 2) a' W) → Code.rounds Try.prog sbM Q (i + 1) a0 W := by
  intro i
  induction i with
  | zero =>
    intro j hj a0 h0 d0 hex
    obtain rfl : j = r := by omega
    rw [rounds_succ]
    refine wp_seq ?_
    refine wp_seq ?_
    refine wp_region ?_
    refine opsP (N := 59) (T := TT) (M := (fun _ _ => none)) tabOk (fun _ _ _ h => by cases h) [] [0, 1] [(0, .v (.slice (some ⟨g, 0, none⟩) k cap)), (1, .v (.slice (some ad) n c)), (5, .v (.int .i64 ((0 : Nat) : Int))), (7, .v (.int .u64 ((beN ((l.take j).drop 0) : Nat) : Int))), (8, .v (.int .u64 ((8 * j : Nat) : Int))), (36, .v (.bool (decide ((((0 : Nat) : Int) : Int) > 0))))] h0 (by kernel_rfl) ⟨by kernel_rfl, by kernel_rfl, by kernel_rfl, by kernel_rfl, by kernel_rfl, by kernel_rfl, trivial⟩ (fun a1 h1 d1 => ?_)
    replace d1 := d1.trans d0
    clear h0 d0
    rw [show (decide ((((0 : Nat) : Int) : Int) > 0)) = false from rfl] at h1
    show Code.wp _ _ _ _ _
    refine wp_cond_false (h1.2 36 _ rfl) ?_
    refine wp_exit ?_
    refine then_exit (then_exit ?_)
    exact hex a1 (sub_ok (E := [(0, .v (.slice (some ⟨g, 0, none⟩) k cap)), (1, .v (.slice (some ad) n c)), (5, .v (.int .i64 ((0 : Nat) : Int))), (7, .v (.int .u64 ((beN ((l.take j).drop 0) : Nat) : Int))), (8, .v (.int .u64 ((8 * j : Nat) : Int)))]) h1 sE) d1
  | succ i ih =>
    intro j hj a0 h0 d0 hex
    have hx : l.getD i 0 < 256 := by
      rw [List.getD_eq_getElem?_getD, List.getElem?_eq_getElem (by omega)]
      exact h8 _ (List.getElem_mem (by omega))
    have hlt := rest_lt l r (i + 1) j (by omega) h8 (by omega)
    have hst := rest_step l r i j (by omega) (by omega)
    have hlt2 := rest_lt l r i (j + 1) (by omega) h8 (by omega)
    have hp : 2 ^ (8 * (j + 1)) ≤ 2 ^ 56 := Nat.pow_le_pow_right (by decide) (by omega)
    rw [rounds_succ]
    refine wp_seq ?_
    refine wp_seq ?_
    refine wp_region ?_
    refine opsP (N := 59) (T := TT) (M := (fun _ _ => none)) tabOk (fun _ _ _ h => by cases h) [] [0, 1] [(0, .v (.slice (some ⟨g, 0, none⟩) k cap)), (1, .v (.slice (some ad) n c)), (5, .v (.int .i64 ((i + 1 : Nat) : Int))), (7, .v (.int .u64 ((beN ((l.take r).drop (i + 1)) : Nat) : Int))), (8, .v (.int .u64 ((8 * j : Nat) : Int))), (36, .v (.bool (decide ((((i + 1 : Nat) : Int) : Int) > 0))))] h0 (by kernel_rfl) ⟨by kernel_rfl, by kernel_rfl, by kernel_rfl, by kernel_rfl, by kernel_rfl, by kernel_rfl, trivial⟩ (fun a1 h1 d1 => ?_)
    replace d1 := d1.trans d0
    clear h0 d0
    rw [show (decide ((((i + 1 : Nat) : Int) : Int) > 0)) = true from decide_eq_true (by omega)] at h1
    show Code.wp _ _ _ _ _
    refine wp_cond_true (h1.2 36 _ rfl) ?_
    refine wp_skip ?_
    show Code.wp _ _ _ _ _
    refine wp_seq ?_
    refine wp_block ?_
    refine wp_seq ?_
    refine wp_region ?_
    refine opsP (N := 59) (T := TT) (M := (fun _ _ => none)) tabOk (fun _ _ _ h => by cases h) [4, 5, 6, 7, 8, 9, 10] [0, 1, 2, 3] [(0, .v (.slice (some ⟨g, 0, none⟩) k cap)), (1, .v (.slice (some ad) n c)), (5, .v (.int .i64 ((i + 1 : Nat) : Int))), (7, .v (.int .u64 ((beN ((l.take r).drop (i + 1)) : Nat) : Int))), (8, .v (.int .u64 ((8 * j : Nat) : Int))), (36, .v (.bool true)), (39, .v (.int .u64 ((beN ((l.take r).drop (i + 1)) : Nat) : Int))), (40, .v (.slice (some ad) n c)), (41, .v (.int .i64 ((i + 1 : Nat) : Int))), (42, .v (.int .i64 (IntKind.i64.wrap (((i + 1 : Nat) : Int) - 1))))] h1 (by kernel_rfl) ⟨by kernel_rfl, by kernel_rfl, by kernel_rfl, by kernel_rfl, by kernel_rfl, by kernel_rfl, by kernel_rfl, by kernel_rfl, by kernel_rfl, by kernel_rfl, trivial⟩ (fun a2 h2 d2 => ?_)
    replace d2 := d2.trans d1
    clear h1 d1
    rw [show (IntKind.i64.wrap (((i + 1 : Nat) : Int) - 1)) = ((i : Nat) : Int) from i_pred i (by omega)] at h2
    refine givenW_ops (N := 59) (i := 4) (d := 43) (s := .v (.pointer (some (ad.add i)))) (l := [5, 6, 7, 8, 9, 10]) rfl (want_ rfl) rfl (by decide) h2 (op_indexA (j := i) rfl (h2.2 40 _ rfl) (h2.2 42 _ rfl) Try.underlying25 Try.sizeOf5 (by omega)) (fun a3 h3 d3 => ?_)
    replace d3 := d3.trans d2
    clear h2 d2
    refine givenW_ops (N := 59) (i := 5) (d := 44) (s := .v (.int .u8 ((l.getD i 0 : Nat) : Int))) (l := [6, 7, 8, 9, 10]) rfl (want_ rfl) rfl (by decide) h3 (op_load rfl (h3.2 43 _ rfl) Try.isAgg5 (hcell i (by omega))) (fun a4 h4 d4 => ?_)
    replace d4 := d4.trans d3
    clear h3 d3
    refine opsP (N := 59) (T := TT) (M := (fun _ _ => none)) tabOk (fun _ _ _ h => by cases h) [7, 8, 9, 10] [6] [(0, .v (.slice (some ⟨g, 0, none⟩) k cap)), (1, .v (.slice (some ad) n c)), (5, .v (.int .i64 ((i + 1 : Nat) : Int))), (7, .v (.int .u64 ((beN ((l.take r).drop (i + 1)) : Nat) : Int))), (8, .v (.int .u64 ((8 * j : Nat) : Int))), (36, .v (.bool true)), (39, .v (.int .u64 ((beN ((l.take r).drop (i + 1)) : Nat) : Int))), (40, .v (.slice (some ad) n c)), (41, .v (.int .i64 ((i + 1 : Nat) : Int))), (42, .v (.int .i64 ((i : Nat) : Int))), (43, .v (.pointer (some (ad.add i)))), (44, .v (.int .u8 ((l.getD i 0 : Nat) : Int))), (45, .v (.int .u64 (IntKind.u64.wrap (((l.getD i 0 : Nat) : Int)))))] h4 (by kernel_rfl) ⟨by kernel_rfl, by kernel_rfl, by kernel_rfl, by kernel_rfl, by kernel_rfl, by kernel_rfl, by kernel_rfl, by kernel_rfl, by kernel_rfl, by kernel_rfl, by kernel_rfl, by kernel_rfl, by kernel_rfl, trivial⟩ (fun a5 h5 d5 => ?_)
    replace d5 := d5.trans d4
    clear h4 d4
    rw [show (IntKind.u64.wrap (((l.getD i 0 : Nat) : Int))) = ((l.getD i 0 : Nat) : Int) from w64i _ hx] at h5
    refine opsP (N := 59) (T := TT) (M := (fun _ _ => none)) tabOk (fun _ _ _ h => by cases h) [8, 9, 10] [7] [(0, .v (.slice (some ⟨g, 0, none⟩) k cap)), (1, .v (.slice (some ad) n c)), (5, .v (.int .i64 ((i + 1 : Nat) : Int))), (7, .v (.int .u64 ((beN ((l.take r).drop (i + 1)) : Nat) : Int))), (8, .v (.int .u64 ((8 * j : Nat) : Int))), (36, .v (.bool true)), (39, .v (.int .u64 ((beN ((l.take r).drop (i + 1)) : Nat) : Int))), (40, .v (.slice (some ad) n c)), (41, .v (.int .i64 ((i + 1 : Nat) : Int))), (42, .v (.int .i64 ((i : Nat) : Int))), (43, .v (.pointer (some (ad.add i)))), (44, .v (.int .u8 ((l.getD i 0 : Nat) : Int))), (45, .v (.int .u64 ((l.getD i 0 : Nat) : Int))), (46, .v (.int .u64 ((8 * j : Nat) : Int)))] h5 (by kernel_rfl) ⟨by kernel_rfl, by kernel_rfl, by kernel_rfl, by kernel_rfl, by kernel_rfl, by kernel_rfl, by kernel_rfl, by kernel_rfl, by kernel_rfl, by kernel_rfl, by kernel_rfl, by kernel_rfl, by kernel_rfl, by kernel_rfl, trivial⟩ (fun a6 h6 d6 => ?_)
    replace d6 := d6.trans d5
    clear h5 d5
    refine givenW_ops (N := 59) (i := 8) (d := 47) (s := .v (.int .u64 (IntKind.u64.wrap (((l.getD i 0 : Nat) : Int) * ((2 ^ (8 * j) : Nat) : Int))))) (l := [9, 10]) rfl (want_ rfl) rfl (by decide) h6 (op_shlV (n := 8 * j) rfl (h6.2 45 _ rfl) (h6.2 46 _ rfl) (by omega)) (fun a7 h7 d7 => ?_)
    replace d7 := d7.trans d6
    clear h6 d6
    rw [show (IntKind.u64.wrap (((l.getD i 0 : Nat) : Int) * ((2 ^ (8 * j) : Nat) : Int))) = ((l.getD i 0 * 2 ^ (8 * j) : Nat) : Int) from sh_u64 _ _ (by omega)] at h7
    refine opsP (N := 59) (T := TT) (M := (fun _ _ => none)) tabOk (fun _ _ _ h => by cases h) [10] [9] [(0, .v (.slice (some ⟨g, 0, none⟩) k cap)), (1, .v (.slice (some ad) n c)), (5, .v (.int .i64 ((i + 1 : Nat) : Int))), (7, .v (.int .u64 ((beN ((l.take r).drop (i + 1)) : Nat) : Int))), (8, .v (.int .u64 ((8 * j : Nat) : Int))), (36, .v (.bool true)), (39, .v (.int .u64 ((beN ((l.take r).drop (i + 1)) : Nat) : Int))), (40, .v (.slice (some ad) n c)), (41, .v (.int .i64 ((i + 1 : Nat) : Int))), (42, .v (.int .i64 ((i : Nat) : Int))), (43, .v (.pointer (some (ad.add i)))), (44, .v (.int .u8 ((l.getD i 0 : Nat) : Int))), (45, .v (.int .u64 ((l.getD i 0 : Nat) : Int))), (46, .v (.int .u64 ((8 * j : Nat) : Int))), (47, .v (.int .u64 ((l.getD i 0 * 2 ^ (8 * j) : Nat) : Int))), (48, .v (.int .u64 (Go.bits .or .u64 ((beN ((l.take r).drop (i + 1)) : Nat) : Int) ((l.getD i 0 * 2 ^ (8 * j) : Nat) : Int))))] h7 (by kernel_rfl) ⟨by kernel_rfl, by kernel_rfl, by kernel_rfl, by kernel_rfl, by kernel_rfl, by kernel_rfl, by kernel_rfl, by kernel_rfl, by kernel_rfl, by kernel_rfl, by kernel_rfl, by kernel_rfl, by kernel_rfl, by kernel_rfl, by kernel_rfl, by kernel_rfl, trivial⟩ (fun a8 h8 d8 => ?_)
    replace d8 := d8.trans d7
    clear h7 d7
    rw [show (Go.bits .or .u64 ((beN ((l.take r).drop (i + 1)) : Nat) : Int) ((l.getD i 0 * 2 ^ (8 * j) : Nat) : Int)) = ((beN ((l.take r).drop i) : Nat) : Int) from (or_u64 _ _ (8 * j) hlt (by omega)).trans (by rw [hst])] at h8
    refine opsP (N := 59) (T := TT) (M := (fun _ _ => none)) tabOk (fun _ _ _ h => by cases h) [] [10] [(0, .v (.slice (some ⟨g, 0, none⟩) k cap)), (1, .v (.slice (some ad) n c)), (5, .v (.int .i64 ((i + 1 : Nat) : Int))), (7, .v (.int .u64 ((beN ((l.take r).drop i) : Nat) : Int))), (8, .v (.int .u64 ((8 * j : Nat) : Int))), (36, .v (.bool true))] h8 (by kernel_rfl) ⟨by kernel_rfl, by kernel_rfl, by kernel_rfl, by kernel_rfl, by kernel_rfl, by kernel_rfl, trivial⟩ (fun a9 h9 d9 => ?_)
    replace d9 := d9.trans d8
    clear h8 d8
    show Code.wp _ _ _ _ _
    refine wp_region ?_
    refine opsP (N := 59) (T := TT) (M := (fun _ _ => none)) tabOk (fun _ _ _ h => by cases h) [2] [0, 1] [(0, .v (.slice (some ⟨g, 0, none⟩) k cap)), (1, .v (.slice (some ad) n c)), (5, .v (.int .i64 ((i + 1 : Nat) : Int))), (7, .v (.int .u64 ((beN ((l.take r).drop i) : Nat) : Int))), (8, .v (.int .u64 ((8 * j : Nat) : Int))), (36, .v (.bool true)), (49, .v (.int .i64 ((i + 1 : Nat) : Int))), (50, .v (.int .i64 (IntKind.i64.wrap (((i + 1 : Nat) : Int) - 1))))] h9 (by kernel_rfl) ⟨by kernel_rfl, by kernel_rfl, by kernel_rfl, by kernel_rfl, by kernel_rfl, by kernel_rfl, by kernel_rfl, by kernel_rfl, trivial⟩ (fun a10 h10 d10 => ?_)
    replace d10 := d10.trans d9
    clear h9 d9
    rw [show (IntKind.i64.wrap (((i + 1 : Nat) : Int) - 1)) = ((i : Nat) : Int) from i_pred i (by omega)] at h10
    refine opsP (N := 59) (T := TT) (M := (fun _ _ => none)) tabOk (fun _ _ _ h => by cases h) [] [2] [(0, .v (.slice (some ⟨g, 0, none⟩) k cap)), (1, .v (.slice (some ad) n c)), (5, .v (.int .i64 ((i : Nat) : Int))), (7, .v (.int .u64 ((beN ((l.take r).drop i) : Nat) : Int))), (8, .v (.int .u64 ((8 * j : Nat) : Int))), (36, .v (.bool true))] h10 (by kernel_rfl) ⟨by kernel_rfl, by kernel_rfl, by kernel_rfl, by kernel_rfl, by kernel_rfl, by kernel_rfl, trivial⟩ (fun a11 h11 d11 => ?_)
    replace d11 := d11.trans d10
    clear h10 d10
    show Code.wp _ _ _ _ _
    refine wp_region ?_
    refine opsP (N := 59) (T := TT) (M := (fun _ _ => none)) tabOk (fun _ _ _ h => by cases h) [2] [0, 1] [(0, .v (.slice (some ⟨g, 0, none⟩) k cap)), (1, .v (.slice (some ad) n c)), (5, .v (.int .i64 ((i : Nat) : Int))), (7, .v (.int .u64 ((beN ((l.take r).drop i) : Nat) : Int))), (8, .v (.int .u64 ((8 * j : Nat) : Int))), (36, .v (.bool true)), (37, .v (.int .u64 ((8 * j : Nat) : Int))), (38, .v (.int .u64 (IntKind.u64.wrap (((8 * j : Nat) : Int) + 8))))] h11 (by kernel_rfl) ⟨by kernel_rfl, by kernel_rfl, by kernel_rfl, by kernel_rfl, by kernel_rfl, by kernel_rfl, by kernel_rfl, by kernel_rfl, trivial⟩ (fun a12 h12 d12 => ?_)
    replace d12 := d12.trans d11
    clear h11 d11
    rw [show (IntKind.u64.wrap (((8 * j : Nat) : Int) + 8)) = ((8 * (j + 1) : Nat) : Int) from u_more8 j (by omega)] at h12
    refine opsP (N := 59) (T := TT) (M := (fun _ _ => none)) tabOk (fun _ _ _ h => by cases h) [] [2] [(0, .v (.slice (some ⟨g, 0, none⟩) k cap)), (1, .v (.slice (some ad) n c)), (5, .v (.int .i64 ((i : Nat) : Int))), (7, .v (.int .u64 ((beN ((l.take r).drop i) : Nat) : Int))), (8, .v (.int .u64 ((8 * (j + 1) : Nat) : Int))), (36, .v (.bool true))] h12 (by kernel_rfl) ⟨by kernel_rfl, by kernel_rfl, by kernel_rfl, by kernel_rfl, by kernel_rfl, by kernel_rfl, trivial⟩ (fun a13 h13 d13 => ?_)
    replace d13 := d13.trans d12
    clear h12 d12
    show Code.rounds _ _ _ _ _ _
    exact ih (j + 1) (by omega) a13 (sub_ok (E := [(0, .v (.slice (some ⟨g, 0, none⟩) k cap)), (1, .v (.slice (some ad) n c)), (5, .v (.int .i64 ((i : Nat) : Int))), (7, .v (.int .u64 ((beN ((l.take r).drop i) : Nat) : Int))), (8, .v (.int .u64 ((8 * (j + 1) : Nat) : Int)))]) h13 sE) d13 hex
set_option maxHeartbeats 8000000 in
set_option maxRecDepth 100000 in
theorem sb_even (ad : Addr) (n c k q r : Nat) (l : List Nat) (hl : l.length = n) (hc : n ≤ c) (h8 : ∀ o ∈ l, o < 256) (hn : n < 900) (hk : k = (n + 7) / 8) (hq : n = 8 * q + r) (hr : r < 8) (h0 : 0 < n) (hrr : r = 0) (w : World) (h : Oc w (some ad) l) :
    Calls Try.prog 31 #[.slice none 0 0, .slice (some ad) n c] w fun e w' => e = .returned (.slice (some ⟨w.heap.size, 0, none⟩) (topN (fm (wV (beN l)) (capN k)) k) (capN k)) ∧ Wd w' w.heap.size (fm (wV (beN l)) (capN k)) ∧ Below w.heap.size w w' := by
  refine calls_of_wp Try.func31 rfl ?_
  have h0 := has_two (β := bn []) (.v (.slice none 0 0)) (.v (.slice (some ad) n c)) 57
  have d0 : (⟨#[.slice none 0 0, .slice (some ad) n c] ++ Array.replicate 57 undef, []⟩ : Act).defers = [] := rfl
  refine wp_seq ?_
  refine wp_region ?_
  refine opsP (N := 59) (T := TT) (M := (fun _ _ => none)) tabOk (fun _ _ _ h => by cases h) [] [0] [(0, .v (.slice none 0 0)), (1, .v (.slice (some ad) n c)), (4, .v (Value.slice none 0 0))] h0 (by kernel_rfl) ⟨by kernel_rfl, by kernel_rfl, by kernel_rfl, trivial⟩ (fun a1 h1 d1 => ?_)
  replace d1 := d1.trans d0
  clear h0 d0
  show Code.wp _ _ _ _ _
  refine wp_seq ?_
  refine wp_region ?_
  refine opsP (N := 59) (T := TT) (M := (fun _ _ => none)) tabOk (fun _ _ _ h => by cases h) [2, 3, 4, 5, 6, 7] [0, 1] [(0, .v (.slice none 0 0)), (1, .v (.slice (some ad) n c)), (4, .v (Value.slice none 0 0)), (9, .v (.slice none 0 0)), (10, .v (.slice (some ad) n c))] h1 (by kernel_rfl) ⟨by kernel_rfl, by kernel_rfl, by kernel_rfl, by kernel_rfl, by kernel_rfl, trivial⟩ (fun a2 h2 d2 => ?_)
  replace d2 := d2.trans d1
  clear h1 d1
  refine givenW_ops (N := 59) (i := 2) (d := 11) (s := .v (.int .i64 ((n : Nat) : Int))) (l := [3, 4, 5, 6, 7]) rfl (want_ rfl) rfl (by decide) h2 (op_len rfl Try.underlying25 (h2.2 10 _ rfl)) (fun a3 h3 d3 => ?_)
  replace d3 := d3.trans d2
  clear h2 d2
  refine opsP (N := 59) (T := TT) (M := (fun _ _ => none)) tabOk (fun _ _ _ h => by cases h) [4, 5, 6, 7] [3] [(0, .v (.slice none 0 0)), (1, .v (.slice (some ad) n c)), (4, .v (Value.slice none 0 0)), (9, .v (.slice none 0 0)), (10, .v (.slice (some ad) n c)), (11, .v (.int .i64 ((n : Nat) : Int))), (12, .v (.int .i64 (IntKind.i64.wrap (((n : Nat) : Int) + 8))))] h3 (by kernel_rfl) ⟨by kernel_rfl, by kernel_rfl, by kernel_rfl, by kernel_rfl, by kernel_rfl, by kernel_rfl, by kernel_rfl, trivial⟩ (fun a4 h4 d4 => ?_)
  replace d4 := d4.trans d3
  clear h3 d3
  rw [show (IntKind.i64.wrap (((n : Nat) : Int) + 8)) = ((n + 8 : Nat) : Int) from i_more8 n (by omega)] at h4
  refine opsP (N := 59) (T := TT) (M := (fun _ _ => none)) tabOk (fun _ _ _ h => by cases h) [5, 6, 7] [4] [(0, .v (.slice none 0 0)), (1, .v (.slice (some ad) n c)), (4, .v (Value.slice none 0 0)), (9, .v (.slice none 0 0)), (10, .v (.slice (some ad) n c)), (11, .v (.int .i64 ((n : Nat) : Int))), (12, .v (.int .i64 ((n + 8 : Nat) : Int))), (13, .v (.int .i64 (IntKind.i64.wrap (((n + 8 : Nat) : Int) - 1))))] h4 (by kernel_rfl) ⟨by kernel_rfl, by kernel_rfl, by kernel_rfl, by kernel_rfl, by kernel_rfl, by kernel_rfl, by kernel_rfl, by kernel_rfl, trivial⟩ (fun a5 h5 d5 => ?_)
  replace d5 := d5.trans d4
  clear h4 d4
  rw [show (IntKind.i64.wrap (((n + 8 : Nat) : Int) - 1)) = ((n + 7 : Nat) : Int) from i_less1 n (by omega)] at h5
  refine opsP (N := 59) (T := TT) (M := (fun _ _ => none)) tabOk (fun _ _ _ h => by cases h) [6, 7] [5] [(0, .v (.slice none 0 0)), (1, .v (.slice (some ad) n c)), (4, .v (Value.slice none 0 0)), (9, .v (.slice none 0 0)), (10, .v (.slice (some ad) n c)), (11, .v (.int .i64 ((n : Nat) : Int))), (12, .v (.int .i64 ((n + 8 : Nat) : Int))), (13, .v (.int .i64 ((n + 7 : Nat) : Int))), (14, .v (.int .i64 (IntKind.i64.wrap (Int.tdiv ((n + 7 : Nat) : Int) 8))))] h5 (by kernel_rfl) ⟨by kernel_rfl, by kernel_rfl, by kernel_rfl, by kernel_rfl, by kernel_rfl, by kernel_rfl, by kernel_rfl, by kernel_rfl, by kernel_rfl, trivial⟩ (fun a6 h6 d6 => ?_)
  replace d6 := d6.trans d5
  clear h5 d5
  rw [show (IntKind.i64.wrap (Int.tdiv ((n + 7 : Nat) : Int) 8)) = ((k : Nat) : Int) from by rw [hk]; exact i_quo8 n (by omega)] at h6
  refine callW_ops (N := 59) (i := 6) (d := 15) (f := 44) (args := [.v (.slice none 0 0), .v (.int .i64 ((k : Nat) : Int))]) (l := [7]) rfl (want_ rfl) rfl (by decide) h6 Try.func44 rfl rfl rfl (by kernel_rfl) (fun (v : Value) (W' : World) => v = (.slice (some ⟨w.heap.size, 0, none⟩) k (capN k)) ∧ Wd W' w.heap.size (List.replicate (capN k) 0) ∧ Below w.heap.size w W') ((make_new k (by omega) (by omega) w).mono fun e w' hh => ⟨_, hh.1, rfl, hh.2⟩) (fun v7 W7 a7 hR7 h7 d7 => ?_)
  replace d7 := d7.trans d6
  clear h6 d6
  obtain ⟨rfl, hw, hB⟩ := hR7
  rw [fm_zero] at hw
  refine opsP (N := 59) (T := TT) (M := (fun _ _ => none)) tabOk (fun _ _ _ h => by cases h) [] [7] [(0, .v (.slice (some ⟨w.heap.size, 0, none⟩) k (capN k))), (1, .v (.slice (some ad) n c)), (4, .v (Value.slice none 0 0))] h7 (by kernel_rfl) ⟨by kernel_rfl, by kernel_rfl, by kernel_rfl, trivial⟩ (fun a8 h8 d8 => ?_)
  replace d8 := d8.trans d7
  clear h7 d7
  show Code.wp _ _ _ _ _
  refine wp_seq ?_
  refine wp_region ?_
  refine opsP (N := 59) (T := TT) (M := (fun _ _ => none)) tabOk (fun _ _ _ h => by cases h) [1, 2] [0] [(0, .v (.slice (some ⟨w.heap.size, 0, none⟩) k (capN k))), (1, .v (.slice (some ad) n c)), (4, .v (Value.slice none 0 0)), (16, .v (.slice (some ad) n c))] h8 (by kernel_rfl) ⟨by kernel_rfl, by kernel_rfl, by kernel_rfl, by kernel_rfl, trivial⟩ (fun a9 h9 d9 => ?_)
  replace d9 := d9.trans d8
  clear h8 d8
  refine givenW_ops (N := 59) (i := 1) (d := 17) (s := .v (.int .i64 ((n : Nat) : Int))) (l := [2]) rfl (want_ rfl) rfl (by decide) h9 (op_len rfl Try.underlying25 (h9.2 16 _ rfl)) (fun a10 h10 d10 => ?_)
  replace d10 := d10.trans d9
  clear h9 d9
  refine opsP (N := 59) (T := TT) (M := (fun _ _ => none)) tabOk (fun _ _ _ h => by cases h) [] [2] [(0, .v (.slice (some ⟨w.heap.size, 0, none⟩) k (capN k))), (1, .v (.slice (some ad) n c)), (4, .v (Value.slice none 0 0)), (5, .v (.int .i64 ((n : Nat) : Int)))] h10 (by kernel_rfl) ⟨by kernel_rfl, by kernel_rfl, by kernel_rfl, by kernel_rfl, trivial⟩ (fun a11 h11 d11 => ?_)
  replace d11 := d11.trans d10
  clear h10 d10
  show Code.wp _ _ _ _ _
  refine wp_seq ?_
  refine wp_seq ?_
  refine wp_region ?_
  refine opsP (N := 59) (T := TT) (M := (fun _ _ => none)) tabOk (fun _ _ _ h => by cases h) [] [0] [(0, .v (.slice (some ⟨w.heap.size, 0, none⟩) k (capN k))), (1, .v (.slice (some ad) n c)), (4, .v (Value.slice none 0 0)), (5, .v (.int .i64 ((n : Nat) : Int))), (6, .v (.int .i64 0))] h11 (by kernel_rfl) ⟨by kernel_rfl, by kernel_rfl, by kernel_rfl, by kernel_rfl, by kernel_rfl, trivial⟩ (fun a12 h12 d12 => ?_)
  replace d12 := d12.trans d11
  clear h11 d11
  show Code.wp _ _ _ _ _
  have hz : fm (fun _ => 0) (capN k) = fm (fw l n 0) (capN k) := fm_congr _ _ _ (fun j _ => by simp [fw])
  rw [hz] at hw
  have hkc := capN_le k
  refine wp_block ?_
  refine wp_loop_rounds (q + 1) ?_
  refine sb_loop w.heap.size k (capN k) n c q (some ad) l w h hl hc h8 (by omega) (by omega) (by omega) (by omega) hkc (Nat.le_refl _) q 0 W7 (by omega) hB hw a12 (sub_ok (E := [(0, .v (.slice (some ⟨w.heap.size, 0, none⟩) k (capN k))), (1, .v (.slice (some ad) n c)), (5, .v (.int .i64 ((n - 8 * 0 : Nat) : Int))), (6, .v (.int .i64 ((0 : Nat) : Int)))]) h12 sE) d12 (fun a13 V hBV hwV h13 d13 => ?_)
  refine exit_in ?_
  show Code.wp _ _ _ _ _
  refine wp_seq ?_
  refine wp_seq ?_
  refine wp_region ?_
  refine opsP (N := 59) (T := TT) (M := (fun _ _ => none)) tabOk (fun _ _ _ h => by cases h) [] [0, 1] [(0, .v (.slice (some ⟨w.heap.size, 0, none⟩) k (capN k))), (1, .v (.slice (some ad) n c)), (5, .v (.int .i64 ((n - 8 * q : Nat) : Int))), (6, .v (.int .i64 ((q : Nat) : Int))), (34, .v (.bool (decide ((((n - 8 * q : Nat) : Int) : Int) > 0))))] h13 (by kernel_rfl) ⟨by kernel_rfl, by kernel_rfl, by kernel_rfl, by kernel_rfl, by kernel_rfl, trivial⟩ (fun a14 h14 d14 => ?_)
  replace d14 := d14.trans d13
  clear h13 d13
  rw [show (decide ((((n - 8 * q : Nat) : Int) : Int) > 0)) = false from decide_eq_false (by omega)] at h14
  show Code.wp _ _ _ _ _
  refine wp_cond_false (h14.2 34 _ rfl) ?_
  refine wp_skip ?_
  show Code.wp _ _ _ _ _
  have hw2 := hwV
  rw [fw_whole l n q _ hl h8 (by omega)] at hw2
  have hB2 := hBV
  refine wp_seq ?_
  refine wp_region ?_
  refine opsP (N := 59) (T := TT) (M := (fun _ _ => none)) tabOk (fun _ _ _ h => by cases h) [1, 2] [0] [(0, .v (.slice (some ⟨w.heap.size, 0, none⟩) k (capN k))), (1, .v (.slice (some ad) n c)), (5, .v (.int .i64 ((n - 8 * q : Nat) : Int))), (6, .v (.int .i64 ((q : Nat) : Int))), (34, .v (.bool false)), (57, .v (.slice (some ⟨w.heap.size, 0, none⟩) k (capN k)))] h14 (by kernel_rfl) ⟨by kernel_rfl, by kernel_rfl, by kernel_rfl, by kernel_rfl, by kernel_rfl, by kernel_rfl, trivial⟩ (fun a15 h15 d15 => ?_)
  replace d15 := d15.trans d14
  clear h14 d14
  refine callW_ops (N := 59) (i := 1) (d := 58) (f := 46) (args := [.v (.slice (some ⟨w.heap.size, 0, none⟩) k (capN k))]) (l := [2]) rfl (want_ rfl) rfl (by decide) h15 Try.func46 rfl rfl rfl (by kernel_rfl) (fun (v : Value) (W' : World) => v = (.slice (some ⟨w.heap.size, 0, none⟩) (topN (fm (wV (beN l)) (capN k)) k) (capN k)) ∧ W' = V) ((norm_walk w.heap.size k (capN k) (fm (wV (beN l)) (capN k)) _ hw2 (by rw [fm_len]; exact hkc) (by omega) hkc).mono fun e w' hh => ⟨_, hh.1, rfl, hh.2⟩) (fun v16 W16 a16 hR16 h16 d16 => ?_)
  replace d16 := d16.trans d15
  clear h15 d15
  obtain ⟨rfl, e1⟩ := hR16
  rw [← e1] at hw2 hB2
  refine opsP (N := 59) (T := TT) (M := (fun _ _ => none)) tabOk (fun _ _ _ h => by cases h) [] [2] [(0, .v (.slice (some ⟨w.heap.size, 0, none⟩) k (capN k))), (1, .v (.slice (some ad) n c)), (4, .v (.slice (some ⟨w.heap.size, 0, none⟩) (topN (fm (wV (beN l)) (capN k)) k) (capN k))), (5, .v (.int .i64 ((n - 8 * q : Nat) : Int))), (6, .v (.int .i64 ((q : Nat) : Int))), (34, .v (.bool false))] h16 (by kernel_rfl) ⟨by kernel_rfl, by kernel_rfl, by kernel_rfl, by kernel_rfl, by kernel_rfl, by kernel_rfl, trivial⟩ (fun a17 h17 d17 => ?_)
  replace d17 := d17.trans d16
  clear h16 d16
  show Code.wp _ _ _ _ _
  refine wp_ret ?_
  exact ⟨d17, _, results_tmp rfl _ _ _, congrArg Ending.returned (h17.2 4 _ rfl), hw2, hB2⟩
set_option maxHeartbeats 8000000 in
set_option maxRecDepth 100000 in
theorem sb_more (ad : Addr) (n c k q r : Nat) (l : List Nat) (hl : l.length = n) (hc : n ≤ c) (h8 : ∀ o ∈ l, o < 256) (hn : n < 900) (hk : k = (n + 7) / 8) (hq : n = 8 * q + r) (hr : r < 8) (h0 : 0 < n) (hrr : 0 < r) (w : World) (h : Oc w (some ad) l) :
    Calls Try.prog 31 #[.slice none 0 0, .slice (some ad) n c] w fun e w' => e = .returned (.slice (some ⟨w.heap.size, 0, none⟩) (topN (fm (wV (beN l)) (capN k)) k) (capN k)) ∧ Wd w' w.heap.size (fm (wV (beN l)) (capN k)) ∧ Below w.heap.size w w' := by
  refine calls_of_wp Try.func31 rfl ?_
  have h0 := has_two (β := bn []) (.v (.slice none 0 0)) (.v (.slice (some ad) n c)) 57
  have d0 : (⟨#[.slice none 0 0, .slice (some ad) n c] ++ Array.replicate 57 undef, []⟩ : Act).defers = [] := rfl
  refine wp_seq ?_
  refine wp_region ?_
  refine opsP (N := 59) (T := TT) (M := (fun _ _ => none)) tabOk (fun _ _ _ h => by cases h) [] [0] [(0, .v (.slice none 0 0)), (1, .v (.slice (some ad) n c)), (4, .v (Value.slice none 0 0))] h0 (by kernel_rfl) ⟨by kernel_rfl, by kernel_rfl, by kernel_rfl, trivial⟩ (fun a1 h1 d1 => ?_)
  replace d1 := d1.trans d0
  clear h0 d0
  show Code.wp _ _ _ _ _
  refine wp_seq ?_
  refine wp_region ?_
  refine opsP (N := 59) (T := TT) (M := (fun _ _ => none)) tabOk (fun _ _ _ h => by cases h) [2, 3, 4, 5, 6, 7] [0, 1] [(0, .v (.slice none 0 0)), (1, .v (.slice (some ad) n c)), (4, .v (Value.slice none 0 0)), (9, .v (.slice none 0 0)), (10, .v (.slice (some ad) n c))] h1 (by kernel_rfl) ⟨by kernel_rfl, by kernel_rfl, by kernel_rfl, by kernel_rfl, by kernel_rfl, trivial⟩ (fun a2 h2 d2 => ?_)
  replace d2 := d2.trans d1
  clear h1 d1
  refine givenW_ops (N := 59) (i := 2) (d := 11) (s := .v (.int .i64 ((n : Nat) : Int))) (l := [3, 4, 5, 6, 7]) rfl (want_ rfl) rfl (by decide) h2 (op_len rfl Try.underlying25 (h2.2 10 _ rfl)) (fun a3 h3 d3 => ?_)
  replace d3 := d3.trans d2
  clear h2 d2
  refine opsP (N := 59) (T := TT) (M := (fun _ _ => none)) tabOk (fun _ _ _ h => by cases h) [4, 5, 6, 7] [3] [(0, .v (.slice none 0 0)), (1, .v (.slice (some ad) n c)), (4, .v (Value.slice none 0 0)), (9, .v (.slice none 0 0)), (10, .v (.slice (some ad) n c)), (11, .v (.int .i64 ((n : Nat) : Int))), (12, .v (.int .i64 (IntKind.i64.wrap (((n : Nat) : Int) + 8))))] h3 (by kernel_rfl) ⟨by kernel_rfl, by kernel_rfl, by kernel_rfl, by kernel_rfl, by kernel_rfl, by kernel_rfl, by kernel_rfl, trivial⟩ (fun a4 h4 d4 => ?_)
  replace d4 := d4.trans d3
  clear h3 d3
  rw [show (IntKind.i64.wrap (((n : Nat) : Int) + 8)) = ((n + 8 : Nat) : Int) from i_more8 n (by omega)] at h4
  refine opsP (N := 59) (T := TT) (M := (fun _ _ => none)) tabOk (fun _ _ _ h => by cases h) [5, 6, 7] [4] [(0, .v (.slice none 0 0)), (1, .v (.slice (some ad) n c)), (4, .v (Value.slice none 0 0)), (9, .v (.slice none 0 0)), (10, .v (.slice (some ad) n c)), (11, .v (.int .i64 ((n : Nat) : Int))), (12, .v (.int .i64 ((n + 8 : Nat) : Int))), (13, .v (.int .i64 (IntKind.i64.wrap (((n + 8 : Nat) : Int) - 1))))] h4 (by kernel_rfl) ⟨by kernel_rfl, by kernel_rfl, by kernel_rfl, by kernel_rfl, by kernel_rfl, by kernel_rfl, by kernel_rfl, by kernel_rfl, trivial⟩ (fun a5 h5 d5 => ?_)
  replace d5 := d5.trans d4
  clear h4 d4
  rw [show (IntKind.i64.wrap (((n + 8 : Nat) : Int) - 1)) = ((n + 7 : Nat) : Int) from i_less1 n (by omega)] at h5
  refine opsP (N := 59) (T := TT) (M := (fun _ _ => none)) tabOk (fun _ _ _ h => by cases h) [6, 7] [5] [(0, .v (.slice none 0 0)), (1, .v (.slice (some ad) n c)), (4, .v (Value.slice none 0 0)), (9, .v (.slice none 0 0)), (10, .v (.slice (some ad) n c)), (11, .v (.int .i64 ((n : Nat) : Int))), (12, .v (.int .i64 ((n + 8 : Nat) : Int))), (13, .v (.int .i64 ((n + 7 : Nat) : Int))), (14, .v (.int .i64 (IntKind.i64.wrap (Int.tdiv ((n + 7 : Nat) : Int) 8))))] h5 (by kernel_rfl) ⟨by kernel_rfl, by kernel_rfl, by kernel_rfl, by kernel_rfl, by kernel_rfl, by kernel_rfl, by kernel_rfl, by kernel_rfl, by kernel_rfl, trivial⟩ (fun a6 h6 d6 => ?_)
  replace d6 := d6.trans d5
  clear h5 d5
  rw [show (IntKind.i64.wrap (Int.tdiv ((n + 7 : Nat) : Int) 8)) = ((k : Nat) : Int) from by rw [hk]; exact i_quo8 n (by omega)] at h6
  refine callW_ops (N := 59) (i := 6) (d := 15) (f := 44) (args := [.v (.slice none 0 0), .v (.int .i64 ((k : Nat) : Int))]) (l := [7]) rfl (want_ rfl) rfl (by decide) h6 Try.func44 rfl rfl rfl (by kernel_rfl) (fun (v : Value) (W' : World) => v = (.slice (some ⟨w.heap.size, 0, none⟩) k (capN k)) ∧ Wd W' w.heap.size (List.replicate (capN k) 0) ∧ Below w.heap.size w W') ((make_new k (by omega) (by omega) w).mono fun e w' hh => ⟨_, hh.1, rfl, hh.2⟩) (fun v7 W7 a7 hR7 h7 d7 => ?_)
  replace d7 := d7.trans d6
  clear h6 d6
  obtain ⟨rfl, hw, hB⟩ := hR7
  rw [fm_zero] at hw
  refine opsP (N := 59) (T := TT) (M := (fun _ _ => none)) tabOk (fun _ _ _ h => by cases h) [] [7] [(0, .v (.slice (some ⟨w.heap.size, 0, none⟩) k (capN k))), (1, .v (.slice (some ad) n c)), (4, .v (Value.slice none 0 0))] h7 (by kernel_rfl) ⟨by kernel_rfl, by kernel_rfl, by kernel_rfl, trivial⟩ (fun a8 h8 d8 => ?_)
  replace d8 := d8.trans d7
  clear h7 d7
  show Code.wp _ _ _ _ _
  refine wp_seq ?_
  refine wp_region ?_
  refine opsP (N := 59) (T := TT) (M := (fun _ _ => none)) tabOk (fun _ _ _ h => by cases h) [1, 2] [0] [(0, .v (.slice (some ⟨w.heap.size, 0, none⟩) k (capN k))), (1, .v (.slice (some ad) n c)), (4, .v (Value.slice none 0 0)), (16, .v (.slice (some ad) n c))] h8 (by kernel_rfl) ⟨by kernel_rfl, by kernel_rfl, by kernel_rfl, by kernel_rfl, trivial⟩ (fun a9 h9 d9 => ?_)
  replace d9 := d9.trans d8
  clear h8 d8
  refine givenW_ops (N := 59) (i := 1) (d := 17) (s := .v (.int .i64 ((n : Nat) : Int))) (l := [2]) rfl (want_ rfl) rfl (by decide) h9 (op_len rfl Try.underlying25 (h9.2 16 _ rfl)) (fun a10 h10 d10 => ?_)
  replace d10 := d10.trans d9
  clear h9 d9
  refine opsP (N := 59) (T := TT) (M := (fun _ _ => none)) tabOk (fun _ _ _ h => by cases h) [] [2] [(0, .v (.slice (some ⟨w.heap.size, 0, none⟩) k (capN k))), (1, .v (.slice (some ad) n c)), (4, .v (Value.slice none 0 0)), (5, .v (.int .i64 ((n : Nat) : Int)))] h10 (by kernel_rfl) ⟨by kernel_rfl, by kernel_rfl, by kernel_rfl, by kernel_rfl, trivial⟩ (fun a11 h11 d11 => ?_)
  replace d11 := d11.trans d10
  clear h10 d10
  show Code.wp _ _ _ _ _
  refine wp_seq ?_
  refine wp_seq ?_
  refine wp_region ?_
  refine opsP (N := 59) (T := TT) (M := (fun _ _ => none)) tabOk (fun _ _ _ h => by cases h) [] [0] [(0, .v (.slice (some ⟨w.heap.size, 0, none⟩) k (capN k))), (1, .v (.slice (some ad) n c)), (4, .v (Value.slice none 0 0)), (5, .v (.int .i64 ((n : Nat) : Int))), (6, .v (.int .i64 0))] h11 (by kernel_rfl) ⟨by kernel_rfl, by kernel_rfl, by kernel_rfl, by kernel_rfl, by kernel_rfl, trivial⟩ (fun a12 h12 d12 => ?_)
  replace d12 := d12.trans d11
  clear h11 d11
  show Code.wp _ _ _ _ _
  have hz : fm (fun _ => 0) (capN k) = fm (fw l n 0) (capN k) := fm_congr _ _ _ (fun j _ => by simp [fw])
  rw [hz] at hw
  have hkc := capN_le k
  refine wp_block ?_
  refine wp_loop_rounds (q + 1) ?_
  refine sb_loop w.heap.size k (capN k) n c q (some ad) l w h hl hc h8 (by omega) (by omega) (by omega) (by omega) hkc (Nat.le_refl _) q 0 W7 (by omega) hB hw a12 (sub_ok (E := [(0, .v (.slice (some ⟨w.heap.size, 0, none⟩) k (capN k))), (1, .v (.slice (some ad) n c)), (5, .v (.int .i64 ((n - 8 * 0 : Nat) : Int))), (6, .v (.int .i64 ((0 : Nat) : Int)))]) h12 sE) d12 (fun a13 V hBV hwV h13 d13 => ?_)
  refine exit_in ?_
  show Code.wp _ _ _ _ _
  refine wp_seq ?_
  refine wp_seq ?_
  refine wp_region ?_
  refine opsP (N := 59) (T := TT) (M := (fun _ _ => none)) tabOk (fun _ _ _ h => by cases h) [] [0, 1] [(0, .v (.slice (some ⟨w.heap.size, 0, none⟩) k (capN k))), (1, .v (.slice (some ad) n c)), (5, .v (.int .i64 ((n - 8 * q : Nat) : Int))), (6, .v (.int .i64 ((q : Nat) : Int))), (34, .v (.bool (decide ((((n - 8 * q : Nat) : Int) : Int) > 0))))] h13 (by kernel_rfl) ⟨by kernel_rfl, by kernel_rfl, by kernel_rfl, by kernel_rfl, by kernel_rfl, trivial⟩ (fun a14 h14 d14 => ?_)
  replace d14 := d14.trans d13
  clear h13 d13
  rw [show (decide ((((n - 8 * q : Nat) : Int) : Int) > 0)) = true from decide_eq_true (by omega)] at h14
  show Code.wp _ _ _ _ _
  refine wp_cond_true (h14.2 34 _ rfl) ?_
  refine wp_seq ?_
  refine wp_region ?_
  refine opsP (N := 59) (T := TT) (M := (fun _ _ => none)) tabOk (fun _ _ _ h => by cases h) [] [0] [(0, .v (.slice (some ⟨w.heap.size, 0, none⟩) k (capN k))), (1, .v (.slice (some ad) n c)), (5, .v (.int .i64 ((n - 8 * q : Nat) : Int))), (6, .v (.int .i64 ((q : Nat) : Int))), (7, .v (.int .u64 0)), (34, .v (.bool true))] h14 (by kernel_rfl) ⟨by kernel_rfl, by kernel_rfl, by kernel_rfl, by kernel_rfl, by kernel_rfl, by kernel_rfl, trivial⟩ (fun a15 h15 d15 => ?_)
  replace d15 := d15.trans d14
  clear h14 d14
  show Code.wp _ _ _ _ _
  refine wp_seq ?_
  refine wp_seq ?_
  refine wp_region ?_
  refine opsP (N := 59) (T := TT) (M := (fun _ _ => none)) tabOk (fun _ _ _ h => by cases h) [] [0] [(0, .v (.slice (some ⟨w.heap.size, 0, none⟩) k (capN k))), (1, .v (.slice (some ad) n c)), (5, .v (.int .i64 ((n - 8 * q : Nat) : Int))), (6, .v (.int .i64 ((q : Nat) : Int))), (7, .v (.int .u64 0)), (8, .v (.int .u64 0)), (34, .v (.bool true))] h15 (by kernel_rfl) ⟨by kernel_rfl, by kernel_rfl, by kernel_rfl, by kernel_rfl, by kernel_rfl, by kernel_rfl, by kernel_rfl, trivial⟩ (fun a16 h16 d16 => ?_)
  replace d16 := d16.trans d15
  clear h15 d15
  show Code.wp _ _ _ _ _
  have h5 : ((n - 8 * q : Nat) : Int) = ((r : Nat) : Int) := by omega
  have h7 : (0 : Int) = ((beN ((l.take r).drop r) : Nat) : Int) := by rw [List.drop_of_length_le (by rw [List.length_take]; omega)]; rfl
  obtain ⟨ad', e', hcell⟩ := (h.below hBV).at_ (by omega)
  obtain rfl := Option.some.inj e'
  refine wp_block ?_
  refine wp_loop_rounds (r + 1) ?_
  have hs : Has 59 (bn []) [(0, .v (.slice (some ⟨w.heap.size, 0, none⟩) k (capN k))), (1, .v (.slice (some ad) n c)), (5, .v (.int .i64 ((r : Nat) : Int))), (7, .v (.int .u64 ((beN ((l.take r).drop r) : Nat) : Int))), (8, .v (.int .u64 ((8 * 0 : Nat) : Int)))] a16 := by rw [← h5, ← h7]; exact sub_ok (E := [(0, .v (.slice (some ⟨w.heap.size, 0, none⟩) k (capN k))), (1, .v (.slice (some ad) n c)), (5, .v (.int .i64 ((n - 8 * q : Nat) : Int))), (7, .v (.int .u64 0)), (8, .v (.int .u64 0))]) h16 sE
  refine sb_rest w.heap.size k (capN k) n c r ad l V hcell hl h8 (by omega) (by omega) r 0 (by omega) a16 hs d16 (fun a17 h17 d17 => ?_)
  refine exit_in ?_
  show Code.wp _ _ _ _ _
  rw [List.drop_zero] at h17
  refine wp_region ?_
  refine opsP (N := 59) (T := TT) (M := (fun _ _ => none)) tabOk (fun _ _ _ h => by cases h) [2, 3, 4, 5, 6] [0, 1] [(0, .v (.slice (some ⟨w.heap.size, 0, none⟩) k (capN k))), (1, .v (.slice (some ad) n c)), (5, .v (.int .i64 ((0 : Nat) : Int))), (7, .v (.int .u64 ((beN (l.take r) : Nat) : Int))), (8, .v (.int .u64 ((8 * r : Nat) : Int))), (51, .v (.slice (some ⟨w.heap.size, 0, none⟩) k (capN k))), (52, .v (.slice (some ⟨w.heap.size, 0, none⟩) k (capN k)))] h17 (by kernel_rfl) ⟨by kernel_rfl, by kernel_rfl, by kernel_rfl, by kernel_rfl, by kernel_rfl, by kernel_rfl, by kernel_rfl, trivial⟩ (fun a18 h18 d18 => ?_)
  replace d18 := d18.trans d17
  clear h17 d17
  refine givenW_ops (N := 59) (i := 2) (d := 53) (s := .v (.int .i64 ((k : Nat) : Int))) (l := [3, 4, 5, 6]) rfl (want_ rfl) rfl (by decide) h18 (op_len rfl Try.underlying47 (h18.2 52 _ rfl)) (fun a19 h19 d19 => ?_)
  replace d19 := d19.trans d18
  clear h18 d18
  refine opsP (N := 59) (T := TT) (M := (fun _ _ => none)) tabOk (fun _ _ _ h => by cases h) [4, 5, 6] [3] [(0, .v (.slice (some ⟨w.heap.size, 0, none⟩) k (capN k))), (1, .v (.slice (some ad) n c)), (5, .v (.int .i64 ((0 : Nat) : Int))), (7, .v (.int .u64 ((beN (l.take r) : Nat) : Int))), (8, .v (.int .u64 ((8 * r : Nat) : Int))), (51, .v (.slice (some ⟨w.heap.size, 0, none⟩) k (capN k))), (52, .v (.slice (some ⟨w.heap.size, 0, none⟩) k (capN k))), (53, .v (.int .i64 ((k : Nat) : Int))), (54, .v (.int .i64 (IntKind.i64.wrap (((k : Nat) : Int) - 1))))] h19 (by kernel_rfl) ⟨by kernel_rfl, by kernel_rfl, by kernel_rfl, by kernel_rfl, by kernel_rfl, by kernel_rfl, by kernel_rfl, by kernel_rfl, by kernel_rfl, trivial⟩ (fun a20 h20 d20 => ?_)
  replace d20 := d20.trans d19
  clear h19 d19
  rw [show (IntKind.i64.wrap (((k : Nat) : Int) - 1)) = ((q : Nat) : Int) from by rw [show k = q + 1 by omega]; exact i_pred q (by omega)] at h20
  refine opsP (N := 59) (T := TT) (M := (fun _ _ => none)) tabOk (fun _ _ _ h => by cases h) [5, 6] [4] [(0, .v (.slice (some ⟨w.heap.size, 0, none⟩) k (capN k))), (1, .v (.slice (some ad) n c)), (5, .v (.int .i64 ((0 : Nat) : Int))), (7, .v (.int .u64 ((beN (l.take r) : Nat) : Int))), (8, .v (.int .u64 ((8 * r : Nat) : Int))), (51, .v (.slice (some ⟨w.heap.size, 0, none⟩) k (capN k))), (52, .v (.slice (some ⟨w.heap.size, 0, none⟩) k (capN k))), (53, .v (.int .i64 ((k : Nat) : Int))), (54, .v (.int .i64 ((q : Nat) : Int))), (55, .v (.int .u64 ((beN (l.take r) : Nat) : Int)))] h20 (by kernel_rfl) ⟨by kernel_rfl, by kernel_rfl, by kernel_rfl, by kernel_rfl, by kernel_rfl, by kernel_rfl, by kernel_rfl, by kernel_rfl, by kernel_rfl, by kernel_rfl, trivial⟩ (fun a21 h21 d21 => ?_)
  replace d21 := d21.trans d20
  clear h20 d20
  refine givenW_ops (N := 59) (i := 5) (d := 56) (s := .v (.pointer (some ⟨w.heap.size, 0 + q, none⟩))) (l := [6]) rfl (want_ rfl) rfl (by decide) h21 (op_indexE (j := q) rfl (h21.2 51 _ rfl) (h21.2 54 _ rfl) Try.underlying47 Try.sizeOf70 (by omega)) (fun a22 h22 d22 => ?_)
  replace d22 := d22.trans d21
  clear h21 d21
  rw [Nat.zero_add] at h22
  refine st_ops (i := 6) (l := []) rfl rfl rfl (op_store rfl (h22.2 56 _ rfl) (h22.2 55 _ rfl) (Or.inl ⟨_, _, rfl⟩) Try.sizeOf70 (hwV.cell (i := q) (by rw [fm_len]; omega)) (hwV.frozen q)) ?_
  have hw2 := hwV.set q ((beN (l.take r) : Nat) : Int)
  rw [fw_rest l n q r _ hl h8 (by omega) (by omega)] at hw2
  have hB2 := hBV.trans ((Fr.setc (W := V) w.heap.size q (.int .u64 ((beN (l.take r) : Nat) : Int))).below w.heap.size hBV.size (by simp))
  show Code.wp _ _ _ _ _
  refine wp_seq ?_
  refine wp_region ?_
  refine opsP (N := 59) (T := TT) (M := (fun _ _ => none)) tabOk (fun _ _ _ h => by cases h) [1, 2] [0] [(0, .v (.slice (some ⟨w.heap.size, 0, none⟩) k (capN k))), (1, .v (.slice (some ad) n c)), (5, .v (.int .i64 ((0 : Nat) : Int))), (7, .v (.int .u64 ((beN (l.take r) : Nat) : Int))), (8, .v (.int .u64 ((8 * r : Nat) : Int))), (57, .v (.slice (some ⟨w.heap.size, 0, none⟩) k (capN k)))] h22 (by kernel_rfl) ⟨by kernel_rfl, by kernel_rfl, by kernel_rfl, by kernel_rfl, by kernel_rfl, by kernel_rfl, trivial⟩ (fun a23 h23 d23 => ?_)
  replace d23 := d23.trans d22
  clear h22 d22
  refine callW_ops (N := 59) (i := 1) (d := 58) (f := 46) (args := [.v (.slice (some ⟨w.heap.size, 0, none⟩) k (capN k))]) (l := [2]) rfl (want_ rfl) rfl (by decide) h23 Try.func46 rfl rfl rfl (by kernel_rfl) (fun (v : Value) (W' : World) => v = (.slice (some ⟨w.heap.size, 0, none⟩) (topN (fm (wV (beN l)) (capN k)) k) (capN k)) ∧ W' = (V.setCell ⟨w.heap.size, q, none⟩ (.int .u64 ((beN (l.take r) : Nat) : Int)))) ((norm_walk w.heap.size k (capN k) (fm (wV (beN l)) (capN k)) _ hw2 (by rw [fm_len]; exact hkc) (by omega) hkc).mono fun e w' hh => ⟨_, hh.1, rfl, hh.2⟩) (fun v24 W24 a24 hR24 h24 d24 => ?_)
  replace d24 := d24.trans d23
  clear h23 d23
  obtain ⟨rfl, e1⟩ := hR24
  rw [← e1] at hw2 hB2
  refine opsP (N := 59) (T := TT) (M := (fun _ _ => none)) tabOk (fun _ _ _ h => by cases h) [] [2] [(0, .v (.slice (some ⟨w.heap.size, 0, none⟩) k (capN k))), (1, .v (.slice (some ad) n c)), (4, .v (.slice (some ⟨w.heap.size, 0, none⟩) (topN (fm (wV (beN l)) (capN k)) k) (capN k))), (5, .v (.int .i64 ((0 : Nat) : Int))), (7, .v (.int .u64 ((beN (l.take r) : Nat) : Int))), (8, .v (.int .u64 ((8 * r : Nat) : Int)))] h24 (by kernel_rfl) ⟨by kernel_rfl, by kernel_rfl, by kernel_rfl, by kernel_rfl, by kernel_rfl, by kernel_rfl, trivial⟩ (fun a25 h25 d25 => ?_)
  replace d25 := d25.trans d24
  clear h24 d24
  show Code.wp _ _ _ _ _
  refine wp_ret ?_
  exact ⟨d25, _, results_tmp rfl _ _ _, congrArg Ending.returned (h25.2 4 _ rfl), hw2, hB2⟩
set_option maxHeartbeats 8000000 in
set_option maxRecDepth 100000 in
theorem sb_nil (A : Option Addr) (c : Nat) (w : World) :
    Calls Try.prog 31 #[.slice none 0 0, .slice A 0 c] w fun e w' => e = .returned (.slice none 0 0) ∧ w' = w := by
  refine calls_of_wp Try.func31 rfl ?_
  have h0 := has_two (β := bn []) (.v (.slice none 0 0)) (.v (.slice A 0 c)) 57
  have d0 : (⟨#[.slice none 0 0, .slice A 0 c] ++ Array.replicate 57 undef, []⟩ : Act).defers = [] := rfl
  refine wp_seq ?_
  refine wp_region ?_
  refine opsP (N := 59) (T := TT) (M := (fun _ _ => none)) tabOk (fun _ _ _ h => by cases h) [] [0] [(0, .v (.slice none 0 0)), (1, .v (.slice A 0 c)), (4, .v (Value.slice none 0 0))] h0 (by kernel_rfl) ⟨by kernel_rfl, by kernel_rfl, by kernel_rfl, trivial⟩ (fun a1 h1 d1 => ?_)
  replace d1 := d1.trans d0
  clear h0 d0
  show Code.wp _ _ _ _ _
  refine wp_seq ?_
  refine wp_region ?_
  refine opsP (N := 59) (T := TT) (M := (fun _ _ => none)) tabOk (fun _ _ _ h => by cases h) [2, 3, 4, 5, 6, 7] [0, 1] [(0, .v (.slice none 0 0)), (1, .v (.slice A 0 c)), (4, .v (Value.slice none 0 0)), (9, .v (.slice none 0 0)), (10, .v (.slice A 0 c))] h1 (by kernel_rfl) ⟨by kernel_rfl, by kernel_rfl, by kernel_rfl, by kernel_rfl, by kernel_rfl, trivial⟩ (fun a2 h2 d2 => ?_)
  replace d2 := d2.trans d1
  clear h1 d1
  refine givenW_ops (N := 59) (i := 2) (d := 11) (s := .v (.int .i64 0)) (l := [3, 4, 5, 6, 7]) rfl (want_ rfl) rfl (by decide) h2 ((op_len rfl Try.underlying25 (h2.2 10 _ rfl)).trans rfl) (fun a3 h3 d3 => ?_)
  replace d3 := d3.trans d2
  clear h2 d2
  refine opsP (N := 59) (T := TT) (M := (fun _ _ => none)) tabOk (fun _ _ _ h => by cases h) [5, 6, 7] [3, 4] [(0, .v (.slice none 0 0)), (1, .v (.slice A 0 c)), (4, .v (Value.slice none 0 0)), (9, .v (.slice none 0 0)), (10, .v (.slice A 0 c)), (11, .v (.int .i64 0)), (12, .v (.int .i64 8)), (13, .v (.int .i64 7))] h3 (by kernel_rfl) ⟨by kernel_rfl, by kernel_rfl, by kernel_rfl, by kernel_rfl, by kernel_rfl, by kernel_rfl, by kernel_rfl, by kernel_rfl, trivial⟩ (fun a4 h4 d4 => ?_)
  replace d4 := d4.trans d3
  clear h3 d3
  refine opsP (N := 59) (T := TT) (M := (fun _ _ => none)) tabOk (fun _ _ _ h => by cases h) [6, 7] [5] [(0, .v (.slice none 0 0)), (1, .v (.slice A 0 c)), (4, .v (Value.slice none 0 0)), (9, .v (.slice none 0 0)), (10, .v (.slice A 0 c)), (11, .v (.int .i64 0)), (12, .v (.int .i64 8)), (13, .v (.int .i64 7)), (14, .v (.int .i64 0))] h4 (by kernel_rfl) ⟨by kernel_rfl, by kernel_rfl, by kernel_rfl, by kernel_rfl, by kernel_rfl, by kernel_rfl, by kernel_rfl, by kernel_rfl, by kernel_rfl, trivial⟩ (fun a5 h5 d5 => ?_)
  replace d5 := d5.trans d4
  clear h4 d4
  rw [show 0 = 0 from by decide] at h5
  refine callW_ops (N := 59) (i := 6) (d := 15) (f := 44) (args := [.v (.slice none 0 0), .v (.int .i64 0)]) (l := [7]) rfl (want_ rfl) rfl (by decide) h5 Try.func44 rfl rfl rfl (by kernel_rfl) (fun (v : Value) (W' : World) => v = .slice none 0 0 ∧ W' = w) ((make_keep none 0 0 0 (Nat.le_refl _) w).mono fun e w' hh => ⟨_, hh.1, rfl, hh.2⟩) (fun v6 W6 a6 hR6 h6 d6 => ?_)
  replace d6 := d6.trans d5
  clear h5 d5
  obtain ⟨rfl, e1⟩ := hR6
  obtain rfl := e1.symm
  refine opsP (N := 59) (T := TT) (M := (fun _ _ => none)) tabOk (fun _ _ _ h => by cases h) [] [7] [(0, .v (.slice none 0 0)), (1, .v (.slice A 0 c)), (4, .v (Value.slice none 0 0))] h6 (by kernel_rfl) ⟨by kernel_rfl, by kernel_rfl, by kernel_rfl, trivial⟩ (fun a7 h7 d7 => ?_)
  replace d7 := d7.trans d6
  clear h6 d6
  show Code.wp _ _ _ _ _
  refine wp_seq ?_
  refine wp_region ?_
  refine opsP (N := 59) (T := TT) (M := (fun _ _ => none)) tabOk (fun _ _ _ h => by cases h) [1, 2] [0] [(0, .v (.slice none 0 0)), (1, .v (.slice A 0 c)), (4, .v (Value.slice none 0 0)), (16, .v (.slice A 0 c))] h7 (by kernel_rfl) ⟨by kernel_rfl, by kernel_rfl, by kernel_rfl, by kernel_rfl, trivial⟩ (fun a8 h8 d8 => ?_)
  replace d8 := d8.trans d7
  clear h7 d7
  refine givenW_ops (N := 59) (i := 1) (d := 17) (s := .v (.int .i64 0)) (l := [2]) rfl (want_ rfl) rfl (by decide) h8 ((op_len rfl Try.underlying25 (h8.2 16 _ rfl)).trans rfl) (fun a9 h9 d9 => ?_)
  replace d9 := d9.trans d8
  clear h8 d8
  refine opsP (N := 59) (T := TT) (M := (fun _ _ => none)) tabOk (fun _ _ _ h => by cases h) [] [2] [(0, .v (.slice none 0 0)), (1, .v (.slice A 0 c)), (4, .v (Value.slice none 0 0)), (5, .v (.int .i64 0))] h9 (by kernel_rfl) ⟨by kernel_rfl, by kernel_rfl, by kernel_rfl, by kernel_rfl, trivial⟩ (fun a10 h10 d10 => ?_)
  replace d10 := d10.trans d9
  clear h9 d9
  show Code.wp _ _ _ _ _
  refine wp_seq ?_
  refine wp_seq ?_
  refine wp_region ?_
  refine opsP (N := 59) (T := TT) (M := (fun _ _ => none)) tabOk (fun _ _ _ h => by cases h) [] [0] [(0, .v (.slice none 0 0)), (1, .v (.slice A 0 c)), (4, .v (Value.slice none 0 0)), (5, .v (.int .i64 0)), (6, .v (.int .i64 0))] h10 (by kernel_rfl) ⟨by kernel_rfl, by kernel_rfl, by kernel_rfl, by kernel_rfl, by kernel_rfl, trivial⟩ (fun a11 h11 d11 => ?_)
  replace d11 := d11.trans d10
  clear h10 d10
  show Code.wp _ _ _ _ _
  refine wp_block ?_
  refine wp_loop_rounds 1 ?_
  rw [rounds_succ]
  refine wp_seq ?_
  refine wp_seq ?_
  refine wp_region ?_
  refine opsP (N := 59) (T := TT) (M := (fun _ _ => none)) tabOk (fun _ _ _ h => by cases h) [] [0, 1] [(0, .v (.slice none 0 0)), (1, .v (.slice A 0 c)), (4, .v (Value.slice none 0 0)), (5, .v (.int .i64 0)), (6, .v (.int .i64 0)), (19, .v (.bool false))] h11 (by kernel_rfl) ⟨by kernel_rfl, by kernel_rfl, by kernel_rfl, by kernel_rfl, by kernel_rfl, by kernel_rfl, trivial⟩ (fun a12 h12 d12 => ?_)
  replace d12 := d12.trans d11
  clear h11 d11
  show Code.wp _ _ _ _ _
  refine wp_cond_false (h12.2 19 _ rfl) ?_
  refine wp_exit ?_
  refine then_exit (then_exit ?_)
  refine exit_in ?_
  show Code.wp _ _ _ _ _
  refine wp_seq ?_
  refine wp_seq ?_
  refine wp_region ?_
  refine opsP (N := 59) (T := TT) (M := (fun _ _ => none)) tabOk (fun _ _ _ h => by cases h) [] [0, 1] [(0, .v (.slice none 0 0)), (1, .v (.slice A 0 c)), (4, .v (Value.slice none 0 0)), (5, .v (.int .i64 0)), (6, .v (.int .i64 0)), (19, .v (.bool false)), (34, .v (.bool false))] h12 (by kernel_rfl) ⟨by kernel_rfl, by kernel_rfl, by kernel_rfl, by kernel_rfl, by kernel_rfl, by kernel_rfl, by kernel_rfl, trivial⟩ (fun a13 h13 d13 => ?_)
  replace d13 := d13.trans d12
  clear h12 d12
  show Code.wp _ _ _ _ _
  refine wp_cond_false (h13.2 34 _ rfl) ?_
  refine wp_skip ?_
  show Code.wp _ _ _ _ _
  refine wp_seq ?_
  refine wp_region ?_
  refine opsP (N := 59) (T := TT) (M := (fun _ _ => none)) tabOk (fun _ _ _ h => by cases h) [1, 2] [0] [(0, .v (.slice none 0 0)), (1, .v (.slice A 0 c)), (4, .v (Value.slice none 0 0)), (5, .v (.int .i64 0)), (6, .v (.int .i64 0)), (19, .v (.bool false)), (34, .v (.bool false)), (57, .v (.slice none 0 0))] h13 (by kernel_rfl) ⟨by kernel_rfl, by kernel_rfl, by kernel_rfl, by kernel_rfl, by kernel_rfl, by kernel_rfl, by kernel_rfl, by kernel_rfl, trivial⟩ (fun a14 h14 d14 => ?_)
  replace d14 := d14.trans d13
  clear h13 d13
  refine callW_ops (N := 59) (i := 1) (d := 58) (f := 46) (args := [.v (.slice none 0 0)]) (l := [2]) rfl (want_ rfl) rfl (by decide) h14 Try.func46 rfl rfl rfl (by kernel_rfl) (fun (v : Value) (W' : World) => v = .slice none 0 0 ∧ W' = w) ((norm_nil w).mono fun e w' hh => ⟨_, hh.1, rfl, hh.2⟩) (fun v15 W15 a15 hR15 h15 d15 => ?_)
  replace d15 := d15.trans d14
  clear h14 d14
  obtain ⟨rfl, e1⟩ := hR15
  obtain rfl := e1.symm
  refine opsP (N := 59) (T := TT) (M := (fun _ _ => none)) tabOk (fun _ _ _ h => by cases h) [] [2] [(0, .v (.slice none 0 0)), (1, .v (.slice A 0 c)), (4, .v (.slice none 0 0)), (5, .v (.int .i64 0)), (6, .v (.int .i64 0)), (19, .v (.bool false)), (34, .v (.bool false))] h15 (by kernel_rfl) ⟨by kernel_rfl, by kernel_rfl, by kernel_rfl, by kernel_rfl, by kernel_rfl, by kernel_rfl, by kernel_rfl, trivial⟩ (fun a16 h16 d16 => ?_)
  replace d16 := d16.trans d15
  clear h15 d15
  show Code.wp _ _ _ _ _
  refine wp_ret ?_
  exact ⟨d16, _, results_tmp rfl _ _ _, congrArg Ending.returned (h16.2 4 _ rfl), rfl⟩
theorem sb_some (A : Option Addr) (n c : Nat) (l : List Nat) (hl : l.length = n) (hc : n ≤ c) (h8 : ∀ o ∈ l, o < 256) (hn : n < 900) (h0 : 0 < n) (w : World) (h : Oc w A l) :
    Calls Try.prog 31 #[.slice none 0 0, .slice A n c] w fun e w' => e = .returned (.slice (some ⟨w.heap.size, 0, none⟩) (topN (fm (wV (beN l)) (capN ((n + 7) / 8))) ((n + 7) / 8)) (capN ((n + 7) / 8))) ∧ Wd w' w.heap.size (fm (wV (beN l)) (capN ((n + 7) / 8))) ∧ Below w.heap.size w w' := by
  obtain ⟨ad, rfl, _⟩ := h.at_ (by omega)
  by_cases hr : n % 8 = 0
  · exact sb_even ad n c _ (n / 8) 0 l hl hc h8 hn rfl (by omega) (by omega) h0 rfl w h
  · exact sb_more ad n c _ (n / 8) (n % 8) l hl hc h8 hn rfl (by omega) (by omega) h0 (by omega) w h
end Go.Proofs.Ytjmgiodkfgdgnaa.PAll
namespace Go.Proofs.Ytjmgiodkfgdgnaa.PAll
open Go.RowKit Go.Proofs.YtjmgiodkfgdgnaaW.PrintWords Go.Proofs.YtjmgiodkfgdgnaaW.PrintLast Go.Proofs.YtjmgiodkfgdgnaaW.PrintMore
set_option linter.unusedVariables false
set_option linter.unusedSimpArgs false
/-- The slice A n c holds the words l, in a block that isn't p. -/
def Ws (W : World) (p : Nat) (A : Option Addr) (n c : Nat) (l : List Nat) : Prop := n ≤ c ∧ l.length = n ∧ n < 900 ∧ (0 < n → ∃ g m, A = some ⟨g, 0, none⟩ ∧ g ≠ p ∧ Wd W g m ∧ n ≤ m.length ∧ ∀ j, j < n → m.getD j 0 = ((l.getD j 0 : Nat) : Int))
theorem Ws.on {W W' : World} {p : Nat} {A : Option Addr} {n c : Nat} {l : List Nat} (h : Ws W p A n c l) (hF : Fr [p] W W') : Ws W' p A n c l := by
  obtain ⟨h1, h2, h3, h4⟩ := h
  refine ⟨h1, h2, h3, fun h0 => ?_⟩
  obtain ⟨g, m, e, hg, hw, hm⟩ := h4 h0
  exact ⟨g, m, e, hg, hw.on hF (by simpa using hg), hm⟩
theorem Ws.below {W W' : World} {p : Nat} {A : Option Addr} {n c : Nat} {l : List Nat} (h : Ws W p A n c l) (hB : Below W.heap.size W W') : Ws W' p A n c l := by
  obtain ⟨h1, h2, h3, h4⟩ := h
  refine ⟨h1, h2, h3, fun h0 => ?_⟩
  obtain ⟨g, m, e, hg, hw, hm⟩ := h4 h0
  exact ⟨g, m, e, hg, hw.below hB, hm⟩
theorem Ws.kd {W : World} {p : Nat} {A : Option Addr} {n c : Nat} {l : List Nat} (h : Ws W p A n c l) : Kd.C (Kd.int .u64) W A (l.map (fun (x : Nat) => (x : Int))).length (l.map (fun (x : Nat) => (x : Int))) := by
  obtain ⟨h1, h2, h3, h4⟩ := h
  refine ⟨rfl, by rw [List.length_map]; omega, fun h0 => ?_⟩
  rw [List.length_map, h2] at h0
  obtain ⟨g, m, e, hg, hw, hm, hj⟩ := h4 h0
  refine ⟨_, e, fun j p' hp => ⟨[.int .u64 p'], rfl, rfl, fun i u hu => ?_⟩⟩
  rw [List.getElem?_map] at hp
  cases hx : l[j]? with
  | none => rw [hx] at hp; exact absurd hp (by simp)
  | some x =>
    rw [hx] at hp
    obtain rfl := Option.some.inj hp
    have hlt := (List.getElem?_eq_some_iff.1 hx).1
    cases i with
    | zero =>
      obtain rfl := Option.some.inj hu
      show W.cell? ((⟨g, 0, none⟩ : Addr).add (j * 1 + 0)) = _
      rw [addr_add, Nat.mul_one, Nat.add_zero, Nat.zero_add, hw.cell (by omega), hj j (by omega), List.getD_eq_getElem?_getD, hx]
      rfl
    | succ i => exact absurd hu (by simp)
theorem orD (s d : Nat) (hs : s < 18446744073709551616) : ∃ y, Go.bits .or .u64 (s : Int) ((s : Int) / ((d : Nat) : Int)) = ((y : Nat) : Int) ∧ s ≤ y ∧ y < 18446744073709551616 := by
  have h2 : s / d < 18446744073709551616 := Nat.lt_of_le_of_lt (Nat.div_le_self _ _) hs
  refine ⟨s ||| (s / d), ?_, Nat.left_le_or, Nat.or_lt_two_pow (n := 64) hs h2⟩
  rw [← bits_or_u64_nat s (s / d) hs h2]
  congr 1
theorem lenN_pos (y : Nat) (h : y ≠ 0) (hy : y < 18446744073709551616) : 1 ≤ lenN y ∧ lenN y ≤ 64 := by
  unfold lenN
  rw [if_neg h]
  have := (Nat.log2_lt h (k := 64)).mpr hy
  omega
def smD (d s : Int) : Int := Go.bits .or .u64 s (s / d)
def smE (s : Int) : Int := Go.bits .or .u64 s (s / 65536 / 65536)
def smA (x : Int) : Int := smE (smD 65536 (smD 256 (smD 16 (smD 4 (smD 2 x)))))
def blG (n k x : Int) : Option Int := if k ≥ 0 then (if 0 ≤ k then (if k < n then ((bits_Len.f (smA x)).bind fun t => some (wrap64 (wrap64 (k * 64) + t))) else none) else none) else some 0
theorem bl_shape (l : List Int) : bigall_nat_bitLen.f l = blG (l.length : Int) (wrap64 ((l.length : Int) - 1)) (rd l (wrap64 ((l.length : Int) - 1))) := by kernel_rfl
theorem bl_nil : bigall_nat_bitLen.f [] = some 0 := by
  rw [bl_shape]
  unfold blG
  exact if_neg (show ¬ wrap64 (((0 : Nat) : Int) - 1) ≥ 0 by unfold wrap64; omega)
theorem smA_nat (x : Nat) (h : x < 18446744073709551616) : ∃ y : Nat, smA (x : Int) = ((y : Nat) : Int) ∧ x ≤ y ∧ y < 18446744073709551616 := by
  unfold smA
  obtain ⟨y1, f1, g1, i1⟩ := orD x 2 h
  obtain ⟨y2, f2, g2, i2⟩ := orD y1 4 i1
  obtain ⟨y3, f3, g3, i3⟩ := orD y2 16 i2
  obtain ⟨y4, f4, g4, i4⟩ := orD y3 256 i3
  obtain ⟨y5, f5, g5, i5⟩ := orD y4 65536 i4
  obtain ⟨y6, f6, g6, i6⟩ := orD y5 4294967296 i5
  have e1 : smD 2 (x : Int) = ((y1 : Nat) : Int) := f1
  have e2 : smD 4 (y1 : Int) = ((y2 : Nat) : Int) := f2
  have e3 : smD 16 (y2 : Int) = ((y3 : Nat) : Int) := f3
  have e4 : smD 256 (y3 : Int) = ((y4 : Nat) : Int) := f4
  have e5 : smD 65536 (y4 : Int) = ((y5 : Nat) : Int) := f5
  have e6 : ((y5 : Nat) : Int) / 65536 / 65536 = ((y5 : Nat) : Int) / ((4294967296 : Nat) : Int) := by omega
  have e7 : smE (y5 : Int) = ((y6 : Nat) : Int) := by
    unfold smE
    rw [e6]
    exact f6
  rw [e1, e2, e3, e4, e5, e7]
  exact ⟨y6, rfl, by omega, i6⟩
theorem bl_some (l : List Nat) (k : Nat) (hk : l.length = k + 1) (hn : k < 1000) (ht : l.getD k 0 ≠ 0) (h64 : l.getD k 0 < 18446744073709551616) : ∃ r : Nat, bigall_nat_bitLen.f (l.map (fun (x : Nat) => (x : Int))) = some ((64 * k + r : Nat) : Int) ∧ 1 ≤ r ∧ r ≤ 64 := by
  have e0 : wrap64 (((l.map (fun (x : Nat) => (x : Int))).length : Int) - 1) = ((k : Nat) : Int) := by
    rw [List.length_map, hk]
    unfold wrap64
    omega
  have e1 : rd (l.map (fun (x : Nat) => (x : Int))) ((k : Nat) : Int) = ((l.getD k 0 : Nat) : Int) := by
    unfold rd
    rw [Int.toNat_natCast, List.getD_eq_getElem?_getD, List.getElem?_map, List.getD_eq_getElem?_getD]
    cases l[k]? <;> rfl
  rw [bl_shape, e0, e1, List.length_map, hk]
  obtain ⟨y, hy, h1, h2⟩ := smA_nat _ h64
  unfold blG
  rw [if_pos (by omega), if_pos (by omega), if_pos (by omega), hy]
  have e7 : bits_Len.f ((y : Nat) : Int) = some ((lenN y : Nat) : Int) := by
    unfold bits_Len.f bits_Len64.f
    rw [if_pos (by omega), Int.toNat_natCast]
    rfl
  rw [e7]
  have hl := lenN_pos y (by omega) h2
  refine ⟨lenN y, ?_, hl⟩
  refine congrArg some ?_
  unfold wrap64
  omega
section
variable {P : Program} {ops : Array Oper} {Q : Exit → Act → World → Prop} {N : Nat} {β : Nat → Nat}
theorem halt_ops {i : Nat} {o : Oper} {v : Value} {l : List Nat} {a : Act} {w w1 : World} (ho : ops[i]? = some o) (hg : o.guard = none) (hrun : (execOp a.eval o).run P w = .halt (.panic v) w1) (h : Q (.panic [{ v := v, recovered := false }]) a w1) : wpOps P ops Q (i :: l) a w := by
  unfold wpOps
  simp only [ho]
  rw [if_pos (want_ hg)]
  refine Or.inl ?_
  unfold Oper.wp
  rw [hrun]
  exact h
theorem callP_ops {i d f : Nat} {o : Oper} {fn : Func} {xs0 : Array Operand} {ts : Array TypeId} {args : List SV} {l : List Nat} {a : Act} {w : World} {E : List (Nat × SV)} (ho : ops[i]? = some o) (hg : o.guard = none) (hA : Has N β E a) (hf : P.funcs[f]? = some fn) (hname : (fn.name == "runtime.NumGoroutine") = false) (hb : fn.body.isSome = true)
    (hop : o.op = .call { callee := .value (.func f), args := xs0, argTypes := ts }) (hargs : argL E xs0.toList = some args) (hC : Calls P f (args.map (SV.den β)).toArray w fun e w' => ∃ c, e = .panicked c ∧ Q (.panic c) a w') : wpOps P ops Q (i :: l) a w := by
  have he := enters_ hf hname hb (args.map (SV.den β)).toArray w
  have hargs' : xs0.map a.eval = (args.map (SV.den β)).toArray := by rw [← argL_ok hA hargs, ← Array.toList_map, Array.toArray_toList]
  have hrun : (execOp a.eval o).run P w = .ok (.enter f (args.map (SV.den β)).toArray) w := by
    unfold execOp
    simp [hop, resolve, Deferred.ofValue, invoke, Act.eval, hargs', he]
  unfold wpOps
  simp only [ho]
  rw [if_pos (want_ hg)]
  refine Or.inl ?_
  unfold Oper.wp
  rw [hrun, Oper.upon_enter]
  refine hC.mono fun e w'' hh => ?_
  obtain ⟨c, rfl, hk⟩ := hh
  exact hk
end
theorem op_iface {ρ : Operand → Value} {o : Oper} {W : World} {x : Operand} {v : Value} (ho : o.op = .makeInterface 9 x) (hx : ρ x = v) : (execOp ρ o).run Try.prog W = .ok (.value (.iface 9 v)) W := by
  have h : (Instr.makeInterface 9 v).run Try.prog W = .ok (.iface 9 v) W := run_makeInterface W 9 v (by kernel_rfl)
  unfold execOp
  rw [ho]
  simp [go_sem, hx, h]
theorem op_panic {ρ : Operand → Value} {o : Oper} {W : World} {t : TypeId} {x : Operand} {v : Value} (ho : o.op = .panic x) (hx : ρ x = .iface t v) : (execOp ρ o).run Try.prog W = .halt (.panic (.iface t v)) W := by
  unfold execOp
  rw [ho]
  simp [go_sem, Instr.panic, hx]
theorem op_nePP {ρ : Operand → Value} {o : Oper} {W : World} {t2 : TypeId} {x y : Operand} {a : Addr} (ho : o.op = .binOp .neq 37 x y t2) (hx : ρ x = .pointer (some a)) (hy : ρ y = .pointer (some a)) : (execOp ρ o).run Try.prog W = .ok (.value (.bool false)) W := by
  have hb : (binOp .neq 37 (.pointer (some a)) (.pointer (some a))).run Try.prog W = .ok (.bool false) W := by
    cases hq : Try.prog.info? 49 with
    | none => exact absurd (show (Try.prog.info? 49).isSome = true by kernel_rfl) (by simp [hq])
    | some ie => exact Go.Lib.run_neq_ptr_same W a Try.underlying37 hq
  unfold execOp
  rw [ho]
  simp [go_sem, eqGuard, hx, hy, hb]
end Go.Proofs.Ytjmgiodkfgdgnaa.PAll
namespace Go.Proofs.Ytjmgiodkfgdgnaa.PAll
open Go.RowKit Go.Proofs.YtjmgiodkfgdgnaaW.PrintWords Go.Proofs.YtjmgiodkfgdgnaaW.PrintLast Go.Proofs.YtjmgiodkfgdgnaaW.PrintMore
set_option linter.unusedVariables false
set_option linter.unusedSimpArgs false
theorem bitLenN {W : World} {p : Nat} {A : Option Addr} {n c : Nat} {l : List Nat} {r : Int} (hW : Ws W p A n c l) (h : bigall_nat_bitLen.f (l.map (fun (x : Nat) => (x : Int))) = some r) : Calls Try.prog 48 #[.slice A n c] W fun e w' => e = .returned (.int .i64 r) ∧ Below W.heap.size W w' := by
  have h1 := bigall_nat_bitLen.calls A c (l.map (fun (x : Nat) => (x : Int))) r W hW.kd (by rw [List.length_map, hW.2.1]; exact hW.1) h
  rw [List.length_map, hW.2.1] at h1
  exact h1.mono fun e w' hh => ⟨hh.1, hh.2.below⟩
theorem low64N {W : World} {p : Nat} {A : Option Addr} {n c : Nat} {l : List Nat} (hW : Ws W p A n c l) : Calls Try.prog 49 #[.slice A n c] W fun e w' => e = .returned (.int .u64 ((l.getD 0 0 : Nat) : Int)) ∧ Below W.heap.size W w' := by
  have hf : bigall_low64.f (l.map (fun (x : Nat) => (x : Int))) = some ((l.getD 0 0 : Nat) : Int) := by
    unfold bigall_low64.f
    cases l with
    | nil => rfl
    | cons x t => rw [if_neg (by simp only [List.map_cons, List.length_cons]; omega), if_pos (by simp only [List.map_cons, List.length_cons]; omega)]; rfl
  have h1 := bigall_low64.calls A c (l.map (fun (x : Nat) => (x : Int))) _ W hW.kd (by rw [List.length_map, hW.2.1]; exact hW.1) hf
  rw [List.length_map, hW.2.1] at h1
  exact h1.mono fun e w' hh => ⟨hh.1, hh.2.below⟩
set_option maxHeartbeats 8000000 in
set_option maxRecDepth 100000 in
theorem sign_zero (p : Nat) (A : Option Addr) (c : Nat) (b : Bool) (w : World) (hI : IB w p b (.slice A 0 c)) :
    Calls Try.prog 33 #[.pointer (some ⟨p, 0, none⟩)] w fun e w' => e = .returned (.int .i64 0) ∧ w' = w := by
  refine calls_of_wp Try.func33 rfl ?_
  have h0 := has_one (β := bn []) (.v (.pointer (some ⟨p, 0, none⟩))) 12
  have d0 : (⟨#[.pointer (some ⟨p, 0, none⟩)] ++ Array.replicate 12 undef, []⟩ : Act).defers = [] := rfl
  refine wp_seq ?_
  refine wp_region ?_
  refine opsP (N := 13) (T := TT) (M := (fun _ _ => none)) tabOk (fun _ _ _ h => by cases h) [] [0] [(0, .v (.pointer (some ⟨p, 0, none⟩))), (2, .v (.int .i64 0))] h0 (by kernel_rfl) ⟨by kernel_rfl, by kernel_rfl, trivial⟩ (fun a1 h1 d1 => ?_)
  replace d1 := d1.trans d0
  clear h0 d0
  show Code.wp _ _ _ _ _
  refine wp_seq ?_
  refine wp_seq ?_
  refine wp_region ?_
  refine opsP (N := 13) (T := TT) (M := (fun _ _ => none)) tabOk (fun _ _ _ h => by cases h) [1, 2, 3, 4, 5] [0] [(0, .v (.pointer (some ⟨p, 0, none⟩))), (2, .v (.int .i64 0)), (3, .v (.pointer (some ⟨p, 0, none⟩)))] h1 (by kernel_rfl) ⟨by kernel_rfl, by kernel_rfl, by kernel_rfl, trivial⟩ (fun a2 h2 d2 => ?_)
  replace d2 := d2.trans d1
  clear h1 d1
  refine givenW_ops (N := 13) (i := 1) (d := 4) (s := .v (.pointer (some ⟨p, 0, none⟩))) (l := [2, 3, 4, 5]) rfl (want_ rfl) rfl (by decide) h2 (op_nilCheck rfl (h2.2 3 _ rfl)) (fun a3 h3 d3 => ?_)
  replace d3 := d3.trans d2
  clear h2 d2
  refine givenW_ops (N := 13) (i := 2) (d := 5) (s := .v (.pointer (some ⟨p, 1, none⟩))) (l := [3, 4, 5]) rfl (want_ rfl) rfl (by decide) h3 (op_fAbs rfl (h3.2 4 _ rfl)) (fun a4 h4 d4 => ?_)
  replace d4 := d4.trans d3
  clear h3 d3
  refine givenW_ops (N := 13) (i := 3) (d := 6) (s := .v (.slice A 0 c)) (l := [4, 5]) rfl (want_ rfl) rfl (by decide) h4 (op_load rfl (h4.2 5 _ rfl) Try.isAgg47 hI.abs) (fun a5 h5 d5 => ?_)
  replace d5 := d5.trans d4
  clear h4 d4
  refine givenW_ops (N := 13) (i := 4) (d := 7) (s := .v (.int .i64 0)) (l := [5]) rfl (want_ rfl) rfl (by decide) h5 ((op_len rfl Try.underlying47 (h5.2 6 _ rfl)).trans rfl) (fun a6 h6 d6 => ?_)
  replace d6 := d6.trans d5
  clear h5 d5
  refine opsP (N := 13) (T := TT) (M := (fun _ _ => none)) tabOk (fun _ _ _ h => by cases h) [] [5] [(0, .v (.pointer (some ⟨p, 0, none⟩))), (2, .v (.int .i64 0)), (8, .v (.bool true))] h6 (by kernel_rfl) ⟨by kernel_rfl, by kernel_rfl, by kernel_rfl, trivial⟩ (fun a7 h7 d7 => ?_)
  replace d7 := d7.trans d6
  clear h6 d6
  show Code.wp _ _ _ _ _
  refine wp_cond_true (h7.2 8 _ rfl) ?_
  refine wp_seq ?_
  refine wp_region ?_
  refine opsP (N := 13) (T := TT) (M := (fun _ _ => none)) tabOk (fun _ _ _ h => by cases h) [] [0] [(0, .v (.pointer (some ⟨p, 0, none⟩))), (2, .v (.int .i64 0)), (8, .v (.bool true))] h7 (by kernel_rfl) ⟨by kernel_rfl, by kernel_rfl, by kernel_rfl, trivial⟩ (fun a8 h8 d8 => ?_)
  replace d8 := d8.trans d7
  clear h7 d7
  show Code.wp _ _ _ _ _
  refine wp_ret ?_
  exact ⟨d8, _, results_tmp rfl _ _ _, congrArg Ending.returned (h8.2 2 _ rfl), rfl⟩
set_option maxHeartbeats 8000000 in
set_option maxRecDepth 100000 in
theorem sign_neg (p : Nat) (A : Option Addr) (n c : Nat) (h0 : 0 < n) (w : World) (hI : IB w p true (.slice A n c)) :
    Calls Try.prog 33 #[.pointer (some ⟨p, 0, none⟩)] w fun e w' => e = .returned (.int .i64 (-1)) ∧ w' = w := by
  refine calls_of_wp Try.func33 rfl ?_
  have h0 := has_one (β := bn []) (.v (.pointer (some ⟨p, 0, none⟩))) 12
  have d0 : (⟨#[.pointer (some ⟨p, 0, none⟩)] ++ Array.replicate 12 undef, []⟩ : Act).defers = [] := rfl
  refine wp_seq ?_
  refine wp_region ?_
  refine opsP (N := 13) (T := TT) (M := (fun _ _ => none)) tabOk (fun _ _ _ h => by cases h) [] [0] [(0, .v (.pointer (some ⟨p, 0, none⟩))), (2, .v (.int .i64 0))] h0 (by kernel_rfl) ⟨by kernel_rfl, by kernel_rfl, trivial⟩ (fun a1 h1 d1 => ?_)
  replace d1 := d1.trans d0
  clear h0 d0
  show Code.wp _ _ _ _ _
  refine wp_seq ?_
  refine wp_seq ?_
  refine wp_region ?_
  refine opsP (N := 13) (T := TT) (M := (fun _ _ => none)) tabOk (fun _ _ _ h => by cases h) [1, 2, 3, 4, 5] [0] [(0, .v (.pointer (some ⟨p, 0, none⟩))), (2, .v (.int .i64 0)), (3, .v (.pointer (some ⟨p, 0, none⟩)))] h1 (by kernel_rfl) ⟨by kernel_rfl, by kernel_rfl, by kernel_rfl, trivial⟩ (fun a2 h2 d2 => ?_)
  replace d2 := d2.trans d1
  clear h1 d1
  refine givenW_ops (N := 13) (i := 1) (d := 4) (s := .v (.pointer (some ⟨p, 0, none⟩))) (l := [2, 3, 4, 5]) rfl (want_ rfl) rfl (by decide) h2 (op_nilCheck rfl (h2.2 3 _ rfl)) (fun a3 h3 d3 => ?_)
  replace d3 := d3.trans d2
  clear h2 d2
  refine givenW_ops (N := 13) (i := 2) (d := 5) (s := .v (.pointer (some ⟨p, 1, none⟩))) (l := [3, 4, 5]) rfl (want_ rfl) rfl (by decide) h3 (op_fAbs rfl (h3.2 4 _ rfl)) (fun a4 h4 d4 => ?_)
  replace d4 := d4.trans d3
  clear h3 d3
  refine givenW_ops (N := 13) (i := 3) (d := 6) (s := .v (.slice A n c)) (l := [4, 5]) rfl (want_ rfl) rfl (by decide) h4 (op_load rfl (h4.2 5 _ rfl) Try.isAgg47 hI.abs) (fun a5 h5 d5 => ?_)
  replace d5 := d5.trans d4
  clear h4 d4
  refine givenW_ops (N := 13) (i := 4) (d := 7) (s := .v (.int .i64 ((n : Nat) : Int))) (l := [5]) rfl (want_ rfl) rfl (by decide) h5 (op_len rfl Try.underlying47 (h5.2 6 _ rfl)) (fun a6 h6 d6 => ?_)
  replace d6 := d6.trans d5
  clear h5 d5
  refine opsP (N := 13) (T := TT) (M := (fun _ _ => none)) tabOk (fun _ _ _ h => by cases h) [] [5] [(0, .v (.pointer (some ⟨p, 0, none⟩))), (2, .v (.int .i64 0)), (8, .v (.bool ((((n : Nat) : Int) : Int) == 0)))] h6 (by kernel_rfl) ⟨by kernel_rfl, by kernel_rfl, by kernel_rfl, trivial⟩ (fun a7 h7 d7 => ?_)
  replace d7 := d7.trans d6
  clear h6 d6
  rw [show ((((n : Nat) : Int) : Int) == 0) = false from beq_eq_false_iff_ne.mpr (by omega)] at h7
  show Code.wp _ _ _ _ _
  refine wp_cond_false (h7.2 8 _ rfl) ?_
  refine wp_skip ?_
  show Code.wp _ _ _ _ _
  refine wp_seq ?_
  refine wp_seq ?_
  refine wp_region ?_
  refine opsP (N := 13) (T := TT) (M := (fun _ _ => none)) tabOk (fun _ _ _ h => by cases h) [1, 2, 3] [0] [(0, .v (.pointer (some ⟨p, 0, none⟩))), (2, .v (.int .i64 0)), (8, .v (.bool false)), (9, .v (.pointer (some ⟨p, 0, none⟩)))] h7 (by kernel_rfl) ⟨by kernel_rfl, by kernel_rfl, by kernel_rfl, by kernel_rfl, trivial⟩ (fun a8 h8 d8 => ?_)
  replace d8 := d8.trans d7
  clear h7 d7
  refine givenW_ops (N := 13) (i := 1) (d := 10) (s := .v (.pointer (some ⟨p, 0, none⟩))) (l := [2, 3]) rfl (want_ rfl) rfl (by decide) h8 (op_nilCheck rfl (h8.2 9 _ rfl)) (fun a9 h9 d9 => ?_)
  replace d9 := d9.trans d8
  clear h8 d8
  refine givenW_ops (N := 13) (i := 2) (d := 11) (s := .v (.pointer (some ⟨p, 0, none⟩))) (l := [3]) rfl (want_ rfl) rfl (by decide) h9 (op_fNeg rfl (h9.2 10 _ rfl)) (fun a10 h10 d10 => ?_)
  replace d10 := d10.trans d9
  clear h9 d9
  refine givenW_ops (N := 13) (i := 3) (d := 12) (s := .v (.bool true)) (l := []) rfl (want_ rfl) rfl (by decide) h10 (op_load rfl (h10.2 11 _ rfl) Try.isAgg4 hI.neg) (fun a11 h11 d11 => ?_)
  replace d11 := d11.trans d10
  clear h10 d10
  show Code.wp _ _ _ _ _
  refine wp_cond_true (h11.2 12 _ rfl) ?_
  refine wp_seq ?_
  refine wp_region ?_
  refine opsP (N := 13) (T := TT) (M := (fun _ _ => none)) tabOk (fun _ _ _ h => by cases h) [] [0] [(0, .v (.pointer (some ⟨p, 0, none⟩))), (2, .v (.int .i64 (-1))), (8, .v (.bool false)), (12, .v (.bool true))] h11 (by kernel_rfl) ⟨by kernel_rfl, by kernel_rfl, by kernel_rfl, by kernel_rfl, trivial⟩ (fun a12 h12 d12 => ?_)
  replace d12 := d12.trans d11
  clear h11 d11
  show Code.wp _ _ _ _ _
  refine wp_ret ?_
  exact ⟨d12, _, results_tmp rfl _ _ _, congrArg Ending.returned (h12.2 2 _ rfl), rfl⟩
set_option maxHeartbeats 8000000 in
set_option maxRecDepth 100000 in
theorem sign_pos (p : Nat) (A : Option Addr) (n c : Nat) (h0 : 0 < n) (w : World) (hI : IB w p false (.slice A n c)) :
    Calls Try.prog 33 #[.pointer (some ⟨p, 0, none⟩)] w fun e w' => e = .returned (.int .i64 1) ∧ w' = w := by
  refine calls_of_wp Try.func33 rfl ?_
  have h0 := has_one (β := bn []) (.v (.pointer (some ⟨p, 0, none⟩))) 12
  have d0 : (⟨#[.pointer (some ⟨p, 0, none⟩)] ++ Array.replicate 12 undef, []⟩ : Act).defers = [] := rfl
  refine wp_seq ?_
  refine wp_region ?_
  refine opsP (N := 13) (T := TT) (M := (fun _ _ => none)) tabOk (fun _ _ _ h => by cases h) [] [0] [(0, .v (.pointer (some ⟨p, 0, none⟩))), (2, .v (.int .i64 0))] h0 (by kernel_rfl) ⟨by kernel_rfl, by kernel_rfl, trivial⟩ (fun a1 h1 d1 => ?_)
  replace d1 := d1.trans d0
  clear h0 d0
  show Code.wp _ _ _ _ _
  refine wp_seq ?_
  refine wp_seq ?_
  refine wp_region ?_
  refine opsP (N := 13) (T := TT) (M := (fun _ _ => none)) tabOk (fun _ _ _ h => by cases h) [1, 2, 3, 4, 5] [0] [(0, .v (.pointer (some ⟨p, 0, none⟩))), (2, .v (.int .i64 0)), (3, .v (.pointer (some ⟨p, 0, none⟩)))] h1 (by kernel_rfl) ⟨by kernel_rfl, by kernel_rfl, by kernel_rfl, trivial⟩ (fun a2 h2 d2 => ?_)
  replace d2 := d2.trans d1
  clear h1 d1
  refine givenW_ops (N := 13) (i := 1) (d := 4) (s := .v (.pointer (some ⟨p, 0, none⟩))) (l := [2, 3, 4, 5]) rfl (want_ rfl) rfl (by decide) h2 (op_nilCheck rfl (h2.2 3 _ rfl)) (fun a3 h3 d3 => ?_)
  replace d3 := d3.trans d2
  clear h2 d2
  refine givenW_ops (N := 13) (i := 2) (d := 5) (s := .v (.pointer (some ⟨p, 1, none⟩))) (l := [3, 4, 5]) rfl (want_ rfl) rfl (by decide) h3 (op_fAbs rfl (h3.2 4 _ rfl)) (fun a4 h4 d4 => ?_)
  replace d4 := d4.trans d3
  clear h3 d3
  refine givenW_ops (N := 13) (i := 3) (d := 6) (s := .v (.slice A n c)) (l := [4, 5]) rfl (want_ rfl) rfl (by decide) h4 (op_load rfl (h4.2 5 _ rfl) Try.isAgg47 hI.abs) (fun a5 h5 d5 => ?_)
  replace d5 := d5.trans d4
  clear h4 d4
  refine givenW_ops (N := 13) (i := 4) (d := 7) (s := .v (.int .i64 ((n : Nat) : Int))) (l := [5]) rfl (want_ rfl) rfl (by decide) h5 (op_len rfl Try.underlying47 (h5.2 6 _ rfl)) (fun a6 h6 d6 => ?_)
  replace d6 := d6.trans d5
  clear h5 d5
  refine opsP (N := 13) (T := TT) (M := (fun _ _ => none)) tabOk (fun _ _ _ h => by cases h) [] [5] [(0, .v (.pointer (some ⟨p, 0, none⟩))), (2, .v (.int .i64 0)), (8, .v (.bool ((((n : Nat) : Int) : Int) == 0)))] h6 (by kernel_rfl) ⟨by kernel_rfl, by kernel_rfl, by kernel_rfl, trivial⟩ (fun a7 h7 d7 => ?_)
  replace d7 := d7.trans d6
  clear h6 d6
  rw [show ((((n : Nat) : Int) : Int) == 0) = false from beq_eq_false_iff_ne.mpr (by omega)] at h7
  show Code.wp _ _ _ _ _
  refine wp_cond_false (h7.2 8 _ rfl) ?_
  refine wp_skip ?_
  show Code.wp _ _ _ _ _
  refine wp_seq ?_
  refine wp_seq ?_
  refine wp_region ?_
  refine opsP (N := 13) (T := TT) (M := (fun _ _ => none)) tabOk (fun _ _ _ h => by cases h) [1, 2, 3] [0] [(0, .v (.pointer (some ⟨p, 0, none⟩))), (2, .v (.int .i64 0)), (8, .v (.bool false)), (9, .v (.pointer (some ⟨p, 0, none⟩)))] h7 (by kernel_rfl) ⟨by kernel_rfl, by kernel_rfl, by kernel_rfl, by kernel_rfl, trivial⟩ (fun a8 h8 d8 => ?_)
  replace d8 := d8.trans d7
  clear h7 d7
  refine givenW_ops (N := 13) (i := 1) (d := 10) (s := .v (.pointer (some ⟨p, 0, none⟩))) (l := [2, 3]) rfl (want_ rfl) rfl (by decide) h8 (op_nilCheck rfl (h8.2 9 _ rfl)) (fun a9 h9 d9 => ?_)
  replace d9 := d9.trans d8
  clear h8 d8
  refine givenW_ops (N := 13) (i := 2) (d := 11) (s := .v (.pointer (some ⟨p, 0, none⟩))) (l := [3]) rfl (want_ rfl) rfl (by decide) h9 (op_fNeg rfl (h9.2 10 _ rfl)) (fun a10 h10 d10 => ?_)
  replace d10 := d10.trans d9
  clear h9 d9
  refine givenW_ops (N := 13) (i := 3) (d := 12) (s := .v (.bool false)) (l := []) rfl (want_ rfl) rfl (by decide) h10 (op_load rfl (h10.2 11 _ rfl) Try.isAgg4 hI.neg) (fun a11 h11 d11 => ?_)
  replace d11 := d11.trans d10
  clear h10 d10
  show Code.wp _ _ _ _ _
  refine wp_cond_false (h11.2 12 _ rfl) ?_
  refine wp_skip ?_
  show Code.wp _ _ _ _ _
  refine wp_seq ?_
  refine wp_region ?_
  refine opsP (N := 13) (T := TT) (M := (fun _ _ => none)) tabOk (fun _ _ _ h => by cases h) [] [0] [(0, .v (.pointer (some ⟨p, 0, none⟩))), (2, .v (.int .i64 1)), (8, .v (.bool false)), (12, .v (.bool false))] h11 (by kernel_rfl) ⟨by kernel_rfl, by kernel_rfl, by kernel_rfl, by kernel_rfl, trivial⟩ (fun a12 h12 d12 => ?_)
  replace d12 := d12.trans d11
  clear h11 d11
  show Code.wp _ _ _ _ _
  refine wp_ret ?_
  exact ⟨d12, _, results_tmp rfl _ _ _, congrArg Ending.returned (h12.2 2 _ rfl), rfl⟩
set_option maxHeartbeats 8000000 in
set_option maxRecDepth 100000 in
theorem BitLen_walk (p : Nat) (A : Option Addr) (n c : Nat) (b : Bool) (l : List Nat) (r : Int) (w : World) (hI : IB w p b (.slice A n c)) (hW : Ws w p A n c l) (hf : bigall_nat_bitLen.f (l.map (fun (x : Nat) => (x : Int))) = some r) :
    Calls Try.prog 34 #[.pointer (some ⟨p, 0, none⟩)] w fun e w' => e = .returned (.int .i64 r) ∧ Below w.heap.size w w' := by
  refine calls_of_wp Try.func34 rfl ?_
  have h0 := has_one (β := bn []) (.v (.pointer (some ⟨p, 0, none⟩))) 7
  have d0 : (⟨#[.pointer (some ⟨p, 0, none⟩)] ++ Array.replicate 7 undef, []⟩ : Act).defers = [] := rfl
  refine wp_seq ?_
  refine wp_region ?_
  refine opsP (N := 8) (T := TT) (M := (fun _ _ => none)) tabOk (fun _ _ _ h => by cases h) [] [0] [(0, .v (.pointer (some ⟨p, 0, none⟩))), (2, .v (.int .i64 0))] h0 (by kernel_rfl) ⟨by kernel_rfl, by kernel_rfl, trivial⟩ (fun a1 h1 d1 => ?_)
  replace d1 := d1.trans d0
  clear h0 d0
  show Code.wp _ _ _ _ _
  refine wp_seq ?_
  refine wp_region ?_
  refine opsP (N := 8) (T := TT) (M := (fun _ _ => none)) tabOk (fun _ _ _ h => by cases h) [1, 2, 3, 4, 5] [0] [(0, .v (.pointer (some ⟨p, 0, none⟩))), (2, .v (.int .i64 0)), (3, .v (.pointer (some ⟨p, 0, none⟩)))] h1 (by kernel_rfl) ⟨by kernel_rfl, by kernel_rfl, by kernel_rfl, trivial⟩ (fun a2 h2 d2 => ?_)
  replace d2 := d2.trans d1
  clear h1 d1
  refine givenW_ops (N := 8) (i := 1) (d := 4) (s := .v (.pointer (some ⟨p, 0, none⟩))) (l := [2, 3, 4, 5]) rfl (want_ rfl) rfl (by decide) h2 (op_nilCheck rfl (h2.2 3 _ rfl)) (fun a3 h3 d3 => ?_)
  replace d3 := d3.trans d2
  clear h2 d2
  refine givenW_ops (N := 8) (i := 2) (d := 5) (s := .v (.pointer (some ⟨p, 1, none⟩))) (l := [3, 4, 5]) rfl (want_ rfl) rfl (by decide) h3 (op_fAbs rfl (h3.2 4 _ rfl)) (fun a4 h4 d4 => ?_)
  replace d4 := d4.trans d3
  clear h3 d3
  refine givenW_ops (N := 8) (i := 3) (d := 6) (s := .v (.slice A n c)) (l := [4, 5]) rfl (want_ rfl) rfl (by decide) h4 (op_load rfl (h4.2 5 _ rfl) Try.isAgg47 hI.abs) (fun a5 h5 d5 => ?_)
  replace d5 := d5.trans d4
  clear h4 d4
  refine callW_ops (N := 8) (i := 4) (d := 7) (f := 48) (args := [.v (.slice A n c)]) (l := [5]) rfl (want_ rfl) rfl (by decide) h5 Try.func48 rfl rfl rfl (by kernel_rfl) (fun (v : Value) (W' : World) => v = .int .i64 r ∧ Below w.heap.size w W') ((bitLenN hW hf).mono fun e w' hh => ⟨_, hh.1, rfl, hh.2⟩) (fun v6 W6 a6 hR6 h6 d6 => ?_)
  replace d6 := d6.trans d5
  clear h5 d5
  obtain ⟨rfl, hB⟩ := hR6
  refine opsP (N := 8) (T := TT) (M := (fun _ _ => none)) tabOk (fun _ _ _ h => by cases h) [] [5] [(2, .v (.int .i64 r))] h6 (by kernel_rfl) ⟨by kernel_rfl, trivial⟩ (fun a7 h7 d7 => ?_)
  replace d7 := d7.trans d6
  clear h6 d6
  show Code.wp _ _ _ _ _
  refine wp_ret ?_
  exact ⟨d7, _, results_tmp rfl _ _ _, congrArg Ending.returned (h7.2 2 _ rfl), hB⟩
set_option maxHeartbeats 8000000 in
set_option maxRecDepth 100000 in
theorem Uint64_walk (p : Nat) (A : Option Addr) (n c : Nat) (b : Bool) (l : List Nat) (w : World) (hI : IB w p b (.slice A n c)) (hW : Ws w p A n c l) :
    Calls Try.prog 35 #[.pointer (some ⟨p, 0, none⟩)] w fun e w' => e = .returned (.int .u64 ((l.getD 0 0 : Nat) : Int)) ∧ Below w.heap.size w w' := by
  refine calls_of_wp Try.func35 rfl ?_
  have h0 := has_one (β := bn []) (.v (.pointer (some ⟨p, 0, none⟩))) 7
  have d0 : (⟨#[.pointer (some ⟨p, 0, none⟩)] ++ Array.replicate 7 undef, []⟩ : Act).defers = [] := rfl
  refine wp_seq ?_
  refine wp_region ?_
  refine opsP (N := 8) (T := TT) (M := (fun _ _ => none)) tabOk (fun _ _ _ h => by cases h) [] [0] [(0, .v (.pointer (some ⟨p, 0, none⟩))), (2, .v (.int .u64 0))] h0 (by kernel_rfl) ⟨by kernel_rfl, by kernel_rfl, trivial⟩ (fun a1 h1 d1 => ?_)
  replace d1 := d1.trans d0
  clear h0 d0
  show Code.wp _ _ _ _ _
  refine wp_seq ?_
  refine wp_region ?_
  refine opsP (N := 8) (T := TT) (M := (fun _ _ => none)) tabOk (fun _ _ _ h => by cases h) [1, 2, 3, 4, 5] [0] [(0, .v (.pointer (some ⟨p, 0, none⟩))), (2, .v (.int .u64 0)), (3, .v (.pointer (some ⟨p, 0, none⟩)))] h1 (by kernel_rfl) ⟨by kernel_rfl, by kernel_rfl, by kernel_rfl, trivial⟩ (fun a2 h2 d2 => ?_)
  replace d2 := d2.trans d1
  clear h1 d1
  refine givenW_ops (N := 8) (i := 1) (d := 4) (s := .v (.pointer (some ⟨p, 0, none⟩))) (l := [2, 3, 4, 5]) rfl (want_ rfl) rfl (by decide) h2 (op_nilCheck rfl (h2.2 3 _ rfl)) (fun a3 h3 d3 => ?_)
  replace d3 := d3.trans d2
  clear h2 d2
  refine givenW_ops (N := 8) (i := 2) (d := 5) (s := .v (.pointer (some ⟨p, 1, none⟩))) (l := [3, 4, 5]) rfl (want_ rfl) rfl (by decide) h3 (op_fAbs rfl (h3.2 4 _ rfl)) (fun a4 h4 d4 => ?_)
  replace d4 := d4.trans d3
  clear h3 d3
  refine givenW_ops (N := 8) (i := 3) (d := 6) (s := .v (.slice A n c)) (l := [4, 5]) rfl (want_ rfl) rfl (by decide) h4 (op_load rfl (h4.2 5 _ rfl) Try.isAgg47 hI.abs) (fun a5 h5 d5 => ?_)
  replace d5 := d5.trans d4
  clear h4 d4
  refine callW_ops (N := 8) (i := 4) (d := 7) (f := 49) (args := [.v (.slice A n c)]) (l := [5]) rfl (want_ rfl) rfl (by decide) h5 Try.func49 rfl rfl rfl (by kernel_rfl) (fun (v : Value) (W' : World) => v = .int .u64 ((l.getD 0 0 : Nat) : Int) ∧ Below w.heap.size w W') ((low64N hW).mono fun e w' hh => ⟨_, hh.1, rfl, hh.2⟩) (fun v6 W6 a6 hR6 h6 d6 => ?_)
  replace d6 := d6.trans d5
  clear h5 d5
  obtain ⟨rfl, hB⟩ := hR6
  refine opsP (N := 8) (T := TT) (M := (fun _ _ => none)) tabOk (fun _ _ _ h => by cases h) [] [5] [(2, .v (.int .u64 ((l.getD 0 0 : Nat) : Int)))] h6 (by kernel_rfl) ⟨by kernel_rfl, trivial⟩ (fun a7 h7 d7 => ?_)
  replace d7 := d7.trans d6
  clear h6 d6
  show Code.wp _ _ _ _ _
  refine wp_ret ?_
  exact ⟨d7, _, results_tmp rfl _ _ _, congrArg Ending.returned (h7.2 2 _ rfl), hB⟩
set_option maxHeartbeats 8000000 in
set_option maxRecDepth 100000 in
theorem set_self (p : Nat) (w : World) :
    Calls Try.prog 32 #[.pointer (some ⟨p, 0, none⟩), .pointer (some ⟨p, 0, none⟩)] w fun e w' => e = .returned (.pointer (some ⟨p, 0, none⟩)) ∧ w' = w := by
  refine calls_of_wp Try.func32 rfl ?_
  have h0 := has_two (β := bn []) (.v (.pointer (some ⟨p, 0, none⟩))) (.v (.pointer (some ⟨p, 0, none⟩))) 26
  have d0 : (⟨#[.pointer (some ⟨p, 0, none⟩), .pointer (some ⟨p, 0, none⟩)] ++ Array.replicate 26 undef, []⟩ : Act).defers = [] := rfl
  refine wp_seq ?_
  refine wp_region ?_
  refine opsP (N := 28) (T := TT) (M := (fun _ _ => none)) tabOk (fun _ _ _ h => by cases h) [] [0] [(0, .v (.pointer (some ⟨p, 0, none⟩))), (1, .v (.pointer (some ⟨p, 0, none⟩))), (4, .v (Value.pointer none))] h0 (by kernel_rfl) ⟨by kernel_rfl, by kernel_rfl, by kernel_rfl, trivial⟩ (fun a1 h1 d1 => ?_)
  replace d1 := d1.trans d0
  clear h0 d0
  show Code.wp _ _ _ _ _
  refine wp_seq ?_
  refine wp_seq ?_
  refine wp_region ?_
  refine opsP (N := 28) (T := TT) (M := (fun _ _ => none)) tabOk (fun _ _ _ h => by cases h) [2] [0, 1] [(0, .v (.pointer (some ⟨p, 0, none⟩))), (1, .v (.pointer (some ⟨p, 0, none⟩))), (4, .v (Value.pointer none)), (5, .v (.pointer (some ⟨p, 0, none⟩))), (6, .v (.pointer (some ⟨p, 0, none⟩)))] h1 (by kernel_rfl) ⟨by kernel_rfl, by kernel_rfl, by kernel_rfl, by kernel_rfl, by kernel_rfl, trivial⟩ (fun a2 h2 d2 => ?_)
  replace d2 := d2.trans d1
  clear h1 d1
  refine givenW_ops (N := 28) (i := 2) (d := 7) (s := .v (.bool false)) (l := []) rfl (want_ rfl) rfl (by decide) h2 (op_nePP rfl (h2.2 5 _ rfl) (h2.2 6 _ rfl)) (fun a3 h3 d3 => ?_)
  replace d3 := d3.trans d2
  clear h2 d2
  show Code.wp _ _ _ _ _
  refine wp_cond_false (h3.2 7 _ rfl) ?_
  refine wp_skip ?_
  show Code.wp _ _ _ _ _
  refine wp_seq ?_
  refine wp_region ?_
  refine opsP (N := 28) (T := TT) (M := (fun _ _ => none)) tabOk (fun _ _ _ h => by cases h) [] [0, 1] [(0, .v (.pointer (some ⟨p, 0, none⟩))), (1, .v (.pointer (some ⟨p, 0, none⟩))), (4, .v (.pointer (some ⟨p, 0, none⟩))), (7, .v (.bool false))] h3 (by kernel_rfl) ⟨by kernel_rfl, by kernel_rfl, by kernel_rfl, by kernel_rfl, trivial⟩ (fun a4 h4 d4 => ?_)
  replace d4 := d4.trans d3
  clear h3 d3
  show Code.wp _ _ _ _ _
  refine wp_ret ?_
  exact ⟨d4, _, results_tmp rfl _ _ _, congrArg Ending.returned (h4.2 4 _ rfl), rfl⟩
set_option maxHeartbeats 8000000 in
set_option maxRecDepth 100000 in
theorem neg_zero (p : Nat) (A : Option Addr) (c : Nat) (w : World) (hI : IB w p false (.slice A 0 c)) :
    Calls Try.prog 19 #[.pointer (some ⟨p, 0, none⟩), .pointer (some ⟨p, 0, none⟩)] w fun e w' => e = .returned (.pointer (some ⟨p, 0, none⟩)) ∧ IB w' p false (.slice A 0 c) ∧ Fr [p] w w' := by
  refine calls_of_wp Try.func19 rfl ?_
  have h0 := has_two (β := bn []) (.v (.pointer (some ⟨p, 0, none⟩))) (.v (.pointer (some ⟨p, 0, none⟩))) 23
  have d0 : (⟨#[.pointer (some ⟨p, 0, none⟩), .pointer (some ⟨p, 0, none⟩)] ++ Array.replicate 23 undef, []⟩ : Act).defers = [] := rfl
  refine wp_seq ?_
  refine wp_region ?_
  refine opsP (N := 25) (T := TT) (M := (fun _ _ => none)) tabOk (fun _ _ _ h => by cases h) [] [0] [(0, .v (.pointer (some ⟨p, 0, none⟩))), (1, .v (.pointer (some ⟨p, 0, none⟩))), (4, .v (Value.pointer none))] h0 (by kernel_rfl) ⟨by kernel_rfl, by kernel_rfl, by kernel_rfl, trivial⟩ (fun a1 h1 d1 => ?_)
  replace d1 := d1.trans d0
  clear h0 d0
  show Code.wp _ _ _ _ _
  refine wp_seq ?_
  refine wp_region ?_
  refine opsP (N := 25) (T := TT) (M := (fun _ _ => none)) tabOk (fun _ _ _ h => by cases h) [2] [0, 1] [(0, .v (.pointer (some ⟨p, 0, none⟩))), (1, .v (.pointer (some ⟨p, 0, none⟩))), (4, .v (Value.pointer none)), (5, .v (.pointer (some ⟨p, 0, none⟩))), (6, .v (.pointer (some ⟨p, 0, none⟩)))] h1 (by kernel_rfl) ⟨by kernel_rfl, by kernel_rfl, by kernel_rfl, by kernel_rfl, by kernel_rfl, trivial⟩ (fun a2 h2 d2 => ?_)
  replace d2 := d2.trans d1
  clear h1 d1
  refine callW_ops (N := 25) (i := 2) (d := 7) (f := 32) (args := [.v (.pointer (some ⟨p, 0, none⟩)), .v (.pointer (some ⟨p, 0, none⟩))]) (l := []) rfl (want_ rfl) rfl (by decide) h2 Try.func32 rfl rfl rfl (by kernel_rfl) (fun (v : Value) (W' : World) => v = .pointer (some ⟨p, 0, none⟩) ∧ W' = w) ((set_self p w).mono fun e w' hh => ⟨_, hh.1, rfl, hh.2⟩) (fun v3 W3 a3 hR3 h3 d3 => ?_)
  replace d3 := d3.trans d2
  clear h2 d2
  obtain ⟨rfl, e1⟩ := hR3
  obtain rfl := e1.symm
  show Code.wp _ _ _ _ _
  refine wp_seq ?_
  refine wp_region ?_
  refine opsP (N := 25) (T := TT) (M := (fun _ _ => none)) tabOk (fun _ _ _ h => by cases h) [2, 3, 4, 5, 6, 7, 8, 9, 10, 11, 12, 13, 14, 15, 16] [0, 1] [(0, .v (.pointer (some ⟨p, 0, none⟩))), (4, .v (Value.pointer none)), (8, .v (.pointer (some ⟨p, 0, none⟩))), (9, .v (.pointer (some ⟨p, 0, none⟩)))] h3 (by kernel_rfl) ⟨by kernel_rfl, by kernel_rfl, by kernel_rfl, by kernel_rfl, trivial⟩ (fun a4 h4 d4 => ?_)
  replace d4 := d4.trans d3
  clear h3 d3
  refine givenW_ops (N := 25) (i := 2) (d := 10) (s := .v (.pointer (some ⟨p, 0, none⟩))) (l := [3, 4, 5, 6, 7, 8, 9, 10, 11, 12, 13, 14, 15, 16]) rfl (want_ rfl) rfl (by decide) h4 (op_nilCheck rfl (h4.2 9 _ rfl)) (fun a5 h5 d5 => ?_)
  replace d5 := d5.trans d4
  clear h4 d4
  refine givenW_ops (N := 25) (i := 3) (d := 11) (s := .v (.pointer (some ⟨p, 1, none⟩))) (l := [4, 5, 6, 7, 8, 9, 10, 11, 12, 13, 14, 15, 16]) rfl (want_ rfl) rfl (by decide) h5 (op_fAbs rfl (h5.2 10 _ rfl)) (fun a6 h6 d6 => ?_)
  replace d6 := d6.trans d5
  clear h5 d5
  refine givenW_ops (N := 25) (i := 4) (d := 12) (s := .v (.slice A 0 c)) (l := [5, 6, 7, 8, 9, 10, 11, 12, 13, 14, 15, 16]) rfl (want_ rfl) rfl (by decide) h6 (op_load rfl (h6.2 11 _ rfl) Try.isAgg47 hI.abs) (fun a7 h7 d7 => ?_)
  replace d7 := d7.trans d6
  clear h6 d6
  refine givenW_ops (N := 25) (i := 5) (d := 13) (s := .v (.int .i64 0)) (l := [6, 7, 8, 9, 10, 11, 12, 13, 14, 15, 16]) rfl (want_ rfl) rfl (by decide) h7 ((op_len rfl Try.underlying47 (h7.2 12 _ rfl)).trans rfl) (fun a8 h8 d8 => ?_)
  replace d8 := d8.trans d7
  clear h7 d7
  refine opsP (N := 25) (T := TT) (M := (fun _ _ => none)) tabOk (fun _ _ _ h => by cases h) [8, 9, 10, 11, 12, 13, 14, 15, 16] [6, 7] [(0, .v (.pointer (some ⟨p, 0, none⟩))), (4, .v (Value.pointer none)), (8, .v (.pointer (some ⟨p, 0, none⟩))), (9, .v (.pointer (some ⟨p, 0, none⟩))), (10, .v (.pointer (some ⟨p, 0, none⟩))), (11, .v (.pointer (some ⟨p, 1, none⟩))), (12, .v (.slice A 0 c)), (13, .v (.int .i64 0)), (14, .v (.bool false)), (15, .v (.bool false))] h8 (by kernel_rfl) ⟨by kernel_rfl, by kernel_rfl, by kernel_rfl, by kernel_rfl, by kernel_rfl, by kernel_rfl, by kernel_rfl, by kernel_rfl, by kernel_rfl, by kernel_rfl, trivial⟩ (fun a9 h9 d9 => ?_)
  replace d9 := d9.trans d8
  clear h8 d8
  refine skip_ops (N := 25) (i := 8) (d := 16) (j := 7) (dj := 15) (b := true) (b' := false) (l := [9, 10, 11, 12, 13, 14, 15, 16]) rfl rfl rfl rfl (by decide) rfl (by decide) h9 (fun a10 h10 d10 => ?_)
  replace d10 := d10.trans d9
  clear h9 d9
  refine skip_ops (N := 25) (i := 9) (d := 17) (j := 7) (dj := 15) (b := true) (b' := false) (l := [10, 11, 12, 13, 14, 15, 16]) rfl rfl rfl rfl (by decide) rfl (by decide) h10 (fun a11 h11 d11 => ?_)
  replace d11 := d11.trans d10
  clear h10 d10
  refine skip_ops (N := 25) (i := 10) (d := 18) (j := 7) (dj := 15) (b := true) (b' := false) (l := [11, 12, 13, 14, 15, 16]) rfl rfl rfl rfl (by decide) rfl (by decide) h11 (fun a12 h12 d12 => ?_)
  replace d12 := d12.trans d11
  clear h11 d11
  refine skip_ops (N := 25) (i := 11) (d := 19) (j := 7) (dj := 15) (b := true) (b' := false) (l := [12, 13, 14, 15, 16]) rfl rfl rfl rfl (by decide) rfl (by decide) h12 (fun a13 h13 d13 => ?_)
  replace d13 := d13.trans d12
  clear h12 d12
  refine skip_ops (N := 25) (i := 12) (d := 20) (j := 7) (dj := 15) (b := true) (b' := false) (l := [13, 14, 15, 16]) rfl rfl rfl rfl (by decide) rfl (by decide) h13 (fun a14 h14 d14 => ?_)
  replace d14 := d14.trans d13
  clear h13 d13
  refine givenW_ops (N := 25) (i := 13) (d := 21) (s := .v (Value.bool false)) (l := [14, 15, 16]) rfl (want_ rfl) rfl (by decide) h14 (op_pickF rfl (h14.2 15 _ rfl) rfl) (fun a15 h15 d15 => ?_)
  replace d15 := d15.trans d14
  clear h14 d14
  refine givenW_ops (N := 25) (i := 14) (d := 22) (s := .v (.pointer (some ⟨p, 0, none⟩))) (l := [15, 16]) rfl (want_ rfl) rfl (by decide) h15 (op_nilCheck rfl (h15.2 8 _ rfl)) (fun a16 h16 d16 => ?_)
  replace d16 := d16.trans d15
  clear h15 d15
  refine givenW_ops (N := 25) (i := 15) (d := 23) (s := .v (.pointer (some ⟨p, 0, none⟩))) (l := [16]) rfl (want_ rfl) rfl (by decide) h16 (op_fNeg rfl (h16.2 22 _ rfl)) (fun a17 h17 d17 => ?_)
  replace d17 := d17.trans d16
  clear h16 d16
  have hI2 := hI.setNeg false
  have hF2 := Fr.setc (W := w) p 0 (.bool false)
  refine st_ops (i := 16) (l := []) rfl rfl rfl (op_store rfl (h17.2 23 _ rfl) (h17.2 21 _ rfl) (Or.inr ⟨_, rfl⟩) Try.sizeOf4 hI.neg (hI.frozen 0)) ?_
  show Code.wp _ _ _ _ _
  refine wp_seq ?_
  refine wp_region ?_
  refine opsP (N := 25) (T := TT) (M := (fun _ _ => none)) tabOk (fun _ _ _ h => by cases h) [] [0, 1] [(0, .v (.pointer (some ⟨p, 0, none⟩))), (4, .v (.pointer (some ⟨p, 0, none⟩)))] h17 (by kernel_rfl) ⟨by kernel_rfl, by kernel_rfl, trivial⟩ (fun a18 h18 d18 => ?_)
  replace d18 := d18.trans d17
  clear h17 d17
  show Code.wp _ _ _ _ _
  refine wp_ret ?_
  exact ⟨d18, _, results_tmp rfl _ _ _, congrArg Ending.returned (h18.2 4 _ rfl), hI2, hF2⟩
set_option maxHeartbeats 8000000 in
set_option maxRecDepth 100000 in
theorem neg_some (p : Nat) (A : Option Addr) (n c : Nat) (h0 : 0 < n) (w : World) (hI : IB w p false (.slice A n c)) :
    Calls Try.prog 19 #[.pointer (some ⟨p, 0, none⟩), .pointer (some ⟨p, 0, none⟩)] w fun e w' => e = .returned (.pointer (some ⟨p, 0, none⟩)) ∧ IB w' p true (.slice A n c) ∧ Fr [p] w w' := by
  refine calls_of_wp Try.func19 rfl ?_
  have h0 := has_two (β := bn []) (.v (.pointer (some ⟨p, 0, none⟩))) (.v (.pointer (some ⟨p, 0, none⟩))) 23
  have d0 : (⟨#[.pointer (some ⟨p, 0, none⟩), .pointer (some ⟨p, 0, none⟩)] ++ Array.replicate 23 undef, []⟩ : Act).defers = [] := rfl
  refine wp_seq ?_
  refine wp_region ?_
  refine opsP (N := 25) (T := TT) (M := (fun _ _ => none)) tabOk (fun _ _ _ h => by cases h) [] [0] [(0, .v (.pointer (some ⟨p, 0, none⟩))), (1, .v (.pointer (some ⟨p, 0, none⟩))), (4, .v (Value.pointer none))] h0 (by kernel_rfl) ⟨by kernel_rfl, by kernel_rfl, by kernel_rfl, trivial⟩ (fun a1 h1 d1 => ?_)
  replace d1 := d1.trans d0
  clear h0 d0
  show Code.wp _ _ _ _ _
  refine wp_seq ?_
  refine wp_region ?_
  refine opsP (N := 25) (T := TT) (M := (fun _ _ => none)) tabOk (fun _ _ _ h => by cases h) [2] [0, 1] [(0, .v (.pointer (some ⟨p, 0, none⟩))), (1, .v (.pointer (some ⟨p, 0, none⟩))), (4, .v (Value.pointer none)), (5, .v (.pointer (some ⟨p, 0, none⟩))), (6, .v (.pointer (some ⟨p, 0, none⟩)))] h1 (by kernel_rfl) ⟨by kernel_rfl, by kernel_rfl, by kernel_rfl, by kernel_rfl, by kernel_rfl, trivial⟩ (fun a2 h2 d2 => ?_)
  replace d2 := d2.trans d1
  clear h1 d1
  refine callW_ops (N := 25) (i := 2) (d := 7) (f := 32) (args := [.v (.pointer (some ⟨p, 0, none⟩)), .v (.pointer (some ⟨p, 0, none⟩))]) (l := []) rfl (want_ rfl) rfl (by decide) h2 Try.func32 rfl rfl rfl (by kernel_rfl) (fun (v : Value) (W' : World) => v = .pointer (some ⟨p, 0, none⟩) ∧ W' = w) ((set_self p w).mono fun e w' hh => ⟨_, hh.1, rfl, hh.2⟩) (fun v3 W3 a3 hR3 h3 d3 => ?_)
  replace d3 := d3.trans d2
  clear h2 d2
  obtain ⟨rfl, e1⟩ := hR3
  obtain rfl := e1.symm
  show Code.wp _ _ _ _ _
  refine wp_seq ?_
  refine wp_region ?_
  refine opsP (N := 25) (T := TT) (M := (fun _ _ => none)) tabOk (fun _ _ _ h => by cases h) [2, 3, 4, 5, 6, 7, 8, 9, 10, 11, 12, 13, 14, 15, 16] [0, 1] [(0, .v (.pointer (some ⟨p, 0, none⟩))), (4, .v (Value.pointer none)), (8, .v (.pointer (some ⟨p, 0, none⟩))), (9, .v (.pointer (some ⟨p, 0, none⟩)))] h3 (by kernel_rfl) ⟨by kernel_rfl, by kernel_rfl, by kernel_rfl, by kernel_rfl, trivial⟩ (fun a4 h4 d4 => ?_)
  replace d4 := d4.trans d3
  clear h3 d3
  refine givenW_ops (N := 25) (i := 2) (d := 10) (s := .v (.pointer (some ⟨p, 0, none⟩))) (l := [3, 4, 5, 6, 7, 8, 9, 10, 11, 12, 13, 14, 15, 16]) rfl (want_ rfl) rfl (by decide) h4 (op_nilCheck rfl (h4.2 9 _ rfl)) (fun a5 h5 d5 => ?_)
  replace d5 := d5.trans d4
  clear h4 d4
  refine givenW_ops (N := 25) (i := 3) (d := 11) (s := .v (.pointer (some ⟨p, 1, none⟩))) (l := [4, 5, 6, 7, 8, 9, 10, 11, 12, 13, 14, 15, 16]) rfl (want_ rfl) rfl (by decide) h5 (op_fAbs rfl (h5.2 10 _ rfl)) (fun a6 h6 d6 => ?_)
  replace d6 := d6.trans d5
  clear h5 d5
  refine givenW_ops (N := 25) (i := 4) (d := 12) (s := .v (.slice A n c)) (l := [5, 6, 7, 8, 9, 10, 11, 12, 13, 14, 15, 16]) rfl (want_ rfl) rfl (by decide) h6 (op_load rfl (h6.2 11 _ rfl) Try.isAgg47 hI.abs) (fun a7 h7 d7 => ?_)
  replace d7 := d7.trans d6
  clear h6 d6
  refine givenW_ops (N := 25) (i := 5) (d := 13) (s := .v (.int .i64 ((n : Nat) : Int))) (l := [6, 7, 8, 9, 10, 11, 12, 13, 14, 15, 16]) rfl (want_ rfl) rfl (by decide) h7 (op_len rfl Try.underlying47 (h7.2 12 _ rfl)) (fun a8 h8 d8 => ?_)
  replace d8 := d8.trans d7
  clear h7 d7
  refine opsP (N := 25) (T := TT) (M := (fun _ _ => none)) tabOk (fun _ _ _ h => by cases h) [7, 8, 9, 10, 11, 12, 13, 14, 15, 16] [6] [(0, .v (.pointer (some ⟨p, 0, none⟩))), (4, .v (Value.pointer none)), (8, .v (.pointer (some ⟨p, 0, none⟩))), (9, .v (.pointer (some ⟨p, 0, none⟩))), (10, .v (.pointer (some ⟨p, 0, none⟩))), (11, .v (.pointer (some ⟨p, 1, none⟩))), (12, .v (.slice A n c)), (13, .v (.int .i64 ((n : Nat) : Int))), (14, .v (.bool (decide ((((n : Nat) : Int) : Int) > 0))))] h8 (by kernel_rfl) ⟨by kernel_rfl, by kernel_rfl, by kernel_rfl, by kernel_rfl, by kernel_rfl, by kernel_rfl, by kernel_rfl, by kernel_rfl, by kernel_rfl, trivial⟩ (fun a9 h9 d9 => ?_)
  replace d9 := d9.trans d8
  clear h8 d8
  rw [show (decide ((((n : Nat) : Int) : Int) > 0)) = true from decide_eq_true (by omega)] at h9
  refine opsP (N := 25) (T := TT) (M := (fun _ _ => none)) tabOk (fun _ _ _ h => by cases h) [8, 9, 10, 11, 12, 13, 14, 15, 16] [7] [(0, .v (.pointer (some ⟨p, 0, none⟩))), (4, .v (Value.pointer none)), (8, .v (.pointer (some ⟨p, 0, none⟩))), (9, .v (.pointer (some ⟨p, 0, none⟩))), (10, .v (.pointer (some ⟨p, 0, none⟩))), (11, .v (.pointer (some ⟨p, 1, none⟩))), (12, .v (.slice A n c)), (13, .v (.int .i64 ((n : Nat) : Int))), (14, .v (.bool true)), (15, .v (.bool true))] h9 (by kernel_rfl) ⟨by kernel_rfl, by kernel_rfl, by kernel_rfl, by kernel_rfl, by kernel_rfl, by kernel_rfl, by kernel_rfl, by kernel_rfl, by kernel_rfl, by kernel_rfl, trivial⟩ (fun a10 h10 d10 => ?_)
  replace d10 := d10.trans d9
  clear h9 d9
  refine guard_ops (N := 25) (T := TT) (M := (fun _ _ => none)) tabOk (i := 8) (d := 16) (j := 7) (dj := 15) (b := true) (s := .v (.pointer (some ⟨p, 0, none⟩))) (l := [9, 10, 11, 12, 13, 14, 15, 16]) (fun _ _ _ h => by cases h) rfl rfl rfl rfl rfl (by decide) h10 (by kernel_rfl) (fun a11 h11 d11 => ?_)
  replace d11 := d11.trans d10
  clear h10 d10
  refine givenW_ops (N := 25) (i := 9) (d := 17) (s := .v (.pointer (some ⟨p, 0, none⟩))) (l := [10, 11, 12, 13, 14, 15, 16]) rfl (want_g h11 (j := 7) (d := 15) (b := true) rfl rfl rfl) rfl (by decide) h11 (op_nilCheck rfl (h11.2 16 _ rfl)) (fun a12 h12 d12 => ?_)
  replace d12 := d12.trans d11
  clear h11 d11
  refine givenW_ops (N := 25) (i := 10) (d := 18) (s := .v (.pointer (some ⟨p, 0, none⟩))) (l := [11, 12, 13, 14, 15, 16]) rfl (want_g h12 (j := 7) (d := 15) (b := true) rfl rfl rfl) rfl (by decide) h12 (op_fNeg rfl (h12.2 17 _ rfl)) (fun a13 h13 d13 => ?_)
  replace d13 := d13.trans d12
  clear h12 d12
  refine givenW_ops (N := 25) (i := 11) (d := 19) (s := .v (.bool false)) (l := [12, 13, 14, 15, 16]) rfl (want_g h13 (j := 7) (d := 15) (b := true) rfl rfl rfl) rfl (by decide) h13 (op_load rfl (h13.2 18 _ rfl) Try.isAgg4 hI.neg) (fun a14 h14 d14 => ?_)
  replace d14 := d14.trans d13
  clear h13 d13
  refine guard_ops (N := 25) (T := TT) (M := (fun _ _ => none)) tabOk (i := 12) (d := 20) (j := 7) (dj := 15) (b := true) (s := .v (.bool true)) (l := [13, 14, 15, 16]) (fun _ _ _ h => by cases h) rfl rfl rfl rfl rfl (by decide) h14 (by kernel_rfl) (fun a15 h15 d15 => ?_)
  replace d15 := d15.trans d14
  clear h14 d14
  refine givenW_ops (N := 25) (i := 13) (d := 21) (s := .v (.bool true)) (l := [14, 15, 16]) rfl (want_ rfl) rfl (by decide) h15 (op_pickT rfl (h15.2 15 _ rfl) (h15.2 20 _ rfl)) (fun a16 h16 d16 => ?_)
  replace d16 := d16.trans d15
  clear h15 d15
  refine givenW_ops (N := 25) (i := 14) (d := 22) (s := .v (.pointer (some ⟨p, 0, none⟩))) (l := [15, 16]) rfl (want_ rfl) rfl (by decide) h16 (op_nilCheck rfl (h16.2 8 _ rfl)) (fun a17 h17 d17 => ?_)
  replace d17 := d17.trans d16
  clear h16 d16
  refine givenW_ops (N := 25) (i := 15) (d := 23) (s := .v (.pointer (some ⟨p, 0, none⟩))) (l := [16]) rfl (want_ rfl) rfl (by decide) h17 (op_fNeg rfl (h17.2 22 _ rfl)) (fun a18 h18 d18 => ?_)
  replace d18 := d18.trans d17
  clear h17 d17
  have hI2 := hI.setNeg true
  have hF2 := Fr.setc (W := w) p 0 (.bool true)
  refine st_ops (i := 16) (l := []) rfl rfl rfl (op_store rfl (h18.2 23 _ rfl) (h18.2 21 _ rfl) (Or.inr ⟨_, rfl⟩) Try.sizeOf4 hI.neg (hI.frozen 0)) ?_
  show Code.wp _ _ _ _ _
  refine wp_seq ?_
  refine wp_region ?_
  refine opsP (N := 25) (T := TT) (M := (fun _ _ => none)) tabOk (fun _ _ _ h => by cases h) [] [0, 1] [(0, .v (.pointer (some ⟨p, 0, none⟩))), (4, .v (.pointer (some ⟨p, 0, none⟩)))] h18 (by kernel_rfl) ⟨by kernel_rfl, by kernel_rfl, trivial⟩ (fun a19 h19 d19 => ?_)
  replace d19 := d19.trans d18
  clear h18 d18
  show Code.wp _ _ _ _ _
  refine wp_ret ?_
  exact ⟨d19, _, results_tmp rfl _ _ _, congrArg Ending.returned (h19.2 4 _ rfl), hI2, hF2⟩
set_option maxHeartbeats 8000000 in
set_option maxRecDepth 100000 in
theorem setB_nil (p : Nat) (b : Bool) (A : Option Addr) (c : Nat) (w : World) (hI : IB w p b (.slice none 0 0)) :
    Calls Try.prog 18 #[.pointer (some ⟨p, 0, none⟩), .slice A 0 c] w fun e w' => e = .returned (.pointer (some ⟨p, 0, none⟩)) ∧ IB w' p false (.slice none 0 0) ∧ Fr [p] w w' := by
  refine calls_of_wp Try.func18 rfl ?_
  have h0 := has_two (β := bn []) (.v (.pointer (some ⟨p, 0, none⟩))) (.v (.slice A 0 c)) 16
  have d0 : (⟨#[.pointer (some ⟨p, 0, none⟩), .slice A 0 c] ++ Array.replicate 16 undef, []⟩ : Act).defers = [] := rfl
  refine wp_seq ?_
  refine wp_region ?_
  refine opsP (N := 18) (T := TT) (M := (fun _ _ => none)) tabOk (fun _ _ _ h => by cases h) [] [0] [(0, .v (.pointer (some ⟨p, 0, none⟩))), (1, .v (.slice A 0 c)), (4, .v (Value.pointer none))] h0 (by kernel_rfl) ⟨by kernel_rfl, by kernel_rfl, by kernel_rfl, trivial⟩ (fun a1 h1 d1 => ?_)
  replace d1 := d1.trans d0
  clear h0 d0
  show Code.wp _ _ _ _ _
  refine wp_seq ?_
  refine wp_region ?_
  refine opsP (N := 18) (T := TT) (M := (fun _ _ => none)) tabOk (fun _ _ _ h => by cases h) [2, 3, 4, 5, 6, 7, 8, 9] [0, 1] [(0, .v (.pointer (some ⟨p, 0, none⟩))), (1, .v (.slice A 0 c)), (4, .v (Value.pointer none)), (5, .v (.pointer (some ⟨p, 0, none⟩))), (6, .v (.pointer (some ⟨p, 0, none⟩)))] h1 (by kernel_rfl) ⟨by kernel_rfl, by kernel_rfl, by kernel_rfl, by kernel_rfl, by kernel_rfl, trivial⟩ (fun a2 h2 d2 => ?_)
  replace d2 := d2.trans d1
  clear h1 d1
  refine givenW_ops (N := 18) (i := 2) (d := 7) (s := .v (.pointer (some ⟨p, 0, none⟩))) (l := [3, 4, 5, 6, 7, 8, 9]) rfl (want_ rfl) rfl (by decide) h2 (op_nilCheck rfl (h2.2 6 _ rfl)) (fun a3 h3 d3 => ?_)
  replace d3 := d3.trans d2
  clear h2 d2
  refine givenW_ops (N := 18) (i := 3) (d := 8) (s := .v (.pointer (some ⟨p, 1, none⟩))) (l := [4, 5, 6, 7, 8, 9]) rfl (want_ rfl) rfl (by decide) h3 (op_fAbs rfl (h3.2 7 _ rfl)) (fun a4 h4 d4 => ?_)
  replace d4 := d4.trans d3
  clear h3 d3
  refine givenW_ops (N := 18) (i := 4) (d := 9) (s := .v (.slice none 0 0)) (l := [5, 6, 7, 8, 9]) rfl (want_ rfl) rfl (by decide) h4 (op_load rfl (h4.2 8 _ rfl) Try.isAgg47 hI.abs) (fun a5 h5 d5 => ?_)
  replace d5 := d5.trans d4
  clear h4 d4
  refine opsP (N := 18) (T := TT) (M := (fun _ _ => none)) tabOk (fun _ _ _ h => by cases h) [6, 7, 8, 9] [5] [(0, .v (.pointer (some ⟨p, 0, none⟩))), (1, .v (.slice A 0 c)), (4, .v (Value.pointer none)), (5, .v (.pointer (some ⟨p, 0, none⟩))), (6, .v (.pointer (some ⟨p, 0, none⟩))), (7, .v (.pointer (some ⟨p, 0, none⟩))), (8, .v (.pointer (some ⟨p, 1, none⟩))), (9, .v (.slice none 0 0)), (10, .v (.slice A 0 c))] h5 (by kernel_rfl) ⟨by kernel_rfl, by kernel_rfl, by kernel_rfl, by kernel_rfl, by kernel_rfl, by kernel_rfl, by kernel_rfl, by kernel_rfl, by kernel_rfl, trivial⟩ (fun a6 h6 d6 => ?_)
  replace d6 := d6.trans d5
  clear h5 d5
  refine callW_ops (N := 18) (i := 6) (d := 11) (f := 31) (args := [.v (.slice none 0 0), .v (.slice A 0 c)]) (l := [7, 8, 9]) rfl (want_ rfl) rfl (by decide) h6 Try.func31 rfl rfl rfl (by kernel_rfl) (fun (v : Value) (W' : World) => v = .slice none 0 0 ∧ W' = w) ((sb_nil A c w).mono fun e w' hh => ⟨_, hh.1, rfl, hh.2⟩) (fun v7 W7 a7 hR7 h7 d7 => ?_)
  replace d7 := d7.trans d6
  clear h6 d6
  obtain ⟨rfl, e1⟩ := hR7
  obtain rfl := e1.symm
  have hI1 := hI
  have hF1 := Fr.refl [p] w
  refine givenW_ops (N := 18) (i := 7) (d := 12) (s := .v (.pointer (some ⟨p, 0, none⟩))) (l := [8, 9]) rfl (want_ rfl) rfl (by decide) h7 (op_nilCheck rfl (h7.2 5 _ rfl)) (fun a8 h8 d8 => ?_)
  replace d8 := d8.trans d7
  clear h7 d7
  refine givenW_ops (N := 18) (i := 8) (d := 13) (s := .v (.pointer (some ⟨p, 1, none⟩))) (l := [9]) rfl (want_ rfl) rfl (by decide) h8 (op_fAbs rfl (h8.2 12 _ rfl)) (fun a9 h9 d9 => ?_)
  replace d9 := d9.trans d8
  clear h8 d8
  have hI2 := hI1.setAbs (.slice none 0 0)
  have hF2 := hF1.trans (Fr.setc p 1 (.slice none 0 0))
  refine st_ops (i := 9) (l := []) rfl rfl rfl (store_cell rfl (h9.2 13 _ rfl) (h9.2 11 _ rfl) Try.sizeOf47 (hI1.frozen 1) hI1.abs) ?_
  show Code.wp _ _ _ _ _
  refine wp_seq ?_
  refine wp_region ?_
  refine opsP (N := 18) (T := TT) (M := (fun _ _ => none)) tabOk (fun _ _ _ h => by cases h) [1, 2, 3] [0] [(0, .v (.pointer (some ⟨p, 0, none⟩))), (4, .v (Value.pointer none)), (14, .v (.pointer (some ⟨p, 0, none⟩)))] h9 (by kernel_rfl) ⟨by kernel_rfl, by kernel_rfl, by kernel_rfl, trivial⟩ (fun a10 h10 d10 => ?_)
  replace d10 := d10.trans d9
  clear h9 d9
  refine givenW_ops (N := 18) (i := 1) (d := 15) (s := .v (.pointer (some ⟨p, 0, none⟩))) (l := [2, 3]) rfl (want_ rfl) rfl (by decide) h10 (op_nilCheck rfl (h10.2 14 _ rfl)) (fun a11 h11 d11 => ?_)
  replace d11 := d11.trans d10
  clear h10 d10
  refine givenW_ops (N := 18) (i := 2) (d := 16) (s := .v (.pointer (some ⟨p, 0, none⟩))) (l := [3]) rfl (want_ rfl) rfl (by decide) h11 (op_fNeg rfl (h11.2 15 _ rfl)) (fun a12 h12 d12 => ?_)
  replace d12 := d12.trans d11
  clear h11 d11
  have hI3 := hI2.setNeg false
  have hF3 := hF2.trans (Fr.setc p 0 (.bool false))
  refine st_ops (i := 3) (l := []) rfl rfl rfl (op_store rfl (h12.2 16 _ rfl) rfl (Or.inr ⟨_, rfl⟩) Try.sizeOf4 hI2.neg (hI2.frozen 0)) ?_
  show Code.wp _ _ _ _ _
  refine wp_seq ?_
  refine wp_region ?_
  refine opsP (N := 18) (T := TT) (M := (fun _ _ => none)) tabOk (fun _ _ _ h => by cases h) [] [0, 1] [(0, .v (.pointer (some ⟨p, 0, none⟩))), (4, .v (.pointer (some ⟨p, 0, none⟩)))] h12 (by kernel_rfl) ⟨by kernel_rfl, by kernel_rfl, trivial⟩ (fun a13 h13 d13 => ?_)
  replace d13 := d13.trans d12
  clear h12 d12
  show Code.wp _ _ _ _ _
  refine wp_ret ?_
  exact ⟨d13, _, results_tmp rfl _ _ _, congrArg Ending.returned (h13.2 4 _ rfl), hI3, hF3⟩
set_option maxHeartbeats 8000000 in
set_option maxRecDepth 100000 in
theorem setB_some (p : Nat) (b : Bool) (A : Option Addr) (n c : Nat) (l : List Nat) (hl : l.length = n) (hc : n ≤ c) (h8 : ∀ o ∈ l, o < 256) (hn : n < 900) (h0 : 0 < n) (w : World) (hI : IB w p b (.slice none 0 0)) (h : Oc w A l) :
    Calls Try.prog 18 #[.pointer (some ⟨p, 0, none⟩), .slice A n c] w fun e w' => e = .returned (.pointer (some ⟨p, 0, none⟩)) ∧ IB w' p false (.slice (some ⟨w.heap.size, 0, none⟩) (topN (fm (wV (beN l)) (capN ((n + 7) / 8))) ((n + 7) / 8)) (capN ((n + 7) / 8))) ∧ Wd w' w.heap.size (fm (wV (beN l)) (capN ((n + 7) / 8))) ∧ Fr [p] w w' := by
  refine calls_of_wp Try.func18 rfl ?_
  have h0 := has_two (β := bn []) (.v (.pointer (some ⟨p, 0, none⟩))) (.v (.slice A n c)) 16
  have d0 : (⟨#[.pointer (some ⟨p, 0, none⟩), .slice A n c] ++ Array.replicate 16 undef, []⟩ : Act).defers = [] := rfl
  refine wp_seq ?_
  refine wp_region ?_
  refine opsP (N := 18) (T := TT) (M := (fun _ _ => none)) tabOk (fun _ _ _ h => by cases h) [] [0] [(0, .v (.pointer (some ⟨p, 0, none⟩))), (1, .v (.slice A n c)), (4, .v (Value.pointer none))] h0 (by kernel_rfl) ⟨by kernel_rfl, by kernel_rfl, by kernel_rfl, trivial⟩ (fun a1 h1 d1 => ?_)
  replace d1 := d1.trans d0
  clear h0 d0
  show Code.wp _ _ _ _ _
  refine wp_seq ?_
  refine wp_region ?_
  refine opsP (N := 18) (T := TT) (M := (fun _ _ => none)) tabOk (fun _ _ _ h => by cases h) [2, 3, 4, 5, 6, 7, 8, 9] [0, 1] [(0, .v (.pointer (some ⟨p, 0, none⟩))), (1, .v (.slice A n c)), (4, .v (Value.pointer none)), (5, .v (.pointer (some ⟨p, 0, none⟩))), (6, .v (.pointer (some ⟨p, 0, none⟩)))] h1 (by kernel_rfl) ⟨by kernel_rfl, by kernel_rfl, by kernel_rfl, by kernel_rfl, by kernel_rfl, trivial⟩ (fun a2 h2 d2 => ?_)
  replace d2 := d2.trans d1
  clear h1 d1
  refine givenW_ops (N := 18) (i := 2) (d := 7) (s := .v (.pointer (some ⟨p, 0, none⟩))) (l := [3, 4, 5, 6, 7, 8, 9]) rfl (want_ rfl) rfl (by decide) h2 (op_nilCheck rfl (h2.2 6 _ rfl)) (fun a3 h3 d3 => ?_)
  replace d3 := d3.trans d2
  clear h2 d2
  refine givenW_ops (N := 18) (i := 3) (d := 8) (s := .v (.pointer (some ⟨p, 1, none⟩))) (l := [4, 5, 6, 7, 8, 9]) rfl (want_ rfl) rfl (by decide) h3 (op_fAbs rfl (h3.2 7 _ rfl)) (fun a4 h4 d4 => ?_)
  replace d4 := d4.trans d3
  clear h3 d3
  refine givenW_ops (N := 18) (i := 4) (d := 9) (s := .v (.slice none 0 0)) (l := [5, 6, 7, 8, 9]) rfl (want_ rfl) rfl (by decide) h4 (op_load rfl (h4.2 8 _ rfl) Try.isAgg47 hI.abs) (fun a5 h5 d5 => ?_)
  replace d5 := d5.trans d4
  clear h4 d4
  refine opsP (N := 18) (T := TT) (M := (fun _ _ => none)) tabOk (fun _ _ _ h => by cases h) [6, 7, 8, 9] [5] [(0, .v (.pointer (some ⟨p, 0, none⟩))), (1, .v (.slice A n c)), (4, .v (Value.pointer none)), (5, .v (.pointer (some ⟨p, 0, none⟩))), (6, .v (.pointer (some ⟨p, 0, none⟩))), (7, .v (.pointer (some ⟨p, 0, none⟩))), (8, .v (.pointer (some ⟨p, 1, none⟩))), (9, .v (.slice none 0 0)), (10, .v (.slice A n c))] h5 (by kernel_rfl) ⟨by kernel_rfl, by kernel_rfl, by kernel_rfl, by kernel_rfl, by kernel_rfl, by kernel_rfl, by kernel_rfl, by kernel_rfl, by kernel_rfl, trivial⟩ (fun a6 h6 d6 => ?_)
  replace d6 := d6.trans d5
  clear h5 d5
  refine callW_ops (N := 18) (i := 6) (d := 11) (f := 31) (args := [.v (.slice none 0 0), .v (.slice A n c)]) (l := [7, 8, 9]) rfl (want_ rfl) rfl (by decide) h6 Try.func31 rfl rfl rfl (by kernel_rfl) (fun (v : Value) (W' : World) => v = .slice (some ⟨w.heap.size, 0, none⟩) (topN (fm (wV (beN l)) (capN ((n + 7) / 8))) ((n + 7) / 8)) (capN ((n + 7) / 8)) ∧ Wd W' w.heap.size (fm (wV (beN l)) (capN ((n + 7) / 8))) ∧ Below w.heap.size w W') ((sb_some A n c l hl hc h8 hn h0 w h).mono fun e w' hh => ⟨_, hh.1, rfl, hh.2⟩) (fun v7 W7 a7 hR7 h7 d7 => ?_)
  replace d7 := d7.trans d6
  clear h6 d6
  obtain ⟨rfl, hw, hB⟩ := hR7
  have hI1 := hI.below hB
  have hF1 := Fr.ofBelow [p] hB
  have hne : w.heap.size ≠ p := fun e => by have := hI.lt; omega
  refine givenW_ops (N := 18) (i := 7) (d := 12) (s := .v (.pointer (some ⟨p, 0, none⟩))) (l := [8, 9]) rfl (want_ rfl) rfl (by decide) h7 (op_nilCheck rfl (h7.2 5 _ rfl)) (fun a8 h8 d8 => ?_)
  replace d8 := d8.trans d7
  clear h7 d7
  refine givenW_ops (N := 18) (i := 8) (d := 13) (s := .v (.pointer (some ⟨p, 1, none⟩))) (l := [9]) rfl (want_ rfl) rfl (by decide) h8 (op_fAbs rfl (h8.2 12 _ rfl)) (fun a9 h9 d9 => ?_)
  replace d9 := d9.trans d8
  clear h8 d8
  have hI2 := hI1.setAbs (.slice (some ⟨w.heap.size, 0, none⟩) (topN (fm (wV (beN l)) (capN ((n + 7) / 8))) ((n + 7) / 8)) (capN ((n + 7) / 8)))
  have hF2 := hF1.trans (Fr.setc p 1 (.slice (some ⟨w.heap.size, 0, none⟩) (topN (fm (wV (beN l)) (capN ((n + 7) / 8))) ((n + 7) / 8)) (capN ((n + 7) / 8))))
  have hw2 := hw.on (Fr.setc p 1 (.slice (some ⟨w.heap.size, 0, none⟩) (topN (fm (wV (beN l)) (capN ((n + 7) / 8))) ((n + 7) / 8)) (capN ((n + 7) / 8)))) (by simpa using hne)
  refine st_ops (i := 9) (l := []) rfl rfl rfl (store_cell rfl (h9.2 13 _ rfl) (h9.2 11 _ rfl) Try.sizeOf47 (hI1.frozen 1) hI1.abs) ?_
  show Code.wp _ _ _ _ _
  refine wp_seq ?_
  refine wp_region ?_
  refine opsP (N := 18) (T := TT) (M := (fun _ _ => none)) tabOk (fun _ _ _ h => by cases h) [1, 2, 3] [0] [(0, .v (.pointer (some ⟨p, 0, none⟩))), (4, .v (Value.pointer none)), (14, .v (.pointer (some ⟨p, 0, none⟩)))] h9 (by kernel_rfl) ⟨by kernel_rfl, by kernel_rfl, by kernel_rfl, trivial⟩ (fun a10 h10 d10 => ?_)
  replace d10 := d10.trans d9
  clear h9 d9
  refine givenW_ops (N := 18) (i := 1) (d := 15) (s := .v (.pointer (some ⟨p, 0, none⟩))) (l := [2, 3]) rfl (want_ rfl) rfl (by decide) h10 (op_nilCheck rfl (h10.2 14 _ rfl)) (fun a11 h11 d11 => ?_)
  replace d11 := d11.trans d10
  clear h10 d10
  refine givenW_ops (N := 18) (i := 2) (d := 16) (s := .v (.pointer (some ⟨p, 0, none⟩))) (l := [3]) rfl (want_ rfl) rfl (by decide) h11 (op_fNeg rfl (h11.2 15 _ rfl)) (fun a12 h12 d12 => ?_)
  replace d12 := d12.trans d11
  clear h11 d11
  have hI3 := hI2.setNeg false
  have hF3 := hF2.trans (Fr.setc p 0 (.bool false))
  have hw3 := hw2.on (Fr.setc p 0 (.bool false)) (by simpa using hne)
  refine st_ops (i := 3) (l := []) rfl rfl rfl (op_store rfl (h12.2 16 _ rfl) rfl (Or.inr ⟨_, rfl⟩) Try.sizeOf4 hI2.neg (hI2.frozen 0)) ?_
  show Code.wp _ _ _ _ _
  refine wp_seq ?_
  refine wp_region ?_
  refine opsP (N := 18) (T := TT) (M := (fun _ _ => none)) tabOk (fun _ _ _ h => by cases h) [] [0, 1] [(0, .v (.pointer (some ⟨p, 0, none⟩))), (4, .v (.pointer (some ⟨p, 0, none⟩)))] h12 (by kernel_rfl) ⟨by kernel_rfl, by kernel_rfl, trivial⟩ (fun a13 h13 d13 => ?_)
  replace d13 := d13.trans d12
  clear h12 d12
  show Code.wp _ _ _ _ _
  refine wp_ret ?_
  exact ⟨d13, _, results_tmp rfl _ _ _, congrArg Ending.returned (h13.2 4 _ rfl), hI3, hw3, hF3⟩
end Go.Proofs.Ytjmgiodkfgdgnaa.PAll
namespace Go.Proofs.Ytjmgiodkfgdgnaa.PAll
open Go.RowKit Go.Proofs.YtjmgiodkfgdgnaaW.PrintWords Go.Proofs.YtjmgiodkfgdgnaaW.PrintLast Go.Proofs.YtjmgiodkfgdgnaaW.PrintMore
set_option linter.unusedVariables false
set_option linter.unusedSimpArgs false
theorem i_sub1 (n : Nat) (h : n < 1000) : IntKind.i64.wrap (((n : Nat) : Int) - 1) = ((n : Nat) : Int) - 1 := by
  rw [IntKind.wrap_i64]
  omega
theorem layW_one (m : List Int) (x : Int) (h : 0 < m.length) : (layW m 0 [x]).getD 0 0 = x := by
  unfold layW
  simp
theorem layW_len (m : List Int) (x : Int) (h : 0 < m.length) : (layW m 0 [x]).length = m.length := by
  unfold layW
  simp
  omega
set_option maxHeartbeats 8000000 in
set_option maxRecDepth 100000 in
theorem rsh_low (A : Option Addr) (n c : Nat) (hn : n ≤ 1) (w : World) :
    Calls Try.prog 50 #[.slice A n c, .slice A n c, .int .u64 64] w fun e w' => e = .returned (.slice A 0 c) ∧ w' = w := by
  refine calls_of_wp Try.func50 rfl ?_
  have h0 := has_three (β := bn []) (.v (.slice A n c)) (.v (.slice A n c)) (.v (.int .u64 64)) 54
  have d0 : (⟨#[.slice A n c, .slice A n c, .int .u64 64] ++ Array.replicate 54 undef, []⟩ : Act).defers = [] := rfl
  refine wp_seq ?_
  refine wp_region ?_
  refine opsP (N := 57) (T := TT) (M := (fun _ _ => none)) tabOk (fun _ _ _ h => by cases h) [] [0] [(0, .v (.slice A n c)), (1, .v (.slice A n c)), (2, .v (.int .u64 64)), (6, .v (Value.slice none 0 0))] h0 (by kernel_rfl) ⟨by kernel_rfl, by kernel_rfl, by kernel_rfl, by kernel_rfl, trivial⟩ (fun a1 h1 d1 => ?_)
  replace d1 := d1.trans d0
  clear h0 d0
  show Code.wp _ _ _ _ _
  refine wp_seq ?_
  refine wp_seq ?_
  refine wp_region ?_
  refine opsP (N := 57) (T := TT) (M := (fun _ _ => none)) tabOk (fun _ _ _ h => by cases h) [] [0, 1] [(0, .v (.slice A n c)), (1, .v (.slice A n c)), (2, .v (.int .u64 64)), (6, .v (Value.slice none 0 0)), (10, .v (.bool false))] h1 (by kernel_rfl) ⟨by kernel_rfl, by kernel_rfl, by kernel_rfl, by kernel_rfl, by kernel_rfl, trivial⟩ (fun a2 h2 d2 => ?_)
  replace d2 := d2.trans d1
  clear h1 d1
  show Code.wp _ _ _ _ _
  refine wp_cond_false (h2.2 10 _ rfl) ?_
  refine wp_skip ?_
  show Code.wp _ _ _ _ _
  refine wp_seq ?_
  refine wp_region ?_
  refine opsP (N := 57) (T := TT) (M := (fun _ _ => none)) tabOk (fun _ _ _ h => by cases h) [1, 2] [0] [(0, .v (.slice A n c)), (1, .v (.slice A n c)), (2, .v (.int .u64 64)), (6, .v (Value.slice none 0 0)), (10, .v (.bool false)), (22, .v (.slice A n c))] h2 (by kernel_rfl) ⟨by kernel_rfl, by kernel_rfl, by kernel_rfl, by kernel_rfl, by kernel_rfl, by kernel_rfl, trivial⟩ (fun a3 h3 d3 => ?_)
  replace d3 := d3.trans d2
  clear h2 d2
  refine givenW_ops (N := 57) (i := 1) (d := 23) (s := .v (.int .i64 ((n : Nat) : Int))) (l := [2]) rfl (want_ rfl) rfl (by decide) h3 (op_len rfl Try.underlying47 (h3.2 22 _ rfl)) (fun a4 h4 d4 => ?_)
  replace d4 := d4.trans d3
  clear h3 d3
  refine opsP (N := 57) (T := TT) (M := (fun _ _ => none)) tabOk (fun _ _ _ h => by cases h) [] [2] [(0, .v (.slice A n c)), (1, .v (.slice A n c)), (2, .v (.int .u64 64)), (6, .v (Value.slice none 0 0)), (7, .v (.int .i64 ((n : Nat) : Int))), (10, .v (.bool false))] h4 (by kernel_rfl) ⟨by kernel_rfl, by kernel_rfl, by kernel_rfl, by kernel_rfl, by kernel_rfl, by kernel_rfl, trivial⟩ (fun a5 h5 d5 => ?_)
  replace d5 := d5.trans d4
  clear h4 d4
  show Code.wp _ _ _ _ _
  refine wp_seq ?_
  refine wp_region ?_
  refine opsP (N := 57) (T := TT) (M := (fun _ _ => none)) tabOk (fun _ _ _ h => by cases h) [5] [0, 1, 2, 3, 4] [(0, .v (.slice A n c)), (1, .v (.slice A n c)), (2, .v (.int .u64 64)), (6, .v (Value.slice none 0 0)), (7, .v (.int .i64 ((n : Nat) : Int))), (10, .v (.bool false)), (24, .v (.int .i64 ((n : Nat) : Int))), (25, .v (.int .u64 64)), (26, .v (.int .u64 1)), (27, .v (.int .i64 1)), (28, .v (.int .i64 (IntKind.i64.wrap (((n : Nat) : Int) - 1))))] h5 (by kernel_rfl) ⟨by kernel_rfl, by kernel_rfl, by kernel_rfl, by kernel_rfl, by kernel_rfl, by kernel_rfl, by kernel_rfl, by kernel_rfl, by kernel_rfl, by kernel_rfl, by kernel_rfl, trivial⟩ (fun a6 h6 d6 => ?_)
  replace d6 := d6.trans d5
  clear h5 d5
  rw [show (IntKind.i64.wrap (((n : Nat) : Int) - 1)) = (((n : Nat) : Int) - 1) from i_sub1 n (by omega)] at h6
  refine opsP (N := 57) (T := TT) (M := (fun _ _ => none)) tabOk (fun _ _ _ h => by cases h) [] [5] [(0, .v (.slice A n c)), (1, .v (.slice A n c)), (2, .v (.int .u64 64)), (6, .v (Value.slice none 0 0)), (7, .v (.int .i64 ((n : Nat) : Int))), (8, .v (.int .i64 (((n : Nat) : Int) - 1))), (10, .v (.bool false))] h6 (by kernel_rfl) ⟨by kernel_rfl, by kernel_rfl, by kernel_rfl, by kernel_rfl, by kernel_rfl, by kernel_rfl, by kernel_rfl, trivial⟩ (fun a7 h7 d7 => ?_)
  replace d7 := d7.trans d6
  clear h6 d6
  show Code.wp _ _ _ _ _
  refine wp_seq ?_
  refine wp_seq ?_
  refine wp_region ?_
  refine opsP (N := 57) (T := TT) (M := (fun _ _ => none)) tabOk (fun _ _ _ h => by cases h) [] [0, 1] [(0, .v (.slice A n c)), (1, .v (.slice A n c)), (2, .v (.int .u64 64)), (6, .v (Value.slice none 0 0)), (7, .v (.int .i64 ((n : Nat) : Int))), (8, .v (.int .i64 (((n : Nat) : Int) - 1))), (10, .v (.bool false)), (30, .v (.bool (decide (((((n : Nat) : Int) - 1) : Int) ≤ 0))))] h7 (by kernel_rfl) ⟨by kernel_rfl, by kernel_rfl, by kernel_rfl, by kernel_rfl, by kernel_rfl, by kernel_rfl, by kernel_rfl, by kernel_rfl, trivial⟩ (fun a8 h8 d8 => ?_)
  replace d8 := d8.trans d7
  clear h7 d7
  rw [show (decide (((((n : Nat) : Int) - 1) : Int) ≤ 0)) = true from decide_eq_true (by omega)] at h8
  show Code.wp _ _ _ _ _
  refine wp_cond_true (h8.2 30 _ rfl) ?_
  refine wp_seq ?_
  refine wp_region ?_
  refine opsP (N := 57) (T := TT) (M := (fun _ _ => none)) tabOk (fun _ _ _ h => by cases h) [1, 2] [0] [(0, .v (.slice A n c)), (1, .v (.slice A n c)), (2, .v (.int .u64 64)), (6, .v (Value.slice none 0 0)), (7, .v (.int .i64 ((n : Nat) : Int))), (8, .v (.int .i64 (((n : Nat) : Int) - 1))), (10, .v (.bool false)), (30, .v (.bool true)), (31, .v (.slice A n c))] h8 (by kernel_rfl) ⟨by kernel_rfl, by kernel_rfl, by kernel_rfl, by kernel_rfl, by kernel_rfl, by kernel_rfl, by kernel_rfl, by kernel_rfl, by kernel_rfl, trivial⟩ (fun a9 h9 d9 => ?_)
  replace d9 := d9.trans d8
  clear h8 d8
  refine givenW_ops (N := 57) (i := 1) (d := 32) (s := .v (.slice A 0 c)) (l := [2]) rfl (want_ rfl) rfl (by decide) h9 (op_slh (h := 0) rfl sltNat (h9.2 31 _ rfl) rfl (Nat.zero_le _)) (fun a10 h10 d10 => ?_)
  replace d10 := d10.trans d9
  clear h9 d9
  refine opsP (N := 57) (T := TT) (M := (fun _ _ => none)) tabOk (fun _ _ _ h => by cases h) [] [2] [(0, .v (.slice A n c)), (1, .v (.slice A n c)), (2, .v (.int .u64 64)), (6, .v (.slice A 0 c)), (7, .v (.int .i64 ((n : Nat) : Int))), (8, .v (.int .i64 (((n : Nat) : Int) - 1))), (10, .v (.bool false)), (30, .v (.bool true))] h10 (by kernel_rfl) ⟨by kernel_rfl, by kernel_rfl, by kernel_rfl, by kernel_rfl, by kernel_rfl, by kernel_rfl, by kernel_rfl, by kernel_rfl, trivial⟩ (fun a11 h11 d11 => ?_)
  replace d11 := d11.trans d10
  clear h10 d10
  show Code.wp _ _ _ _ _
  refine wp_ret ?_
  exact ⟨d11, _, results_tmp rfl _ _ _, congrArg Ending.returned (h11.2 6 _ rfl), rfl⟩
set_option maxHeartbeats 8000000 in
set_option maxRecDepth 100000 in
theorem rsh_two (g c : Nat) (m : List Int) (hc : 2 ≤ c) (hm : 2 ≤ m.length) (hx : m.getD 1 0 ≠ 0) (w : World) (hw : Wd w g m) :
    Calls Try.prog 50 #[.slice (some ⟨g, 0, none⟩) 2 c, .slice (some ⟨g, 0, none⟩) 2 c, .int .u64 64] w fun e w' => e = .returned (.slice (some ⟨g, 0, none⟩) 1 c) ∧ Wd w' g (layW m 0 [m.getD 1 0]) ∧ Fr [g] w w' := by
  have hsrc : ∀ j, j < [m.getD 1 0].length → w.cell? ((⟨g, 1, none⟩ : Addr).add j) = some (.int .u64 ([m.getD 1 0].getD j 0)) := by
    intro j hj
    obtain rfl : j = 0 := by simp at hj; omega
    rw [addr_add]
    exact hw.cell (i := 1) (by omega)
  refine calls_of_wp Try.func50 rfl ?_
  have h0 := has_three (β := bn []) (.v (.slice (some ⟨g, 0, none⟩) 2 c)) (.v (.slice (some ⟨g, 0, none⟩) 2 c)) (.v (.int .u64 64)) 54
  have d0 : (⟨#[.slice (some ⟨g, 0, none⟩) 2 c, .slice (some ⟨g, 0, none⟩) 2 c, .int .u64 64] ++ Array.replicate 54 undef, []⟩ : Act).defers = [] := rfl
  refine wp_seq ?_
  refine wp_region ?_
  refine opsP (N := 57) (T := TT) (M := (fun _ _ => none)) tabOk (fun _ _ _ h => by cases h) [] [0] [(0, .v (.slice (some ⟨g, 0, none⟩) 2 c)), (1, .v (.slice (some ⟨g, 0, none⟩) 2 c)), (2, .v (.int .u64 64)), (6, .v (Value.slice none 0 0))] h0 (by kernel_rfl) ⟨by kernel_rfl, by kernel_rfl, by kernel_rfl, by kernel_rfl, trivial⟩ (fun a1 h1 d1 => ?_)
  replace d1 := d1.trans d0
  clear h0 d0
  show Code.wp _ _ _ _ _
  refine wp_seq ?_
  refine wp_seq ?_
  refine wp_region ?_
  refine opsP (N := 57) (T := TT) (M := (fun _ _ => none)) tabOk (fun _ _ _ h => by cases h) [] [0, 1] [(0, .v (.slice (some ⟨g, 0, none⟩) 2 c)), (1, .v (.slice (some ⟨g, 0, none⟩) 2 c)), (2, .v (.int .u64 64)), (6, .v (Value.slice none 0 0)), (10, .v (.bool false))] h1 (by kernel_rfl) ⟨by kernel_rfl, by kernel_rfl, by kernel_rfl, by kernel_rfl, by kernel_rfl, trivial⟩ (fun a2 h2 d2 => ?_)
  replace d2 := d2.trans d1
  clear h1 d1
  show Code.wp _ _ _ _ _
  refine wp_cond_false (h2.2 10 _ rfl) ?_
  refine wp_skip ?_
  show Code.wp _ _ _ _ _
  refine wp_seq ?_
  refine wp_region ?_
  refine opsP (N := 57) (T := TT) (M := (fun _ _ => none)) tabOk (fun _ _ _ h => by cases h) [1, 2] [0] [(0, .v (.slice (some ⟨g, 0, none⟩) 2 c)), (1, .v (.slice (some ⟨g, 0, none⟩) 2 c)), (2, .v (.int .u64 64)), (6, .v (Value.slice none 0 0)), (10, .v (.bool false)), (22, .v (.slice (some ⟨g, 0, none⟩) 2 c))] h2 (by kernel_rfl) ⟨by kernel_rfl, by kernel_rfl, by kernel_rfl, by kernel_rfl, by kernel_rfl, by kernel_rfl, trivial⟩ (fun a3 h3 d3 => ?_)
  replace d3 := d3.trans d2
  clear h2 d2
  refine givenW_ops (N := 57) (i := 1) (d := 23) (s := .v (.int .i64 2)) (l := [2]) rfl (want_ rfl) rfl (by decide) h3 ((op_len rfl Try.underlying47 (h3.2 22 _ rfl)).trans rfl) (fun a4 h4 d4 => ?_)
  replace d4 := d4.trans d3
  clear h3 d3
  refine opsP (N := 57) (T := TT) (M := (fun _ _ => none)) tabOk (fun _ _ _ h => by cases h) [] [2] [(0, .v (.slice (some ⟨g, 0, none⟩) 2 c)), (1, .v (.slice (some ⟨g, 0, none⟩) 2 c)), (2, .v (.int .u64 64)), (6, .v (Value.slice none 0 0)), (7, .v (.int .i64 2)), (10, .v (.bool false))] h4 (by kernel_rfl) ⟨by kernel_rfl, by kernel_rfl, by kernel_rfl, by kernel_rfl, by kernel_rfl, by kernel_rfl, trivial⟩ (fun a5 h5 d5 => ?_)
  replace d5 := d5.trans d4
  clear h4 d4
  show Code.wp _ _ _ _ _
  refine wp_seq ?_
  refine wp_region ?_
  refine opsP (N := 57) (T := TT) (M := (fun _ _ => none)) tabOk (fun _ _ _ h => by cases h) [] [0, 1, 2, 3, 4, 5] [(0, .v (.slice (some ⟨g, 0, none⟩) 2 c)), (1, .v (.slice (some ⟨g, 0, none⟩) 2 c)), (2, .v (.int .u64 64)), (6, .v (Value.slice none 0 0)), (7, .v (.int .i64 2)), (8, .v (.int .i64 1)), (10, .v (.bool false))] h5 (by kernel_rfl) ⟨by kernel_rfl, by kernel_rfl, by kernel_rfl, by kernel_rfl, by kernel_rfl, by kernel_rfl, by kernel_rfl, trivial⟩ (fun a6 h6 d6 => ?_)
  replace d6 := d6.trans d5
  clear h5 d5
  show Code.wp _ _ _ _ _
  refine wp_seq ?_
  refine wp_seq ?_
  refine wp_region ?_
  refine opsP (N := 57) (T := TT) (M := (fun _ _ => none)) tabOk (fun _ _ _ h => by cases h) [] [0, 1] [(0, .v (.slice (some ⟨g, 0, none⟩) 2 c)), (1, .v (.slice (some ⟨g, 0, none⟩) 2 c)), (2, .v (.int .u64 64)), (6, .v (Value.slice none 0 0)), (7, .v (.int .i64 2)), (8, .v (.int .i64 1)), (10, .v (.bool false)), (30, .v (.bool false))] h6 (by kernel_rfl) ⟨by kernel_rfl, by kernel_rfl, by kernel_rfl, by kernel_rfl, by kernel_rfl, by kernel_rfl, by kernel_rfl, by kernel_rfl, trivial⟩ (fun a7 h7 d7 => ?_)
  replace d7 := d7.trans d6
  clear h6 d6
  show Code.wp _ _ _ _ _
  refine wp_cond_false (h7.2 30 _ rfl) ?_
  refine wp_skip ?_
  show Code.wp _ _ _ _ _
  refine wp_seq ?_
  refine wp_region ?_
  refine opsP (N := 57) (T := TT) (M := (fun _ _ => none)) tabOk (fun _ _ _ h => by cases h) [2, 3] [0, 1] [(0, .v (.slice (some ⟨g, 0, none⟩) 2 c)), (1, .v (.slice (some ⟨g, 0, none⟩) 2 c)), (2, .v (.int .u64 64)), (6, .v (Value.slice none 0 0)), (7, .v (.int .i64 2)), (8, .v (.int .i64 1)), (10, .v (.bool false)), (30, .v (.bool false)), (33, .v (.slice (some ⟨g, 0, none⟩) 2 c)), (34, .v (.int .i64 1))] h7 (by kernel_rfl) ⟨by kernel_rfl, by kernel_rfl, by kernel_rfl, by kernel_rfl, by kernel_rfl, by kernel_rfl, by kernel_rfl, by kernel_rfl, by kernel_rfl, by kernel_rfl, trivial⟩ (fun a8 h8 d8 => ?_)
  replace d8 := d8.trans d7
  clear h7 d7
  refine callW_ops (N := 57) (i := 2) (d := 35) (f := 44) (args := [.v (.slice (some ⟨g, 0, none⟩) 2 c), .v (.int .i64 1)]) (l := [3]) rfl (want_ rfl) rfl (by decide) h8 Try.func44 rfl rfl rfl (by kernel_rfl) (fun (v : Value) (W' : World) => v = .slice (some ⟨g, 0, none⟩) 1 c ∧ W' = w) ((make_keep (some ⟨g, 0, none⟩) 2 1 c (by omega) w).mono fun e w' hh => ⟨_, hh.1, rfl, hh.2⟩) (fun v9 W9 a9 hR9 h9 d9 => ?_)
  replace d9 := d9.trans d8
  clear h8 d8
  obtain ⟨rfl, e1⟩ := hR9
  obtain rfl := e1.symm
  refine opsP (N := 57) (T := TT) (M := (fun _ _ => none)) tabOk (fun _ _ _ h => by cases h) [] [3] [(0, .v (.slice (some ⟨g, 0, none⟩) 1 c)), (1, .v (.slice (some ⟨g, 0, none⟩) 2 c)), (2, .v (.int .u64 64)), (6, .v (Value.slice none 0 0)), (7, .v (.int .i64 2)), (8, .v (.int .i64 1)), (10, .v (.bool false)), (30, .v (.bool false))] h9 (by kernel_rfl) ⟨by kernel_rfl, by kernel_rfl, by kernel_rfl, by kernel_rfl, by kernel_rfl, by kernel_rfl, by kernel_rfl, by kernel_rfl, trivial⟩ (fun a10 h10 d10 => ?_)
  replace d10 := d10.trans d9
  clear h9 d9
  show Code.wp _ _ _ _ _
  refine wp_seq ?_
  refine wp_seq ?_
  refine wp_region ?_
  refine opsP (N := 57) (T := TT) (M := (fun _ _ => none)) tabOk (fun _ _ _ h => by cases h) [] [0, 1, 2] [(0, .v (.slice (some ⟨g, 0, none⟩) 1 c)), (1, .v (.slice (some ⟨g, 0, none⟩) 2 c)), (2, .v (.int .u64 0)), (6, .v (Value.slice none 0 0)), (7, .v (.int .i64 2)), (8, .v (.int .i64 1)), (10, .v (.bool false)), (30, .v (.bool false))] h10 (by kernel_rfl) ⟨by kernel_rfl, by kernel_rfl, by kernel_rfl, by kernel_rfl, by kernel_rfl, by kernel_rfl, by kernel_rfl, by kernel_rfl, trivial⟩ (fun a11 h11 d11 => ?_)
  replace d11 := d11.trans d10
  clear h10 d10
  show Code.wp _ _ _ _ _
  refine wp_seq ?_
  refine wp_region ?_
  refine opsP (N := 57) (T := TT) (M := (fun _ _ => none)) tabOk (fun _ _ _ h => by cases h) [] [0, 1] [(0, .v (.slice (some ⟨g, 0, none⟩) 1 c)), (1, .v (.slice (some ⟨g, 0, none⟩) 2 c)), (2, .v (.int .u64 0)), (6, .v (Value.slice none 0 0)), (7, .v (.int .i64 2)), (8, .v (.int .i64 1)), (10, .v (.bool false)), (30, .v (.bool false)), (39, .v (.bool true))] h11 (by kernel_rfl) ⟨by kernel_rfl, by kernel_rfl, by kernel_rfl, by kernel_rfl, by kernel_rfl, by kernel_rfl, by kernel_rfl, by kernel_rfl, by kernel_rfl, trivial⟩ (fun a12 h12 d12 => ?_)
  replace d12 := d12.trans d11
  clear h11 d11
  show Code.wp _ _ _ _ _
  refine wp_cond_true (h12.2 39 _ rfl) ?_
  refine wp_region ?_
  refine opsP (N := 57) (T := TT) (M := (fun _ _ => none)) tabOk (fun _ _ _ h => by cases h) [5, 6] [0, 1, 2, 3, 4] [(0, .v (.slice (some ⟨g, 0, none⟩) 1 c)), (1, .v (.slice (some ⟨g, 0, none⟩) 2 c)), (2, .v (.int .u64 0)), (6, .v (Value.slice none 0 0)), (7, .v (.int .i64 2)), (8, .v (.int .i64 1)), (10, .v (.bool false)), (30, .v (.bool false)), (39, .v (.bool true)), (40, .v (.slice (some ⟨g, 0, none⟩) 1 c)), (41, .v (.slice (some ⟨g, 0, none⟩) 2 c)), (42, .v (.int .i64 2)), (43, .v (.int .i64 1)), (44, .v (.int .i64 1))] h12 (by kernel_rfl) ⟨by kernel_rfl, by kernel_rfl, by kernel_rfl, by kernel_rfl, by kernel_rfl, by kernel_rfl, by kernel_rfl, by kernel_rfl, by kernel_rfl, by kernel_rfl, by kernel_rfl, by kernel_rfl, by kernel_rfl, by kernel_rfl, trivial⟩ (fun a13 h13 d13 => ?_)
  replace d13 := d13.trans d12
  clear h12 d12
  refine givenW_ops (N := 57) (i := 5) (d := 45) (s := .v (.slice (some ⟨g, 1, none⟩) 1 (c - 1))) (l := [6]) rfl (want_ rfl) rfl (by decide) h13 ((op_sll (l := 1) rfl sltNat (h13.2 41 _ rfl) (h13.2 44 _ rfl) (by decide)).trans (by rw [cutA_some g 0 (by omega)]; rfl)) (fun a14 h14 d14 => ?_)
  replace d14 := d14.trans d13
  clear h13 d13
  refine new_ops (N := 57) (i := 6) (d := 46) (l := []) rfl rfl rfl (by decide) h14 (op_cpw (xs := [m.getD 1 0]) rfl sltNat (h14.2 40 _ rfl) (h14.2 45 _ rfl) hw rfl hsrc (by simp; omega)) (fun a15 h15 d15 => ?_)
  replace d15 := d15.trans d14
  clear h14 d14
  have hw2 : Wd (wdW w g (layW m 0 [m.getD 1 0])) g (layW m 0 [m.getD 1 0]) := wd_wdW hw _
  have hF2 := fr_wdW w g (layW m 0 [m.getD 1 0])
  have ht : topN (layW m 0 [m.getD 1 0]) 1 = 1 := by unfold topN; rw [layW_one _ _ (by omega), if_neg hx]
  show Code.wp _ _ _ _ _
  refine wp_seq ?_
  refine wp_region ?_
  refine opsP (N := 57) (T := TT) (M := (fun _ _ => none)) tabOk (fun _ _ _ h => by cases h) [1, 2] [0] [(0, .v (.slice (some ⟨g, 0, none⟩) 1 c)), (1, .v (.slice (some ⟨g, 0, none⟩) 2 c)), (2, .v (.int .u64 0)), (6, .v (Value.slice none 0 0)), (7, .v (.int .i64 2)), (8, .v (.int .i64 1)), (10, .v (.bool false)), (30, .v (.bool false)), (39, .v (.bool true)), (55, .v (.slice (some ⟨g, 0, none⟩) 1 c))] h15 (by kernel_rfl) ⟨by kernel_rfl, by kernel_rfl, by kernel_rfl, by kernel_rfl, by kernel_rfl, by kernel_rfl, by kernel_rfl, by kernel_rfl, by kernel_rfl, by kernel_rfl, trivial⟩ (fun a16 h16 d16 => ?_)
  replace d16 := d16.trans d15
  clear h15 d15
  refine callW_ops (N := 57) (i := 1) (d := 56) (f := 46) (args := [.v (.slice (some ⟨g, 0, none⟩) 1 c)]) (l := [2]) rfl (want_ rfl) rfl (by decide) h16 Try.func46 rfl rfl rfl (by kernel_rfl) (fun (v : Value) (W' : World) => v = .slice (some ⟨g, 0, none⟩) 1 c ∧ Wd W' g (layW m 0 [m.getD 1 0]) ∧ Fr [g] w W') ((norm_walk g 1 c _ _ hw2 (by rw [layW_len _ _ (by omega)]; omega) (by decide) (by omega)).mono fun e w' hh => ⟨_, hh.1.trans (by rw [ht]), rfl, hh.2 ▸ hw2, hh.2 ▸ hF2⟩) (fun v17 W17 a17 hR17 h17 d17 => ?_)
  replace d17 := d17.trans d16
  clear h16 d16
  obtain ⟨rfl, hw5, hB5⟩ := hR17
  refine opsP (N := 57) (T := TT) (M := (fun _ _ => none)) tabOk (fun _ _ _ h => by cases h) [] [2] [(0, .v (.slice (some ⟨g, 0, none⟩) 1 c)), (1, .v (.slice (some ⟨g, 0, none⟩) 2 c)), (2, .v (.int .u64 0)), (6, .v (.slice (some ⟨g, 0, none⟩) 1 c)), (7, .v (.int .i64 2)), (8, .v (.int .i64 1)), (10, .v (.bool false)), (30, .v (.bool false)), (39, .v (.bool true))] h17 (by kernel_rfl) ⟨by kernel_rfl, by kernel_rfl, by kernel_rfl, by kernel_rfl, by kernel_rfl, by kernel_rfl, by kernel_rfl, by kernel_rfl, by kernel_rfl, trivial⟩ (fun a18 h18 d18 => ?_)
  replace d18 := d18.trans d17
  clear h17 d17
  show Code.wp _ _ _ _ _
  refine wp_ret ?_
  exact ⟨d18, _, results_tmp rfl _ _ _, congrArg Ending.returned (h18.2 6 _ rfl), hw5, hB5⟩
set_option maxHeartbeats 8000000 in
set_option maxRecDepth 100000 in
theorem Rsh_low (p : Nat) (A : Option Addr) (n c : Nat) (hn : n ≤ 1) (w : World) (hI : IB w p false (.slice A n c)) :
    Calls Try.prog 36 #[.pointer (some ⟨p, 0, none⟩), .pointer (some ⟨p, 0, none⟩), .int .u64 64] w fun e w' => e = .returned (.pointer (some ⟨p, 0, none⟩)) ∧ IB w' p false (.slice A 0 c) ∧ Fr [p] w w' := by
  refine calls_of_wp Try.func36 rfl ?_
  have h0 := has_three (β := bn []) (.v (.pointer (some ⟨p, 0, none⟩))) (.v (.pointer (some ⟨p, 0, none⟩))) (.v (.int .u64 64)) 51
  have d0 : (⟨#[.pointer (some ⟨p, 0, none⟩), .pointer (some ⟨p, 0, none⟩), .int .u64 64] ++ Array.replicate 51 undef, []⟩ : Act).defers = [] := rfl
  refine wp_seq ?_
  refine wp_region ?_
  refine opsP (N := 54) (T := TT) (M := (fun _ _ => none)) tabOk (fun _ _ _ h => by cases h) [] [0] [(0, .v (.pointer (some ⟨p, 0, none⟩))), (1, .v (.pointer (some ⟨p, 0, none⟩))), (2, .v (.int .u64 64)), (6, .v (Value.pointer none))] h0 (by kernel_rfl) ⟨by kernel_rfl, by kernel_rfl, by kernel_rfl, by kernel_rfl, trivial⟩ (fun a1 h1 d1 => ?_)
  replace d1 := d1.trans d0
  clear h0 d0
  show Code.wp _ _ _ _ _
  refine wp_seq ?_
  refine wp_seq ?_
  refine wp_region ?_
  refine opsP (N := 54) (T := TT) (M := (fun _ _ => none)) tabOk (fun _ _ _ h => by cases h) [1, 2, 3] [0] [(0, .v (.pointer (some ⟨p, 0, none⟩))), (1, .v (.pointer (some ⟨p, 0, none⟩))), (2, .v (.int .u64 64)), (6, .v (Value.pointer none)), (8, .v (.pointer (some ⟨p, 0, none⟩)))] h1 (by kernel_rfl) ⟨by kernel_rfl, by kernel_rfl, by kernel_rfl, by kernel_rfl, by kernel_rfl, trivial⟩ (fun a2 h2 d2 => ?_)
  replace d2 := d2.trans d1
  clear h1 d1
  refine givenW_ops (N := 54) (i := 1) (d := 9) (s := .v (.pointer (some ⟨p, 0, none⟩))) (l := [2, 3]) rfl (want_ rfl) rfl (by decide) h2 (op_nilCheck rfl (h2.2 8 _ rfl)) (fun a3 h3 d3 => ?_)
  replace d3 := d3.trans d2
  clear h2 d2
  refine givenW_ops (N := 54) (i := 2) (d := 10) (s := .v (.pointer (some ⟨p, 0, none⟩))) (l := [3]) rfl (want_ rfl) rfl (by decide) h3 (op_fNeg rfl (h3.2 9 _ rfl)) (fun a4 h4 d4 => ?_)
  replace d4 := d4.trans d3
  clear h3 d3
  refine givenW_ops (N := 54) (i := 3) (d := 11) (s := .v (.bool false)) (l := []) rfl (want_ rfl) rfl (by decide) h4 (op_load rfl (h4.2 10 _ rfl) Try.isAgg4 hI.neg) (fun a5 h5 d5 => ?_)
  replace d5 := d5.trans d4
  clear h4 d4
  show Code.wp _ _ _ _ _
  refine wp_cond_false (h5.2 11 _ rfl) ?_
  refine wp_skip ?_
  show Code.wp _ _ _ _ _
  refine wp_seq ?_
  refine start_ (S := fun V => IB V p false (.slice A n c)) (ds := [13]) (n := 14) _ (by kernel_rfl) rfl rfl (hI) (fun hS6 => ?_)
  refine segP (S := fun V => IB V p false (.slice A n c)) (ds := [13]) (T := TT) (M := fun _ _ => none) (N := 54) tabOk (fun _ _ _ _ _ h => by cases h) (fun _ _ _ _ hd h => And.intro (hd.trans (And.left h)) (And.right h)) hS6 [0, 1] 12 [(0, .v (.pointer (some ⟨p, 0, none⟩))), (1, .v (.pointer (some ⟨p, 0, none⟩))), (2, .v (.int .u64 64)), (6, .v (Value.pointer none)), (11, .v (.bool false)), (37, .v (.pointer (some ⟨p, 0, none⟩))), (38, .v (.pointer (some ⟨p, 0, none⟩)))] h5 (by kernel_rfl) (by kernel_rfl) ⟨by kernel_rfl, by kernel_rfl, by kernel_rfl, by kernel_rfl, by kernel_rfl, by kernel_rfl, by kernel_rfl, trivial⟩ (fun a6 h6 d6 => ?_)
  replace d6 := d6.trans d5
  clear h5 d5
  refine segV (S := fun V => IB V p false (.slice A n c)) (ds := [13]) (N := 54) (i := 2) (d := 39) (s := .v (.pointer (some ⟨p, 0, none⟩))) (fun _ _ _ _ hd h => And.intro (hd.trans (And.left h)) (And.right h)) hS6 h6 rfl rfl rfl (by decide) (by kernel_rfl) (fun W' hW => op_nilCheck rfl (h6.2 38 _ rfl)) (fun a7 h7 d7 => ?_)
  replace d7 := d7.trans d6
  clear h6 d6
  refine segV (S := fun V => IB V p false (.slice A n c)) (ds := [13]) (N := 54) (i := 3) (d := 40) (s := .v (.pointer (some ⟨p, 1, none⟩))) (fun _ _ _ _ hd h => And.intro (hd.trans (And.left h)) (And.right h)) hS6 h7 rfl rfl rfl (by decide) (by kernel_rfl) (fun W' hW => op_fAbs rfl (h7.2 39 _ rfl)) (fun a8 h8 d8 => ?_)
  replace d8 := d8.trans d7
  clear h7 d7
  refine segV (S := fun V => IB V p false (.slice A n c)) (ds := [13]) (N := 54) (i := 4) (d := 41) (s := .v (.slice A n c)) (fun _ _ _ _ hd h => And.intro (hd.trans (And.left h)) (And.right h)) hS6 h8 rfl rfl rfl (by decide) (by kernel_rfl) (fun W' hW => op_load rfl (h8.2 40 _ rfl) Try.isAgg47 hW.abs) (fun a9 h9 d9 => ?_)
  replace d9 := d9.trans d8
  clear h8 d8
  refine segP (S := fun V => IB V p false (.slice A n c)) (ds := [13]) (T := TT) (M := fun _ _ => none) (N := 54) tabOk (fun _ _ _ _ _ h => by cases h) (fun _ _ _ _ hd h => And.intro (hd.trans (And.left h)) (And.right h)) hS6 [5] 8 [(0, .v (.pointer (some ⟨p, 0, none⟩))), (1, .v (.pointer (some ⟨p, 0, none⟩))), (2, .v (.int .u64 64)), (6, .v (Value.pointer none)), (11, .v (.bool false)), (37, .v (.pointer (some ⟨p, 0, none⟩))), (38, .v (.pointer (some ⟨p, 0, none⟩))), (39, .v (.pointer (some ⟨p, 0, none⟩))), (40, .v (.pointer (some ⟨p, 1, none⟩))), (41, .v (.slice A n c)), (42, .v (.pointer (some ⟨p, 0, none⟩)))] h9 (by kernel_rfl) (by kernel_rfl) ⟨by kernel_rfl, by kernel_rfl, by kernel_rfl, by kernel_rfl, by kernel_rfl, by kernel_rfl, by kernel_rfl, by kernel_rfl, by kernel_rfl, by kernel_rfl, by kernel_rfl, trivial⟩ (fun a10 h10 d10 => ?_)
  replace d10 := d10.trans d9
  clear h9 d9
  refine segV (S := fun V => IB V p false (.slice A n c)) (ds := [13]) (N := 54) (i := 6) (d := 43) (s := .v (.pointer (some ⟨p, 0, none⟩))) (fun _ _ _ _ hd h => And.intro (hd.trans (And.left h)) (And.right h)) hS6 h10 rfl rfl rfl (by decide) (by kernel_rfl) (fun W' hW => op_nilCheck rfl (h10.2 42 _ rfl)) (fun a11 h11 d11 => ?_)
  replace d11 := d11.trans d10
  clear h10 d10
  refine segV (S := fun V => IB V p false (.slice A n c)) (ds := [13]) (N := 54) (i := 7) (d := 44) (s := .v (.pointer (some ⟨p, 1, none⟩))) (fun _ _ _ _ hd h => And.intro (hd.trans (And.left h)) (And.right h)) hS6 h11 rfl rfl rfl (by decide) (by kernel_rfl) (fun W' hW => op_fAbs rfl (h11.2 43 _ rfl)) (fun a12 h12 d12 => ?_)
  replace d12 := d12.trans d11
  clear h11 d11
  refine segV (S := fun V => IB V p false (.slice A n c)) (ds := [13]) (N := 54) (i := 8) (d := 45) (s := .v (.slice A n c)) (fun _ _ _ _ hd h => And.intro (hd.trans (And.left h)) (And.right h)) hS6 h12 rfl rfl rfl (by decide) (by kernel_rfl) (fun W' hW => op_load rfl (h12.2 44 _ rfl) Try.isAgg47 hW.abs) (fun a13 h13 d13 => ?_)
  replace d13 := d13.trans d12
  clear h12 d12
  refine segP (S := fun V => IB V p false (.slice A n c)) (ds := [13]) (T := TT) (M := fun _ _ => none) (N := 54) tabOk (fun _ _ _ _ _ h => by cases h) (fun _ _ _ _ hd h => And.intro (hd.trans (And.left h)) (And.right h)) hS6 [9] 4 [(0, .v (.pointer (some ⟨p, 0, none⟩))), (1, .v (.pointer (some ⟨p, 0, none⟩))), (2, .v (.int .u64 64)), (6, .v (Value.pointer none)), (11, .v (.bool false)), (37, .v (.pointer (some ⟨p, 0, none⟩))), (38, .v (.pointer (some ⟨p, 0, none⟩))), (39, .v (.pointer (some ⟨p, 0, none⟩))), (40, .v (.pointer (some ⟨p, 1, none⟩))), (41, .v (.slice A n c)), (42, .v (.pointer (some ⟨p, 0, none⟩))), (43, .v (.pointer (some ⟨p, 0, none⟩))), (44, .v (.pointer (some ⟨p, 1, none⟩))), (45, .v (.slice A n c)), (46, .v (.int .u64 64))] h13 (by kernel_rfl) (by kernel_rfl) ⟨by kernel_rfl, by kernel_rfl, by kernel_rfl, by kernel_rfl, by kernel_rfl, by kernel_rfl, by kernel_rfl, by kernel_rfl, by kernel_rfl, by kernel_rfl, by kernel_rfl, by kernel_rfl, by kernel_rfl, by kernel_rfl, by kernel_rfl, trivial⟩ (fun a14 h14 d14 => ?_)
  replace d14 := d14.trans d13
  clear h13 d13
  refine stepR (S := fun V => IB V p false (.slice A n c)) (ds := [13]) (N := 54) (j := 10) (d := 47) (f := 50) (args := [.v (.slice A n c), .v (.slice A n c), .v (.int .u64 64)]) h14 (by kernel_rfl) (by kernel_rfl) Try.func50 rfl rfl (fun (v : Value) (W' : World) => v = .slice A 0 c ∧ W' = w.drew) (fun v W' hh => by rw [hh.2]; exact hI) ((rsh_low A n c hn w.drew).mono fun e w' hh => ⟨_, hh.1, rfl, hh.2⟩) (fun a15 v15 W15 h15 d15 hR15 => ?_)
  replace d15 := d15.trans d14
  clear h14 d14
  have hS15 : (fun V => IB V p false (.slice A n c)) W15 := (fun (v : Value) (W' : World) (hh : (fun (v : Value) (W' : World) => v = .slice A 0 c ∧ W' = w.drew) v W') => (show (fun V => IB V p false (.slice A n c)) W' from by rw [hh.2]; exact hI)) _ _ hR15
  obtain ⟨rfl, e1⟩ := hR15
  subst e1
  have hI1 : IB w.drew p false (.slice A n c) := hI
  have hF1 := Fr.refl [p] w
  refine segV (S := fun V => IB V p false (.slice A n c)) (ds := [13]) (N := 54) (i := 11) (d := 48) (s := .v (.pointer (some ⟨p, 0, none⟩))) (fun _ _ _ _ hd h => And.intro (hd.trans (And.left h)) (And.right h)) hS15 h15 rfl rfl rfl (by decide) (by kernel_rfl) (fun W' hW => op_nilCheck rfl (h15.2 37 _ rfl)) (fun a16 h16 d16 => ?_)
  replace d16 := d16.trans d15
  clear h15 d15
  refine segV (S := fun V => IB V p false (.slice A n c)) (ds := [13]) (N := 54) (i := 12) (d := 49) (s := .v (.pointer (some ⟨p, 1, none⟩))) (fun _ _ _ _ hd h => And.intro (hd.trans (And.left h)) (And.right h)) hS15 h16 rfl rfl rfl (by decide) (by kernel_rfl) (fun W' hW => op_fAbs rfl (h16.2 48 _ rfl)) (fun a17 h17 d17 => ?_)
  replace d17 := d17.trans d16
  clear h16 d16
  refine last_ (i := 13) (N := none) #[true, true, true, true, true, true, true, true, true, true, true, true, true, true] rfl rfl (by kernel_rfl) (by simp) (fun K2 hK2 => ?_)
  refine skip_ (want_ rfl) rfl (store_cell rfl (h17.2 49 _ rfl) (h17.2 47 _ rfl) Try.sizeOf47 (hI1.frozen 1) hI1.abs) ?_
  refine hK2.out _ _ ?_
  refine done_ (by kernel_rfl) ?_
  show Code.wp _ _ _ _ _
  have hI2 := hI1.setAbs (.slice A 0 c)
  have hF2 := hF1.trans (Fr.setc p 1 (.slice A 0 c))
  refine wp_seq ?_
  refine wp_region ?_
  refine opsP (N := 54) (T := TT) (M := (fun _ _ => none)) tabOk (fun _ _ _ h => by cases h) [1, 2, 3] [0] [(0, .v (.pointer (some ⟨p, 0, none⟩))), (1, .v (.pointer (some ⟨p, 0, none⟩))), (2, .v (.int .u64 64)), (6, .v (Value.pointer none)), (11, .v (.bool false)), (50, .v (.pointer (some ⟨p, 0, none⟩)))] h17 (by kernel_rfl) ⟨by kernel_rfl, by kernel_rfl, by kernel_rfl, by kernel_rfl, by kernel_rfl, by kernel_rfl, trivial⟩ (fun a18 h18 d18 => ?_)
  replace d18 := d18.trans d17
  clear h17 d17
  refine givenW_ops (N := 54) (i := 1) (d := 51) (s := .v (.pointer (some ⟨p, 0, none⟩))) (l := [2, 3]) rfl (want_ rfl) rfl (by decide) h18 (op_nilCheck rfl (h18.2 50 _ rfl)) (fun a19 h19 d19 => ?_)
  replace d19 := d19.trans d18
  clear h18 d18
  refine givenW_ops (N := 54) (i := 2) (d := 52) (s := .v (.pointer (some ⟨p, 0, none⟩))) (l := [3]) rfl (want_ rfl) rfl (by decide) h19 (op_fNeg rfl (h19.2 51 _ rfl)) (fun a20 h20 d20 => ?_)
  replace d20 := d20.trans d19
  clear h19 d19
  refine st_ops (i := 3) (l := []) rfl rfl rfl (op_store rfl (h20.2 52 _ rfl) rfl (Or.inr ⟨_, rfl⟩) Try.sizeOf4 hI2.neg (hI2.frozen 0)) ?_
  have hI3 := hI2.setNeg false
  have hF3 := hF2.trans (Fr.setc p 0 (.bool false))
  show Code.wp _ _ _ _ _
  refine wp_seq ?_
  refine wp_region ?_
  refine opsP (N := 54) (T := TT) (M := (fun _ _ => none)) tabOk (fun _ _ _ h => by cases h) [] [0, 1] [(0, .v (.pointer (some ⟨p, 0, none⟩))), (1, .v (.pointer (some ⟨p, 0, none⟩))), (2, .v (.int .u64 64)), (6, .v (.pointer (some ⟨p, 0, none⟩))), (11, .v (.bool false))] h20 (by kernel_rfl) ⟨by kernel_rfl, by kernel_rfl, by kernel_rfl, by kernel_rfl, by kernel_rfl, trivial⟩ (fun a21 h21 d21 => ?_)
  replace d21 := d21.trans d20
  clear h20 d20
  show Code.wp _ _ _ _ _
  refine wp_ret ?_
  exact ⟨d21, _, results_tmp rfl _ _ _, congrArg Ending.returned (h21.2 6 _ rfl), hI3, hF3⟩
set_option maxHeartbeats 8000000 in
set_option maxRecDepth 100000 in
theorem Rsh_two (p : Nat) (g c : Nat) (m : List Int) (hc : 2 ≤ c) (hm : 2 ≤ m.length) (hx : m.getD 1 0 ≠ 0) (hgp : p ≠ g) (w : World) (hI : IB w p false (.slice (some ⟨g, 0, none⟩) 2 c)) (hw : Wd w g m) :
    Calls Try.prog 36 #[.pointer (some ⟨p, 0, none⟩), .pointer (some ⟨p, 0, none⟩), .int .u64 64] w fun e w' => e = .returned (.pointer (some ⟨p, 0, none⟩)) ∧ IB w' p false (.slice (some ⟨g, 0, none⟩) 1 c) ∧ Wd w' g (layW m 0 [m.getD 1 0]) ∧ Fr [p, g] w w' := by
  refine calls_of_wp Try.func36 rfl ?_
  have h0 := has_three (β := bn []) (.v (.pointer (some ⟨p, 0, none⟩))) (.v (.pointer (some ⟨p, 0, none⟩))) (.v (.int .u64 64)) 51
  have d0 : (⟨#[.pointer (some ⟨p, 0, none⟩), .pointer (some ⟨p, 0, none⟩), .int .u64 64] ++ Array.replicate 51 undef, []⟩ : Act).defers = [] := rfl
  refine wp_seq ?_
  refine wp_region ?_
  refine opsP (N := 54) (T := TT) (M := (fun _ _ => none)) tabOk (fun _ _ _ h => by cases h) [] [0] [(0, .v (.pointer (some ⟨p, 0, none⟩))), (1, .v (.pointer (some ⟨p, 0, none⟩))), (2, .v (.int .u64 64)), (6, .v (Value.pointer none))] h0 (by kernel_rfl) ⟨by kernel_rfl, by kernel_rfl, by kernel_rfl, by kernel_rfl, trivial⟩ (fun a1 h1 d1 => ?_)
  replace d1 := d1.trans d0
  clear h0 d0
  show Code.wp _ _ _ _ _
  refine wp_seq ?_
  refine wp_seq ?_
  refine wp_region ?_
  refine opsP (N := 54) (T := TT) (M := (fun _ _ => none)) tabOk (fun _ _ _ h => by cases h) [1, 2, 3] [0] [(0, .v (.pointer (some ⟨p, 0, none⟩))), (1, .v (.pointer (some ⟨p, 0, none⟩))), (2, .v (.int .u64 64)), (6, .v (Value.pointer none)), (8, .v (.pointer (some ⟨p, 0, none⟩)))] h1 (by kernel_rfl) ⟨by kernel_rfl, by kernel_rfl, by kernel_rfl, by kernel_rfl, by kernel_rfl, trivial⟩ (fun a2 h2 d2 => ?_)
  replace d2 := d2.trans d1
  clear h1 d1
  refine givenW_ops (N := 54) (i := 1) (d := 9) (s := .v (.pointer (some ⟨p, 0, none⟩))) (l := [2, 3]) rfl (want_ rfl) rfl (by decide) h2 (op_nilCheck rfl (h2.2 8 _ rfl)) (fun a3 h3 d3 => ?_)
  replace d3 := d3.trans d2
  clear h2 d2
  refine givenW_ops (N := 54) (i := 2) (d := 10) (s := .v (.pointer (some ⟨p, 0, none⟩))) (l := [3]) rfl (want_ rfl) rfl (by decide) h3 (op_fNeg rfl (h3.2 9 _ rfl)) (fun a4 h4 d4 => ?_)
  replace d4 := d4.trans d3
  clear h3 d3
  refine givenW_ops (N := 54) (i := 3) (d := 11) (s := .v (.bool false)) (l := []) rfl (want_ rfl) rfl (by decide) h4 (op_load rfl (h4.2 10 _ rfl) Try.isAgg4 hI.neg) (fun a5 h5 d5 => ?_)
  replace d5 := d5.trans d4
  clear h4 d4
  show Code.wp _ _ _ _ _
  refine wp_cond_false (h5.2 11 _ rfl) ?_
  refine wp_skip ?_
  show Code.wp _ _ _ _ _
  refine wp_seq ?_
  refine start_ (S := fun V => IB V p false (.slice (some ⟨g, 0, none⟩) 2 c)) (ds := [13]) (n := 14) _ (by kernel_rfl) rfl rfl (hI) (fun hS6 => ?_)
  refine segP (S := fun V => IB V p false (.slice (some ⟨g, 0, none⟩) 2 c)) (ds := [13]) (T := TT) (M := fun _ _ => none) (N := 54) tabOk (fun _ _ _ _ _ h => by cases h) (fun _ _ _ _ hd h => And.intro (hd.trans (And.left h)) (And.right h)) hS6 [0, 1] 12 [(0, .v (.pointer (some ⟨p, 0, none⟩))), (1, .v (.pointer (some ⟨p, 0, none⟩))), (2, .v (.int .u64 64)), (6, .v (Value.pointer none)), (11, .v (.bool false)), (37, .v (.pointer (some ⟨p, 0, none⟩))), (38, .v (.pointer (some ⟨p, 0, none⟩)))] h5 (by kernel_rfl) (by kernel_rfl) ⟨by kernel_rfl, by kernel_rfl, by kernel_rfl, by kernel_rfl, by kernel_rfl, by kernel_rfl, by kernel_rfl, trivial⟩ (fun a6 h6 d6 => ?_)
  replace d6 := d6.trans d5
  clear h5 d5
  refine segV (S := fun V => IB V p false (.slice (some ⟨g, 0, none⟩) 2 c)) (ds := [13]) (N := 54) (i := 2) (d := 39) (s := .v (.pointer (some ⟨p, 0, none⟩))) (fun _ _ _ _ hd h => And.intro (hd.trans (And.left h)) (And.right h)) hS6 h6 rfl rfl rfl (by decide) (by kernel_rfl) (fun W' hW => op_nilCheck rfl (h6.2 38 _ rfl)) (fun a7 h7 d7 => ?_)
  replace d7 := d7.trans d6
  clear h6 d6
  refine segV (S := fun V => IB V p false (.slice (some ⟨g, 0, none⟩) 2 c)) (ds := [13]) (N := 54) (i := 3) (d := 40) (s := .v (.pointer (some ⟨p, 1, none⟩))) (fun _ _ _ _ hd h => And.intro (hd.trans (And.left h)) (And.right h)) hS6 h7 rfl rfl rfl (by decide) (by kernel_rfl) (fun W' hW => op_fAbs rfl (h7.2 39 _ rfl)) (fun a8 h8 d8 => ?_)
  replace d8 := d8.trans d7
  clear h7 d7
  refine segV (S := fun V => IB V p false (.slice (some ⟨g, 0, none⟩) 2 c)) (ds := [13]) (N := 54) (i := 4) (d := 41) (s := .v (.slice (some ⟨g, 0, none⟩) 2 c)) (fun _ _ _ _ hd h => And.intro (hd.trans (And.left h)) (And.right h)) hS6 h8 rfl rfl rfl (by decide) (by kernel_rfl) (fun W' hW => op_load rfl (h8.2 40 _ rfl) Try.isAgg47 hW.abs) (fun a9 h9 d9 => ?_)
  replace d9 := d9.trans d8
  clear h8 d8
  refine segP (S := fun V => IB V p false (.slice (some ⟨g, 0, none⟩) 2 c)) (ds := [13]) (T := TT) (M := fun _ _ => none) (N := 54) tabOk (fun _ _ _ _ _ h => by cases h) (fun _ _ _ _ hd h => And.intro (hd.trans (And.left h)) (And.right h)) hS6 [5] 8 [(0, .v (.pointer (some ⟨p, 0, none⟩))), (1, .v (.pointer (some ⟨p, 0, none⟩))), (2, .v (.int .u64 64)), (6, .v (Value.pointer none)), (11, .v (.bool false)), (37, .v (.pointer (some ⟨p, 0, none⟩))), (38, .v (.pointer (some ⟨p, 0, none⟩))), (39, .v (.pointer (some ⟨p, 0, none⟩))), (40, .v (.pointer (some ⟨p, 1, none⟩))), (41, .v (.slice (some ⟨g, 0, none⟩) 2 c)), (42, .v (.pointer (some ⟨p, 0, none⟩)))] h9 (by kernel_rfl) (by kernel_rfl) ⟨by kernel_rfl, by kernel_rfl, by kernel_rfl, by kernel_rfl, by kernel_rfl, by kernel_rfl, by kernel_rfl, by kernel_rfl, by kernel_rfl, by kernel_rfl, by kernel_rfl, trivial⟩ (fun a10 h10 d10 => ?_)
  replace d10 := d10.trans d9
  clear h9 d9
  refine segV (S := fun V => IB V p false (.slice (some ⟨g, 0, none⟩) 2 c)) (ds := [13]) (N := 54) (i := 6) (d := 43) (s := .v (.pointer (some ⟨p, 0, none⟩))) (fun _ _ _ _ hd h => And.intro (hd.trans (And.left h)) (And.right h)) hS6 h10 rfl rfl rfl (by decide) (by kernel_rfl) (fun W' hW => op_nilCheck rfl (h10.2 42 _ rfl)) (fun a11 h11 d11 => ?_)
  replace d11 := d11.trans d10
  clear h10 d10
  refine segV (S := fun V => IB V p false (.slice (some ⟨g, 0, none⟩) 2 c)) (ds := [13]) (N := 54) (i := 7) (d := 44) (s := .v (.pointer (some ⟨p, 1, none⟩))) (fun _ _ _ _ hd h => And.intro (hd.trans (And.left h)) (And.right h)) hS6 h11 rfl rfl rfl (by decide) (by kernel_rfl) (fun W' hW => op_fAbs rfl (h11.2 43 _ rfl)) (fun a12 h12 d12 => ?_)
  replace d12 := d12.trans d11
  clear h11 d11
  refine segV (S := fun V => IB V p false (.slice (some ⟨g, 0, none⟩) 2 c)) (ds := [13]) (N := 54) (i := 8) (d := 45) (s := .v (.slice (some ⟨g, 0, none⟩) 2 c)) (fun _ _ _ _ hd h => And.intro (hd.trans (And.left h)) (And.right h)) hS6 h12 rfl rfl rfl (by decide) (by kernel_rfl) (fun W' hW => op_load rfl (h12.2 44 _ rfl) Try.isAgg47 hW.abs) (fun a13 h13 d13 => ?_)
  replace d13 := d13.trans d12
  clear h12 d12
  refine segP (S := fun V => IB V p false (.slice (some ⟨g, 0, none⟩) 2 c)) (ds := [13]) (T := TT) (M := fun _ _ => none) (N := 54) tabOk (fun _ _ _ _ _ h => by cases h) (fun _ _ _ _ hd h => And.intro (hd.trans (And.left h)) (And.right h)) hS6 [9] 4 [(0, .v (.pointer (some ⟨p, 0, none⟩))), (1, .v (.pointer (some ⟨p, 0, none⟩))), (2, .v (.int .u64 64)), (6, .v (Value.pointer none)), (11, .v (.bool false)), (37, .v (.pointer (some ⟨p, 0, none⟩))), (38, .v (.pointer (some ⟨p, 0, none⟩))), (39, .v (.pointer (some ⟨p, 0, none⟩))), (40, .v (.pointer (some ⟨p, 1, none⟩))), (41, .v (.slice (some ⟨g, 0, none⟩) 2 c)), (42, .v (.pointer (some ⟨p, 0, none⟩))), (43, .v (.pointer (some ⟨p, 0, none⟩))), (44, .v (.pointer (some ⟨p, 1, none⟩))), (45, .v (.slice (some ⟨g, 0, none⟩) 2 c)), (46, .v (.int .u64 64))] h13 (by kernel_rfl) (by kernel_rfl) ⟨by kernel_rfl, by kernel_rfl, by kernel_rfl, by kernel_rfl, by kernel_rfl, by kernel_rfl, by kernel_rfl, by kernel_rfl, by kernel_rfl, by kernel_rfl, by kernel_rfl, by kernel_rfl, by kernel_rfl, by kernel_rfl, by kernel_rfl, trivial⟩ (fun a14 h14 d14 => ?_)
  replace d14 := d14.trans d13
  clear h13 d13
  refine stepR (S := fun V => IB V p false (.slice (some ⟨g, 0, none⟩) 2 c)) (ds := [13]) (N := 54) (j := 10) (d := 47) (f := 50) (args := [.v (.slice (some ⟨g, 0, none⟩) 2 c), .v (.slice (some ⟨g, 0, none⟩) 2 c), .v (.int .u64 64)]) h14 (by kernel_rfl) (by kernel_rfl) Try.func50 rfl rfl (fun (v : Value) (W' : World) => v = .slice (some ⟨g, 0, none⟩) 1 c ∧ Wd W' g (layW m 0 [m.getD 1 0]) ∧ Fr [g] w W') (fun v W' hh => hI.on hh.2.2 (by simpa using hgp)) ((rsh_two g c m hc hm hx w.drew hw).mono fun e w' hh => ⟨_, hh.1, rfl, hh.2.1, hh.2.2⟩) (fun a15 v15 W15 h15 d15 hR15 => ?_)
  replace d15 := d15.trans d14
  clear h14 d14
  have hS15 : (fun V => IB V p false (.slice (some ⟨g, 0, none⟩) 2 c)) W15 := (fun (v : Value) (W' : World) (hh : (fun (v : Value) (W' : World) => v = .slice (some ⟨g, 0, none⟩) 1 c ∧ Wd W' g (layW m 0 [m.getD 1 0]) ∧ Fr [g] w W') v W') => (show (fun V => IB V p false (.slice (some ⟨g, 0, none⟩) 2 c)) W' from hI.on hh.2.2 (by simpa using hgp))) _ _ hR15
  obtain ⟨rfl, hw1, hF⟩ := hR15
  have hI1 := hI.on hF (by simpa using hgp)
  refine segV (S := fun V => IB V p false (.slice (some ⟨g, 0, none⟩) 2 c)) (ds := [13]) (N := 54) (i := 11) (d := 48) (s := .v (.pointer (some ⟨p, 0, none⟩))) (fun _ _ _ _ hd h => And.intro (hd.trans (And.left h)) (And.right h)) hS15 h15 rfl rfl rfl (by decide) (by kernel_rfl) (fun W' hW => op_nilCheck rfl (h15.2 37 _ rfl)) (fun a16 h16 d16 => ?_)
  replace d16 := d16.trans d15
  clear h15 d15
  refine segV (S := fun V => IB V p false (.slice (some ⟨g, 0, none⟩) 2 c)) (ds := [13]) (N := 54) (i := 12) (d := 49) (s := .v (.pointer (some ⟨p, 1, none⟩))) (fun _ _ _ _ hd h => And.intro (hd.trans (And.left h)) (And.right h)) hS15 h16 rfl rfl rfl (by decide) (by kernel_rfl) (fun W' hW => op_fAbs rfl (h16.2 48 _ rfl)) (fun a17 h17 d17 => ?_)
  replace d17 := d17.trans d16
  clear h16 d16
  refine last_ (i := 13) (N := none) #[true, true, true, true, true, true, true, true, true, true, true, true, true, true] rfl rfl (by kernel_rfl) (by simp) (fun K2 hK2 => ?_)
  refine skip_ (want_ rfl) rfl (store_cell rfl (h17.2 49 _ rfl) (h17.2 47 _ rfl) Try.sizeOf47 (hI1.frozen 1) hI1.abs) ?_
  refine hK2.out _ _ ?_
  refine done_ (by kernel_rfl) ?_
  show Code.wp _ _ _ _ _
  have hI2 := hI1.setAbs (.slice (some ⟨g, 0, none⟩) 1 c)
  have hF2 := (hF.more p).trans (Fr.setc (W := W15) p 1 (.slice (some ⟨g, 0, none⟩) 1 c)).here
  have hw2 := hw1.on (Fr.setc p 1 (.slice (some ⟨g, 0, none⟩) 1 c)) (by simpa using Ne.symm hgp)
  refine wp_seq ?_
  refine wp_region ?_
  refine opsP (N := 54) (T := TT) (M := (fun _ _ => none)) tabOk (fun _ _ _ h => by cases h) [1, 2, 3] [0] [(0, .v (.pointer (some ⟨p, 0, none⟩))), (1, .v (.pointer (some ⟨p, 0, none⟩))), (2, .v (.int .u64 64)), (6, .v (Value.pointer none)), (11, .v (.bool false)), (50, .v (.pointer (some ⟨p, 0, none⟩)))] h17 (by kernel_rfl) ⟨by kernel_rfl, by kernel_rfl, by kernel_rfl, by kernel_rfl, by kernel_rfl, by kernel_rfl, trivial⟩ (fun a18 h18 d18 => ?_)
  replace d18 := d18.trans d17
  clear h17 d17
  refine givenW_ops (N := 54) (i := 1) (d := 51) (s := .v (.pointer (some ⟨p, 0, none⟩))) (l := [2, 3]) rfl (want_ rfl) rfl (by decide) h18 (op_nilCheck rfl (h18.2 50 _ rfl)) (fun a19 h19 d19 => ?_)
  replace d19 := d19.trans d18
  clear h18 d18
  refine givenW_ops (N := 54) (i := 2) (d := 52) (s := .v (.pointer (some ⟨p, 0, none⟩))) (l := [3]) rfl (want_ rfl) rfl (by decide) h19 (op_fNeg rfl (h19.2 51 _ rfl)) (fun a20 h20 d20 => ?_)
  replace d20 := d20.trans d19
  clear h19 d19
  refine st_ops (i := 3) (l := []) rfl rfl rfl (op_store rfl (h20.2 52 _ rfl) rfl (Or.inr ⟨_, rfl⟩) Try.sizeOf4 hI2.neg (hI2.frozen 0)) ?_
  have hI3 := hI2.setNeg false
  have hF3 := hF2.trans (Fr.setc p 0 (.bool false)).here
  have hw3 := hw2.on (Fr.setc p 0 (.bool false)) (by simpa using Ne.symm hgp)
  show Code.wp _ _ _ _ _
  refine wp_seq ?_
  refine wp_region ?_
  refine opsP (N := 54) (T := TT) (M := (fun _ _ => none)) tabOk (fun _ _ _ h => by cases h) [] [0, 1] [(0, .v (.pointer (some ⟨p, 0, none⟩))), (1, .v (.pointer (some ⟨p, 0, none⟩))), (2, .v (.int .u64 64)), (6, .v (.pointer (some ⟨p, 0, none⟩))), (11, .v (.bool false))] h20 (by kernel_rfl) ⟨by kernel_rfl, by kernel_rfl, by kernel_rfl, by kernel_rfl, by kernel_rfl, trivial⟩ (fun a21 h21 d21 => ?_)
  replace d21 := d21.trans d20
  clear h20 d20
  show Code.wp _ _ _ _ _
  refine wp_ret ?_
  exact ⟨d21, _, results_tmp rfl _ _ _, congrArg Ending.returned (h21.2 6 _ rfl), hI3, hw3, hF3⟩
end Go.Proofs.Ytjmgiodkfgdgnaa.PAll
