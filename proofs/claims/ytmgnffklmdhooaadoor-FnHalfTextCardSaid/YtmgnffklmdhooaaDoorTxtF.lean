/- TxtF: HtDg, HtDg2, HtRead, HtRead2, HtHdW, HtHdo, HtHsE, HtClo, HtHsA. -/
import Derived.Test.YtmgnffklmdhooaaDoorPAllx1
import Derived.Test.YtmgnffklmdhooaaDoorPAllx3
import Derived.Test.YtmgnffklmdhooaaDoorPAllx4
import Derived.Test.YtmgnffklmdhooaaDoorTxtC
import Derived.Test.YtmgnffklmdhooaaDoorPAllx2
import Derived.Laws.BytesArg
import Derived.Test.YtmgnffklmdhooaaDoorTxtB
import Derived.Test.YtmgnffklmdhooaaDoorTxtA
namespace Go.Proofs.YtmgnffklmdhooaaDoor.PAll
open Go.RowKit Go.Proofs.YtmgnffklmdhooaaDoorW.PrintWords Go.Proofs.YtmgnffklmdhooaaDoorW.PrintLast Go.Proofs.YtmgnffklmdhooaaDoorW.PrintMore
set_option linter.unusedVariables false
set_option linter.unusedSimpArgs false
theorem bnd {α β : Type} {o : Option α} {x : α} (h : o = some x) (f : α → Option β) : o.bind f = f x := by
  subst h
  rfl
/-- A list of digits. -/
def Ds (l : List Int) : Prop := ∀ x, x ∈ l → 0 ≤ x ∧ x < 10
theorem Ds.tail {x : Int} {l : List Int} (h : Ds (x :: l)) : Ds l := fun y hy => h y (List.mem_cons_of_mem _ hy)
theorem Ds.head {x : Int} {l : List Int} (h : Ds (x :: l)) : 0 ≤ x ∧ x < 10 := h x List.mem_cons_self
theorem Ds.cons {x : Int} {l : List Int} (hx : 0 ≤ x ∧ x < 10) (h : Ds l) : Ds (x :: l) := fun y hy => by
  rcases List.mem_cons.1 hy with rfl | hy
  · exact hx
  · exact h y hy
theorem Ds.app {l m : List Int} (hl : Ds l) (hm : Ds m) : Ds (l ++ m) := fun y hy => by
  rcases List.mem_append.1 hy with hy | hy
  · exact hl y hy
  · exact hm y hy
theorem Ds.nil : Ds [] := fun _ h => by cases h
theorem Ds.rep (n : Nat) : Ds (List.replicate n 0) := fun y hy => by
  have := List.eq_of_mem_replicate hy
  omega
theorem Ds.drop {l : List Int} (h : Ds l) (n : Nat) : Ds (l.drop n) := fun y hy => h y (List.mem_of_mem_drop hy)
theorem Ds.take {l : List Int} (h : Ds l) (n : Nat) : Ds (l.take n) := fun y hy => h y (List.mem_of_mem_take hy)
/-- The number of a list of digits. -/
def nv : List Int → Nat
  | [] => 0
  | x :: l => x.toNat + 10 * nv l
theorem nv_app (l m : List Int) : nv (l ++ m) = nv l + 10 ^ l.length * nv m := by
  induction l with
  | nil => simp [nv]
  | cons x l ih =>
    simp only [List.cons_append, nv, ih, List.length_cons, Nat.pow_succ]
    rw [Nat.mul_add, Nat.mul_right_comm, Nat.mul_comm (10 ^ l.length * nv m) 10, Nat.mul_comm (10 ^ l.length) (nv m)]
    have : 10 * (10 ^ l.length * nv m) = 10 ^ l.length * 10 * nv m := by rw [← Nat.mul_assoc, Nat.mul_comm 10]
    have e2 : nv m * 10 ^ l.length = 10 ^ l.length * nv m := Nat.mul_comm _ _
    first | omega | (rw [Nat.mul_comm] at this; omega)
theorem nv_rep (n : Nat) : nv (List.replicate n 0) = 0 := by
  induction n with
  | zero => rfl
  | succ n ih => simp [List.replicate_succ, nv, ih]
theorem nv_lt {l : List Int} (h : Ds l) : nv l < 10 ^ l.length := by
  induction l with
  | nil => simp [nv]
  | cons x l ih =>
    have h1 := ih h.tail
    have h2 := h.head
    simp only [nv, List.length_cons, Nat.pow_succ]
    omega
/-- A number's digits. -/
def dg (n : Nat) : List Int := if h : n = 0 then [] else ((n % 10 : Nat) : Int) :: dg (n / 10)
decreasing_by omega
theorem dg_zero : dg 0 = [] := by rw [dg]; rfl
theorem dg_pos {n : Nat} (h : n ≠ 0) : dg n = ((n % 10 : Nat) : Int) :: dg (n / 10) := by rw [dg, dif_neg h]
theorem dg_nil {n : Nat} (h : dg n = []) : n = 0 := by
  by_cases h0 : n = 0
  · exact h0
  · rw [dg_pos h0] at h
    cases h
theorem dg_step (x v : Nat) (hx : x < 10) (h : v ≠ 0) : dg (x + 10 * v) = (x : Int) :: dg v := by
  rw [dg_pos (by omega)]
  have h1 : (x + 10 * v) % 10 = x := by omega
  have h2 : (x + 10 * v) / 10 = v := by omega
  rw [h1, h2]
theorem dg_small (x : Nat) (hx : x < 10) (h : x ≠ 0) : dg x = [(x : Int)] := by
  rw [dg_pos h]
  have h1 : x % 10 = x := by omega
  have h2 : x / 10 = 0 := by omega
  rw [h1, h2, dg_zero]
theorem dg_Ds (n : Nat) : Ds (dg n) := by
  induction n using Nat.strongRecOn with
  | ind n ih =>
    by_cases h : n = 0
    · subst h
      rw [dg_zero]
      exact Ds.nil
    · rw [dg_pos h]
      exact Ds.cons (by omega) (ih _ (by omega))
theorem nv_dg (n : Nat) : nv (dg n) = n := by
  induction n using Nat.strongRecOn with
  | ind n ih =>
    by_cases h : n = 0
    · subst h
      rw [dg_zero]
      rfl
    · rw [dg_pos h]
      simp only [nv, ih (n / 10) (by omega)]
      omega
theorem dg_lt (n : Nat) : n < 10 ^ (dg n).length := by
  have := nv_lt (dg_Ds n)
  rwa [nv_dg] at this
theorem dg_ge {n : Nat} (h : n ≠ 0) : 10 ^ ((dg n).length - 1) ≤ n := by
  induction n using Nat.strongRecOn with
  | ind n ih =>
    rw [dg_pos h]
    simp only [List.length_cons, Nat.add_sub_cancel]
    by_cases h1 : n / 10 = 0
    · rw [h1, dg_zero]
      simp
      omega
    · have h2 := ih (n / 10) (by omega) h1
      have h3 : 0 < (dg (n / 10)).length := by
        rcases hq : dg (n / 10) with _ | ⟨x, l⟩
        · exact absurd (dg_nil hq) h1
        · simp
      obtain ⟨j, hj⟩ : ∃ j, (dg (n / 10)).length = j + 1 := ⟨(dg (n / 10)).length - 1, by omega⟩
      rw [hj] at h2 ⊢
      simp only [Nat.add_sub_cancel] at h2
      rw [Nat.pow_succ]
      omega
theorem dg_len_le {n k : Nat} (h : n < 10 ^ k) : (dg n).length ≤ k := by
  by_cases h0 : n = 0
  · subst h0
    rw [dg_zero]
    exact Nat.zero_le _
  · have h1 := dg_ge h0
    have h2 : 10 ^ ((dg n).length - 1) < 10 ^ k := Nat.lt_of_le_of_lt h1 h
    have h3 := (Nat.pow_lt_pow_iff_right (a := 10) (by decide)).1 h2
    omega
/-- A list without noughts at its end. -/
def trimL : List Int → List Int
  | [] => []
  | x :: l => match trimL l with
    | [] => if x = 0 then [] else [x]
    | y :: m => x :: y :: m
theorem trim_dg {l : List Int} (h : Ds l) : trimL l = dg (nv l) := by
  induction l with
  | nil => exact dg_zero.symm
  | cons x l ih =>
    have h1 := ih h.tail
    have h2 := h.head
    unfold trimL
    rw [h1]
    simp only [nv]
    rcases hq : dg (nv l) with _ | ⟨y, m⟩
    · have h3 := dg_nil hq
      rw [h3]
      by_cases h4 : x = 0
      · subst h4
        simp [dg_zero]
      · simp only [h4, if_false]
        have := dg_small x.toNat (by omega) (by omega)
        rw [show x.toNat + 10 * 0 = x.toNat from rfl, this]
        congr 1
        omega
    · have h3 : nv l ≠ 0 := fun h0 => by
        rw [h0, dg_zero] at hq
        cases hq
      simp only []
      rw [dg_step x.toNat _ (by omega) h3, hq]
      congr 1
      omega
theorem trim_snoc0 (l : List Int) : trimL (l ++ [0]) = trimL l := by
  induction l with
  | nil => simp [trimL]
  | cons x l ih => simp only [List.cons_append, trimL, ih]
theorem trim_snoc (l : List Int) {x : Int} (h : x ≠ 0) : trimL (l ++ [x]) = l ++ [x] := by
  induction l with
  | nil => simp [trimL, h]
  | cons y l ih =>
    simp only [List.cons_append, trimL, ih]
    cases l <;> rfl
theorem rd_snoc (l : List Int) (x : Int) (i : Int) (h : i = (l.length : Int)) : rd (l ++ [x]) i = x := by
  unfold rd
  subst h
  simp
theorem w64 {n : Int} (h1 : -9223372036854775808 ≤ n) (h2 : n < 9223372036854775808) : wrap64 n = n := by
  unfold wrap64
  omega
theorem trim_l0 (n : Nat) : ∀ (l : List Int) (k : Nat), l.length = n → n < k → n < 9223372036854775807 → spec_halfTrim.l0 k l = some (trimL l) := by
  induction n with
  | zero =>
    intro l k hl hk _
    obtain ⟨k, rfl⟩ : ∃ j, k = j + 1 := ⟨k - 1, by omega⟩
    obtain rfl := List.eq_nil_of_length_eq_zero hl
    rfl
  | succ n ih =>
    intro l k hl hk hm
    obtain ⟨k, rfl⟩ : ∃ j, k = j + 1 := ⟨k - 1, by omega⟩
    obtain ⟨l', x, rfl⟩ : ∃ l' x, l = l' ++ [x] := by
      rcases List.eq_nil_or_concat l with rfl | ⟨l', x, rfl⟩
      · simp at hl
      · exact ⟨l', x, by simp⟩
    have hl' : l'.length = n := by simpa using hl
    have hw : wrap64 (((l' ++ [x]).length : Int) - 1) = (n : Int) := by
      rw [hl, w64 (by omega) (by omega)]
      omega
    rw [spec_halfTrim.l0, hw, if_pos (by rw [hl]; omega), if_pos (by omega), if_pos (by rw [hl]; omega), rd_snoc l' x _ (by rw [hl'])]
    by_cases hx : x = 0
    · rw [if_pos hx, if_pos (by rw [hl]; omega)]
      have : (l' ++ [x]).take ((n : Int)).toNat = l' := by
        rw [Int.toNat_natCast, ← hl', List.take_left']
        rfl
      rw [this, ih l' k hl' (by omega) (by omega), hx, trim_snoc0]
    · rw [if_neg hx, trim_snoc l' hx]
theorem trim_law {l : List Int} (h : Ds l) (k : Nat) (hk : l.length < k) (hm : l.length < 9223372036854775807) : spec_halfTrim.f k l = some (dg (nv l)) := by
  unfold spec_halfTrim.f
  rw [trim_l0 l.length l k rfl hk hm, trim_dg h]
/-- A product's digits, out of the carry c. -/
def mulL (n : Nat) : Nat → List Int → List Int
  | c, [] => dg c
  | c, x :: l => (((c + x.toNat * n) % 10 : Nat) : Int) :: mulL n ((c + x.toNat * n) / 10) l
theorem mulL_nv (n c : Nat) (l : List Int) : nv (mulL n c l) = c + nv l * n := by
  induction l generalizing c with
  | nil => simp [mulL, nv_dg, nv]
  | cons x l ih =>
    simp only [mulL, nv, ih]
    have h1 : (x.toNat + 10 * nv l) * n = x.toNat * n + 10 * (nv l * n) := by rw [Nat.add_mul, Nat.mul_assoc]
    rw [h1]
    have h2 : (((c + x.toNat * n) % 10 : Nat) : Int).toNat = (c + x.toNat * n) % 10 := by omega
    rw [h2]
    omega
theorem tm10 (m : Nat) : Int.tmod (m : Int) 10 = ((m % 10 : Nat) : Int) := (Int.ofNat_tmod m 10).symm
theorem td10 (m : Nat) : Int.tdiv (m : Int) 10 = ((m / 10 : Nat) : Int) := (Int.ofNat_tdiv m 10).symm
theorem times_l1 (c : Nat) : ∀ (out : List Int) (k : Nat), Ds out → c < 9223372036854775807 → out.length + (dg c).length < 1000000 → out.length + (dg c).length + (dg c).length + 1 < k → spec_HalfDigits_Times.l1 k out (c : Int) = some (dg (nv (out ++ dg c))) := by
  induction c using Nat.strongRecOn with
  | ind c ih =>
    intro out k ho hc hm hk
    obtain ⟨k, rfl⟩ : ∃ j, k = j + 1 := ⟨k - 1, by omega⟩
    rw [spec_HalfDigits_Times.l1]
    by_cases h0 : c = 0
    · subst h0
      rw [if_neg (by decide), dg_zero, List.append_nil]
      rw [dg_zero] at hk hm
      exact (bnd (trim_law ho k (by simp at hk; omega) (by simp at hm; omega)) _).trans rfl
    · rw [dg_pos h0] at hm hk ⊢
      simp only [List.length_cons] at hm hk
      rw [if_pos (by omega), if_pos (by omega), tm10, td10, w64 (by omega) (by omega)]
      rw [ih (c / 10) (by omega) _ k (ho.app (Ds.cons (by omega) Ds.nil)) (by omega) (by simp; omega) (by simp; omega)]
      simp
theorem rd_get {l : List Int} {i : Nat} {x : Int} {m : List Int} (h : l.drop i = x :: m) : rd l (i : Int) = x := by
  unfold rd
  rw [Int.toNat_natCast, List.getD_eq_getElem?_getD]
  have : l[i]? = (l.drop i)[0]? := by rw [List.getElem?_drop]; simp
  rw [this, h]
  rfl
theorem drop_cons_len {l : List Int} {i : Nat} {x : Int} {m : List Int} (h : l.drop i = x :: m) : i < l.length ∧ l.drop (i + 1) = m := by
  have h1 : (l.drop i).length = m.length + 1 := by rw [h]; rfl
  rw [List.length_drop] at h1
  refine ⟨by omega, ?_⟩
  have : l.drop (i + 1) = (l.drop i).drop 1 := by rw [List.drop_drop]
  rw [this, h]
  rfl
theorem times_l0 (n : Nat) (hn : n ≤ 10) (l : List Int) (hd : Ds l) (hl : l.length < 100000) : ∀ (m out : List Int) (i c k : Nat), l.drop i = m → (c < n ∨ c = 0) → Ds out → out.length = i → i + m.length = l.length → 3 * l.length + 20 < k + i → spec_HalfDigits_Times.l0 k (n : Int) out (c : Int) l (l.length : Int) (i : Int) = some (dg (nv (out ++ mulL n c m))) := by
  intro m
  induction m with
  | nil =>
    intro out i c k hm hc ho hi hil hk
    obtain ⟨k, rfl⟩ : ∃ j, k = j + 1 := ⟨k - 1, by simp at hil; omega⟩
    simp only [List.length_nil, Nat.add_zero] at hil
    have hcl : (dg c).length ≤ 1 := dg_len_le (by omega)
    rw [spec_HalfDigits_Times.l0, if_neg (by omega), times_l1 c out k ho (by omega) (by omega) (by omega)]
    rfl
  | cons x m ih =>
    intro out i c k hm hc ho hi hil hk
    obtain ⟨k, rfl⟩ : ∃ j, k = j + 1 := ⟨k - 1, by simp only [List.length_cons] at hil; omega⟩
    obtain ⟨h1, h2⟩ := drop_cons_len hm
    have hx : 0 ≤ x ∧ x < 10 := (hm ▸ hd.drop i : Ds (x :: m)).head
    obtain ⟨y, rfl⟩ := Int.eq_ofNat_of_zero_le hx.1
    have hy : y * n ≤ 9 * n := Nat.mul_le_mul_right _ (by omega)
    have e0 : ((c : Int) + wrap64 ((y : Int) * (n : Int))) = ((c + y * n : Nat) : Int) := by
      rw [show ((y : Int) * (n : Int)) = ((y * n : Nat) : Int) from (Int.natCast_mul _ _).symm, w64 (by omega) (by omega)]
      omega
    rw [spec_HalfDigits_Times.l0, if_pos (by omega), if_pos (by omega), if_pos (by omega), if_pos (by omega), rd_get hm, e0, w64 (n := ((c + y * n : Nat) : Int)) (by omega) (by omega), tm10, td10, w64 (n := (((c + y * n) / 10 : Nat) : Int)) (by omega) (by omega), w64 (n := (i : Int) + 1) (by omega) (by omega)]
    have e1 : (i : Int) + 1 = ((i + 1 : Nat) : Int) := by omega
    simp only [List.length_cons] at hil
    rw [e1, ih _ (i + 1) ((c + y * n) / 10) k h2 (by omega) (ho.app (Ds.cons (by omega) Ds.nil)) (by simp; omega) (by omega) (by omega)]
    simp only [mulL, Int.toNat_natCast, List.append_assoc, List.singleton_append]
theorem times_law (a n : Nat) (hn : n ≤ 10) (hl : (dg a).length < 100000) (k : Nat) (hk : 3 * (dg a).length + 20 < k) : spec_HalfDigits_Times.f k (dg a) (n : Int) = some (dg (a * n)) := by
  unfold spec_HalfDigits_Times.f
  have h := times_l0 n hn (dg a) (dg_Ds a) hl (dg a) [] 0 0 k (by simp) (Or.inr rfl) Ds.nil rfl (by simp) (by omega)
  rw [List.nil_append, mulL_nv, nv_dg, Nat.zero_add] at h
  exact h
theorem ten_law (n : Nat) (h : n < 100000) : spec_HalfTenTo.f (n : Int) = some (dg (10 ^ n)) := by
  unfold spec_HalfTenTo.f
  rw [if_pos (by omega), if_pos (by omega), bnd rfl, if_pos (by rw [List.length_replicate]; omega), Int.toNat_natCast]
  have h1 : Ds (List.replicate n 0 ++ [1]) := (Ds.rep n).app (Ds.cons (by decide) Ds.nil)
  have h2 := trim_dg h1
  rw [trim_snoc _ (by decide), nv_app, nv_rep] at h2
  rw [h2]
  simp [nv]
end Go.Proofs.YtmgnffklmdhooaaDoor.PAll
namespace Go.Proofs.YtmgnffklmdhooaaDoor.PAll
open Go.RowKit Go.Proofs.YtmgnffklmdhooaaDoorW.PrintWords Go.Proofs.YtmgnffklmdhooaaDoorW.PrintLast Go.Proofs.YtmgnffklmdhooaaDoorW.PrintMore
set_option linter.unusedVariables false
set_option linter.unusedSimpArgs false
/-- A sum's digits, out of the carry c. -/
def addL : Nat → List Int → List Int → List Int
  | c, [], [] => dg c
  | c, x :: l, [] => (((c + x.toNat) % 10 : Nat) : Int) :: addL ((c + x.toNat) / 10) l []
  | c, [], y :: m => (((c + y.toNat) % 10 : Nat) : Int) :: addL ((c + y.toNat) / 10) [] m
  | c, x :: l, y :: m => (((c + x.toNat + y.toNat) % 10 : Nat) : Int) :: addL ((c + x.toNat + y.toNat) / 10) l m
theorem addL_nv (c : Nat) (l m : List Int) : nv (addL c l m) = c + nv l + nv m := by
  fun_induction addL c l m
  · simp [nv_dg, nv]
  all_goals
    simp only [nv, *]
    omega
theorem drop_nil_len {l : List Int} {i : Nat} (h : l.drop i = []) : l.length ≤ i := by
  have := congrArg List.length h
  rw [List.length_drop] at this
  simp at this
  omega
theorem plus_l0 (l m : List Int) (hl : Ds l) (hm : Ds m) (hll : l.length < 100000) (hml : m.length < 100000) : ∀ (n : Nat) (out : List Int) (i c k : Nat) (p q : List Int), p.length + q.length + c = n → l.drop i = p → m.drop i = q → c ≤ 1 → Ds out → out.length < 1000000 - n → i < 1000000 - n → 3 * n + l.length + m.length + out.length + 20 < k → spec_HalfDigits_Plus.l0 k l m out (c : Int) (i : Int) = some (dg (nv (out ++ addL c p q))) := by
  intro n
  induction n using Nat.strongRecOn with
  | ind n ih =>
    intro out i c k p q hn hp hq hc ho hol hi hk
    obtain ⟨k, rfl⟩ : ∃ j, k = j + 2 := ⟨k - 2, by omega⟩
    have ei : wrap64 ((i : Int) + 1) = ((i + 1 : Nat) : Int) := by
      rw [w64 (by omega) (by omega)]
      omega
    rw [spec_HalfDigits_Plus.l0]
    have ej : ∀ b : Bool, (p ≠ [] ∨ q ≠ [] ∨ c ≠ 0) → spec_HalfDigits_Plus.j1 (k + 1) l m out (c : Int) (i : Int) true = some (dg (nv (out ++ addL c p q))) := by
      intro _ hne
      rw [spec_HalfDigits_Plus.j1, if_pos rfl]
      rcases p with _ | ⟨x, p⟩
      · have h1 := drop_nil_len hp
        have h3 : l.drop (i + 1) = [] := List.drop_eq_nil_of_le (by omega)
        rw [if_neg (by omega)]
        rcases q with _ | ⟨y, q⟩
        · have h2 := drop_nil_len hq
          have h4 : m.drop (i + 1) = [] := List.drop_eq_nil_of_le (by omega)
          have hc1 : c = 1 := by
            rcases hne with h | h | h
            · exact absurd rfl h
            · exact absurd rfl h
            · omega
          subst hc1
          simp only [List.length_nil] at hn
          rw [if_neg (by omega), if_pos (by omega), tm10, td10, ei, w64 (by omega) (by omega)]
          have := ih 0 (by omega) (out ++ [((1 % 10 : Nat) : Int)]) (i + 1) (1 / 10) k [] [] (by simp) h3 h4 (by omega) (ho.app (Ds.cons (by omega) Ds.nil)) (by simp; omega) (by omega) (by simp; omega)
          rw [this, List.append_assoc]
          have e : [((1 % 10 : Nat) : Int)] ++ addL (1 / 10) [] [] = addL 1 [] [] := by
            simp only [addL]
            rw [show (1 / 10 : Nat) = 0 from rfl, dg_zero, dg_small 1 (by omega) (by omega)]
            rfl
          rw [e]
        · obtain ⟨h2, h4⟩ := drop_cons_len hq
          have hy := (hq ▸ hm.drop i : Ds (y :: q)).head
          obtain ⟨z, rfl⟩ := Int.eq_ofNat_of_zero_le hy.1
          simp only [List.length_cons, List.length_nil] at hn
          have e0 : ((c : Int) + (z : Int)) = ((c + z : Nat) : Int) := by omega
          rw [if_pos (by omega), if_pos (by omega), if_pos (by omega), rd_get hq, e0, w64 (n := ((c + z : Nat) : Int)) (by omega) (by omega), tm10, td10, ei, w64 (by omega) (by omega)]
          rw [ih (q.length + (c + z) / 10) (by omega) _ (i + 1) ((c + z) / 10) k [] q (by simp) h3 h4 (by omega) (ho.app (Ds.cons (by omega) Ds.nil)) (by simp; omega) (by omega) (by simp; omega)]
          simp only [addL, Int.toNat_natCast, List.append_assoc, List.singleton_append]
      · obtain ⟨h1, h3⟩ := drop_cons_len hp
        have hx := (hp ▸ hl.drop i : Ds (x :: p)).head
        obtain ⟨z, rfl⟩ := Int.eq_ofNat_of_zero_le hx.1
        have e0 : ((c : Int) + (z : Int)) = ((c + z : Nat) : Int) := by omega
        rw [if_pos (by omega), if_pos (by omega)]
        rcases q with _ | ⟨y, q⟩
        · have h2 := drop_nil_len hq
          have h4 : m.drop (i + 1) = [] := List.drop_eq_nil_of_le (by omega)
          simp only [List.length_cons, List.length_nil] at hn
          rw [if_neg (by omega), if_pos (by omega), rd_get hp, e0, w64 (n := ((c + z : Nat) : Int)) (by omega) (by omega), tm10, td10, ei, w64 (by omega) (by omega)]
          rw [ih (p.length + (c + z) / 10) (by omega) _ (i + 1) ((c + z) / 10) k p [] (by simp) h3 h4 (by omega) (ho.app (Ds.cons (by omega) Ds.nil)) (by simp; omega) (by omega) (by simp; omega)]
          simp only [addL, Int.toNat_natCast, List.append_assoc, List.singleton_append]
        · obtain ⟨h2, h4⟩ := drop_cons_len hq
          have hy := (hq ▸ hm.drop i : Ds (y :: q)).head
          obtain ⟨t, rfl⟩ := Int.eq_ofNat_of_zero_le hy.1
          simp only [List.length_cons] at hn
          have e1 : (((c + z : Nat) : Int) + (t : Int)) = ((c + z + t : Nat) : Int) := by omega
          rw [if_pos (by omega), if_pos (by omega), rd_get hp, rd_get hq, e0, w64 (n := ((c + z : Nat) : Int)) (by omega) (by omega), e1, w64 (n := ((c + z + t : Nat) : Int)) (by omega) (by omega), tm10, td10, ei, w64 (by omega) (by omega)]
          rw [ih (p.length + q.length + (c + z + t) / 10) (by omega) _ (i + 1) ((c + z + t) / 10) k p q (by omega) h3 h4 (by omega) (ho.app (Ds.cons (by omega) Ds.nil)) (by simp; omega) (by omega) (by simp; omega)]
          simp only [addL, Int.toNat_natCast, List.append_assoc, List.singleton_append]
    rcases p with _ | ⟨x, p⟩
    · have h1 := drop_nil_len hp
      rw [if_neg (by omega)]
      rcases q with _ | ⟨y, q⟩
      · have h2 := drop_nil_len hq
        rw [if_neg (by omega)]
        by_cases h0 : c = 0
        · subst h0
          have e : decide ((((0 : Nat) : Int)) > 0) = false := rfl
          rw [e, spec_HalfDigits_Plus.j1, if_neg (by decide)]
          simp only [addL, dg_zero, List.append_nil]
          exact (bnd (trim_law ho k (by omega) (by omega)) _).trans rfl
        · have e : decide ((c : Int) > 0) = true := decide_eq_true (by omega)
          rw [e]
          exact ej true (Or.inr (Or.inr h0))
      · obtain ⟨h2, h4⟩ := drop_cons_len hq
        rw [if_pos (by omega)]
        exact ej true (Or.inr (Or.inl (by simp)))
    · obtain ⟨h1, h3⟩ := drop_cons_len hp
      rw [if_pos (by omega)]
      exact ej true (Or.inl (by simp))
theorem plus_law (a b : Nat) (ha : (dg a).length < 100000) (hb : (dg b).length < 100000) (k : Nat) (hk : 4 * ((dg a).length + (dg b).length) + 20 < k) : spec_HalfDigits_Plus.f k (dg a) (dg b) = some (dg (a + b)) := by
  unfold spec_HalfDigits_Plus.f
  have h := plus_l0 (dg a) (dg b) (dg_Ds a) (dg_Ds b) ha hb ((dg a).length + (dg b).length) [] 0 0 k (dg a) (dg b) (by simp) (by simp) (by simp) (by omega) Ds.nil (by simp; omega) (by omega) (by simp; omega)
  rw [List.nil_append, addL_nv, nv_dg, nv_dg, Nat.zero_add] at h
  exact h
/-- What Compare answers. -/
def cmpI (a b : Nat) : Int := if a < b then -1 else if b < a then 1 else 0
theorem take_succ_nv {l : List Int} {i : Nat} (h : i < l.length) : nv (l.take (i + 1)) = nv (l.take i) + 10 ^ i * (rd l (i : Int)).toNat := by
  have e : l.take (i + 1) = l.take i ++ [rd l (i : Int)] := by
    rw [List.take_add_one]
    congr 1
    unfold rd
    rw [Int.toNat_natCast, List.getD_eq_getElem?_getD, List.getElem?_eq_getElem h]
    rfl
  rw [e, nv_app]
  have : (l.take i).length = i := by rw [List.length_take]; omega
  rw [this]
  simp [nv]
theorem rd_Ds {l : List Int} (h : Ds l) {i : Nat} (hi : i < l.length) : 0 ≤ rd l (i : Int) ∧ rd l (i : Int) < 10 := by
  unfold rd
  rw [Int.toNat_natCast, List.getD_eq_getElem?_getD, List.getElem?_eq_getElem hi]
  exact h _ (List.getElem_mem hi)
theorem cmp_l0 (l m : List Int) (hl : Ds l) (hm : Ds m) (hlm : l.length = m.length) (hs : l.length < 100000) : ∀ (i k : Nat), i ≤ l.length → i < k → spec_HalfDigits_Compare.l0 k l m ((i : Int) - 1) = some (cmpI (nv (l.take i)) (nv (m.take i))) := by
  intro i
  induction i with
  | zero =>
    intro k _ hk
    obtain ⟨k, rfl⟩ : ∃ j, k = j + 1 := ⟨k - 1, by omega⟩
    rw [spec_HalfDigits_Compare.l0, if_neg (by omega)]
    simp [nv, cmpI]
  | succ i ih =>
    intro k hi hk
    obtain ⟨k, rfl⟩ : ∃ j, k = j + 1 := ⟨k - 1, by omega⟩
    have e : (((i + 1 : Nat) : Int) - 1) = (i : Int) := by omega
    rw [spec_HalfDigits_Compare.l0, e, if_pos (by omega), if_pos (by omega), if_pos (by omega), if_pos (by omega), take_succ_nv (by omega), take_succ_nv (by omega)]
    have h1 := rd_Ds hl (i := i) (by omega)
    have h2 := rd_Ds hm (i := i) (by omega)
    have h3 := nv_lt (hl.take i)
    have h4 := nv_lt (hm.take i)
    rw [List.length_take, Nat.min_eq_left (by omega)] at h3 h4
    generalize 10 ^ i = p at h3 h4 ⊢
    generalize rd l (i : Int) = x at h1 ⊢
    generalize rd m (i : Int) = y at h2 ⊢
    obtain ⟨x, rfl⟩ := Int.eq_ofNat_of_zero_le h1.1
    obtain ⟨y, rfl⟩ := Int.eq_ofNat_of_zero_le h2.1
    simp only [Int.toNat_natCast]
    by_cases hxy : x = y
    · subst hxy
      rw [if_pos rfl, w64 (by omega) (by omega), ih k (by omega) (by omega)]
      unfold cmpI
      congr 1
      simp only [Nat.add_lt_add_iff_right]
    · rw [if_neg (by omega)]
      by_cases hlt : x < y
      · rw [if_pos (by omega)]
        have : p * x + p ≤ p * y := by
          rw [← Nat.mul_succ]
          exact Nat.mul_le_mul_left _ hlt
        unfold cmpI
        rw [if_pos (by omega)]
      · rw [if_neg (by omega)]
        have : p * y + p ≤ p * x := by
          rw [← Nat.mul_succ]
          exact Nat.mul_le_mul_left _ (by omega)
        unfold cmpI
        rw [if_neg (by omega), if_pos (by omega)]
theorem cmp_law (a b : Nat) (ha : (dg a).length < 100000) (hb : (dg b).length < 100000) (k : Nat) (hk : (dg a).length < k) : spec_HalfDigits_Compare.f k (dg a) (dg b) = some (cmpI a b) := by
  unfold spec_HalfDigits_Compare.f
  by_cases h : (dg a).length = (dg b).length
  · rw [if_pos (by omega), w64 (by omega) (by omega), cmp_l0 _ _ (dg_Ds a) (dg_Ds b) h ha _ k (Nat.le_refl _) hk]
    have : (dg b).take (dg a).length = dg b := by rw [h]; exact List.take_length
    rw [List.take_length, this, nv_dg, nv_dg]
  · rw [if_neg (by omega)]
    by_cases hlt : (dg a).length < (dg b).length
    · rw [if_pos (by omega)]
      have hb0 : b ≠ 0 := by
        rintro rfl
        rw [dg_zero] at hlt
        simp at hlt
      have h1 := dg_lt a
      have h2 := dg_ge hb0
      have h3 : 10 ^ (dg a).length ≤ 10 ^ ((dg b).length - 1) := Nat.pow_le_pow_right (by decide) (by omega)
      unfold cmpI
      rw [if_pos (by omega)]
    · rw [if_neg (by omega)]
      have ha0 : a ≠ 0 := by
        rintro rfl
        have : (dg 0).length = 0 := by rw [dg_zero]; rfl
        omega
      have h1 := dg_lt b
      have h2 := dg_ge ha0
      have h3 : 10 ^ (dg b).length ≤ 10 ^ ((dg a).length - 1) := Nat.pow_le_pow_right (by decide) (by omega)
      unfold cmpI
      rw [if_neg (by omega), if_pos (by omega)]
theorem nv_drop {l : List Int} (h : Ds l) (n : Nat) : nv (l.drop n) = nv l / 10 ^ n := by
  induction n generalizing l with
  | zero => simp
  | succ n ih =>
    rcases l with _ | ⟨x, l⟩
    · simp [nv]
    · have := h.head
      rw [List.drop_succ_cons, ih h.tail, Nat.pow_succ, Nat.mul_comm, ← Nat.div_div_eq_div_mul]
      simp only [nv]
      congr 1
      omega
theorem set_mid (n : Nat) (l : List Int) (h : n < l.length) : (List.replicate n 0 ++ l.drop n).set n 0 = List.replicate (n + 1) 0 ++ l.drop (n + 1) := by
  rw [List.set_append_right _ _ (by simp), List.length_replicate, Nat.sub_self, List.replicate_succ', List.append_assoc]
  congr 1
  rw [List.drop_eq_getElem_cons h]
  rfl
theorem cut_l0 (n : Nat) (l : List Int) (hd : Ds l) (hl : l.length < 100000) (hn : n < 100000) : ∀ (j i k : Nat), min n l.length - i = j → i ≤ min n l.length → j + l.length + 5 < k → spec_HalfDigits_Cut.l0 k (n : Int) (List.replicate i 0 ++ l.drop i) (i : Int) = some (dg (nv (List.replicate (min n l.length) 0 ++ l.drop (min n l.length)))) := by
  intro j
  induction j with
  | zero =>
    intro i k hj hi hk
    obtain ⟨k, rfl⟩ : ∃ j, k = j + 1 := ⟨k - 1, by omega⟩
    have hi2 : i = min n l.length := by omega
    have hlen : (List.replicate i (0 : Int) ++ l.drop i).length = l.length := by
      rw [List.length_append, List.length_replicate, List.length_drop]
      omega
    have ht := trim_law ((Ds.rep i).app (hd.drop i)) k (by rw [hlen]; omega) (by rw [hlen]; omega)
    rw [spec_HalfDigits_Cut.l0, ← hi2]
    by_cases h1 : (i : Int) < (n : Int)
    · rw [if_pos h1, if_neg (by rw [hlen]; omega)]
      exact (bnd ht _).trans rfl
    · rw [if_neg h1]
      exact (bnd ht _).trans rfl
  | succ j ih =>
    intro i k hj hi hk
    obtain ⟨k, rfl⟩ : ∃ j, k = j + 1 := ⟨k - 1, by omega⟩
    have hlen : (List.replicate i (0 : Int) ++ l.drop i).length = l.length := by
      rw [List.length_append, List.length_replicate, List.length_drop]
      omega
    rw [spec_HalfDigits_Cut.l0, if_pos (by omega), if_pos (by rw [hlen]; omega), if_pos (by omega), Int.toNat_natCast, set_mid i l (by omega), w64 (by omega) (by omega)]
    have e : (i : Int) + 1 = ((i + 1 : Nat) : Int) := by omega
    rw [e]
    exact ih (i + 1) k (by omega) (by omega) (by omega)
theorem cut_law (a n : Nat) (ha : (dg a).length < 100000) (hn : n < 100000) (k : Nat) (hk : 2 * (dg a).length + 10 < k) : spec_HalfDigits_Cut.f k (dg a) (n : Int) = some (dg (a / 10 ^ n * 10 ^ n)) := by
  unfold spec_HalfDigits_Cut.f
  rw [bnd rfl, if_pos (by simp; omega), List.nil_append]
  have h := cut_l0 n (dg a) (dg_Ds a) ha hn (min n (dg a).length) 0 k (by omega) (by omega) (by omega)
  simp only [List.replicate_zero, List.nil_append, List.drop_zero] at h
  rw [show ((0 : Nat) : Int) = 0 from rfl] at h
  rw [h, nv_app, nv_rep, nv_drop (dg_Ds a), nv_dg, List.length_replicate, Nat.zero_add]
  congr 2
  by_cases h1 : n ≤ (dg a).length
  · rw [Nat.min_eq_left h1, Nat.mul_comm]
  · have h2 := dg_lt a
    have h3 : a < 10 ^ n := Nat.lt_of_lt_of_le h2 (Nat.pow_le_pow_right (by decide) (by omega))
    rw [Nat.min_eq_right (by omega), Nat.div_eq_of_lt h2, Nat.div_eq_of_lt h3]
    simp
end Go.Proofs.YtmgnffklmdhooaaDoor.PAll
namespace Go.Proofs.YtmgnffklmdhooaaDoor.PAll
open Go.RowKit Go.Proofs.YtmgnffklmdhooaaDoorW.PrintWords Go.Proofs.YtmgnffklmdhooaaDoorW.PrintLast Go.Proofs.YtmgnffklmdhooaaDoorW.PrintMore
set_option linter.unusedVariables false
set_option linter.unusedSimpArgs false
theorem bt_str (l : List Int) (i : Nat) (h : i < l.length) (hb : 0 ≤ rd l (i : Int) ∧ rd l (i : Int) < 256) : bt (Go.strOfNums l) (i : Int) = rd l (i : Int) := by
  have hs : i < (Go.strOfNums l).size := by rw [Go.strOfNums_size]; exact h
  have e : rd l (i : Int) = l[i] := by
    unfold rd
    rw [Int.toNat_natCast, List.getD_eq_getElem?_getD, List.getElem?_eq_getElem h]
    rfl
  rw [e] at hb ⊢
  unfold bt
  rw [dif_pos (by rw [Int.toNat_natCast]; exact hs)]
  have h2 : ((Go.strOfNums l)[((i : Int)).toNat]'(by rw [Int.toNat_natCast]; exact hs)) = UInt8.ofNat (l[i]).toNat := by
    show (Go.strOfNums l).data[((i : Int)).toNat]'_ = _
    simp [Go.strOfNums]
  rw [h2]
  simp only [UInt8.toNat_ofNat']
  omega
/-- A text's number, the point left out. -/
def bv (l : List Int) : Nat := l.foldl (fun a x => if x = 46 then a else 10 * a + (x.toNat - 48)) 0
theorem bv_snoc (l : List Int) (x : Int) : bv (l ++ [x]) = if x = 46 then bv l else 10 * bv l + (x.toNat - 48) := by
  unfold bv
  rw [List.foldl_append]
  rfl
theorem take_rd (l : List Int) (i : Nat) (h : i < l.length) : l.take (i + 1) = l.take i ++ [rd l (i : Int)] := by
  rw [List.take_add_one]
  congr 1
  unfold rd
  rw [Int.toNat_natCast, List.getD_eq_getElem?_getD, List.getElem?_eq_getElem h]
  rfl
/-- The text l has its point at P (its length: none), else digits. -/
structure Tx (l : List Int) (P : Nat) : Prop where
  le : P ≤ l.length
  pt : P < l.length → rd l (P : Int) = 46
  dig : ∀ i, i < l.length → i ≠ P → 48 ≤ rd l (i : Int) ∧ rd l (i : Int) ≤ 57
theorem Tx.oct {l : List Int} {P : Nat} (h : Tx l P) (i : Nat) (hi : i < l.length) : 0 ≤ rd l (i : Int) ∧ rd l (i : Int) < 256 := by
  by_cases hP : i = P
  · subst hP
    rw [h.pt hi]
    decide
  · have := h.dig i hi hP
    omega
theorem read_l1 (l : List Int) (P : Nat) (h : Tx l P) (hl : l.length < 10000) : ∀ (i k : Nat) (acc : List Int), i ≤ l.length → Ds acc → acc.length + i < 100000 → acc.length + 2 * i + 20 < k → spec_ReadHalfDigits.l1 k (Go.strOfNums l) (P : Int) acc ((i : Int) - 1) = some (dg (nv acc + 10 ^ acc.length * bv (l.take i)), true) := by
  intro i
  induction i with
  | zero =>
    intro k acc _ ha hal hk
    obtain ⟨k, rfl⟩ : ∃ j, k = j + 1 := ⟨k - 1, by omega⟩
    rw [spec_ReadHalfDigits.l1, if_neg (by omega)]
    refine (bnd (trim_law ha k (by omega) (by omega)) _).trans ?_
    simp [bv]
  | succ i ih =>
    intro k acc hi ha hal hk
    obtain ⟨k, rfl⟩ : ∃ j, k = j + 1 := ⟨k - 1, by omega⟩
    have e : (((i + 1 : Nat) : Int) - 1) = (i : Int) := by omega
    rw [spec_ReadHalfDigits.l1, e, if_pos (by omega), w64 (by omega) (by omega), take_rd l i (by omega), bv_snoc]
    by_cases hP : i = P
    · subst hP
      rw [if_pos rfl, ih k acc (by omega) ha (by omega) (by omega), h.pt (by omega), if_pos rfl]
    · have hd := h.dig i (by omega) hP
      rw [if_neg (by omega), if_pos (by omega), if_pos (by rw [Go.strOfNums_size]; omega), if_pos (by omega), bt_str l i (by omega) (h.oct i (by omega)), if_neg (by omega)]
      generalize rd l (i : Int) = x at hd ⊢
      obtain ⟨y, rfl⟩ : ∃ y : Nat, x = (48 + y : Nat) := ⟨(x - 48).toNat, by omega⟩
      have e2 : (((48 + y : Nat) : Int) - 48) % 256 = (y : Int) := by omega
      rw [e2, ih k _ (by omega) (ha.app (Ds.cons (by omega) Ds.nil)) (by simp; omega) (by simp; omega), nv_app]
      congr 3
      simp only [nv, List.length_append, List.length_cons, List.length_nil, Int.toNat_natCast, Nat.pow_succ, Nat.zero_add, Nat.mul_zero, Nat.add_zero, Nat.pow_zero, Nat.one_mul]
      have e3 : 48 + y - 48 = y := by omega
      rw [e3, Nat.mul_add, ← Nat.mul_assoc]
      omega
/-- What ReadHalfDigits lets in. -/
structure Tok (l : List Int) (P : Nat) : Prop where
  tx : Tx l P
  len : l.length < 10000
  p0 : P ≠ 0
  p1 : P + 1 ≠ l.length
  pl : l.length - P ≤ 201
  h0 : rd l 0 = 48 → P ≤ 1
  hz : P < l.length → rd l ((l.length - 1 : Nat) : Int) ≠ 48
theorem read_l0 (l : List Int) (P : Nat) (h : Tok l P) : ∀ (j i k : Nat), l.length - i = j → i ≤ l.length → 2 * j + 3 * l.length + 500 ≤ k → spec_ReadHalfDigits.l0 k (Go.strOfNums l) ((if i ≤ P then l.length else P : Nat) : Int) (i : Int) = some (dg (10 ^ (200 - (l.length - P - 1)) * bv l), true) := by
  have hs : (Go.strOfNums l).size = l.length := Go.strOfNums_size l
  have hle := h.tx.le
  have hlen := h.len
  intro j
  induction j with
  | zero =>
    intro i k hj hi hk
    obtain ⟨k, rfl⟩ : ∃ j, k = j + 3 := ⟨k - 3, by omega⟩
    have hil : i = l.length := by omega
    have e0 : (if i ≤ P then l.length else P) = P := by split <;> omega
    have hp0 := h.p0
    have hp1 := h.p1
    have hpl := h.pl
    have e1 : mx (wrap64 ((wrap64 ((l.length : Int) - (P : Int))) - 1)) 0 = ((l.length - P - 1 : Nat) : Int) := by
      rw [w64 (n := (l.length : Int) - (P : Int)) (by omega) (by omega), w64 (by omega) (by omega)]
      unfold mx
      split <;> omega
    have e2 : wrap64 ((l.length : Int) - 1) = ((l.length - 1 : Nat) : Int) := by
      rw [w64 (by omega) (by omega)]
      omega
    have hlast : spec_ReadHalfDigits.j2 (k + 2) (Go.strOfNums l) (P : Int) ((l.length - P - 1 : Nat) : Int) false = some (dg (10 ^ (200 - (l.length - P - 1)) * bv l), true) := by
      have e3 : wrap64 (200 - ((l.length - P - 1 : Nat) : Int)) = ((200 - (l.length - P - 1) : Nat) : Int) := by
        rw [w64 (by omega) (by omega)]
        omega
      rw [spec_ReadHalfDigits.j2, if_neg (by decide), e3, if_pos (by omega), Int.toNat_natCast, if_pos (by omega), hs, e2]
      have e4 : ((l.length - 1 : Nat) : Int) = ((l.length : Int) - 1) := by omega
      have hr := read_l1 l P h.tx hlen l.length (k + 1) (List.replicate (200 - (l.length - P - 1)) 0) (Nat.le_refl _) (Ds.rep _) (by simp; omega) (by simp; omega)
      rw [e4, hr, nv_rep, List.length_replicate, List.take_length, Nat.zero_add]
    have hpos : 0 < l.length := by omega
    have hb0 : bt (Go.strOfNums l) 0 = rd l 0 := bt_str l 0 hpos (h.tx.oct 0 hpos)
    have hbz := bt_str l (l.length - 1) (by omega) (h.tx.oct (l.length - 1) (by omega))
    have hend : (if ((l.length - P - 1 : Nat) : Int) > 0 then (if 0 ≤ ((l.length - 1 : Nat) : Int) then (if ((l.length - 1 : Nat) : Int) < (l.length : Int) then (spec_ReadHalfDigits.j2 (k + 2) (Go.strOfNums l) (P : Int) ((l.length - P - 1 : Nat) : Int) ((bt (Go.strOfNums l) ((l.length - 1 : Nat) : Int)) == 48)) else (none)) else (none)) else (spec_ReadHalfDigits.j2 (k + 2) (Go.strOfNums l) (P : Int) ((l.length - P - 1 : Nat) : Int) false)) = some (dg (10 ^ (200 - (l.length - P - 1)) * bv l), true) := by
      by_cases hpp : ((l.length - P - 1 : Nat) : Int) > 0
      · have : (bt (Go.strOfNums l) ((l.length - 1 : Nat) : Int) == 48) = false := by
          rw [hbz]
          exact beq_eq_false_iff_ne.mpr (h.hz (by omega))
        rw [if_pos hpp, if_pos (by omega), if_pos (by omega), this]
        exact hlast
      · rw [if_neg hpp]
        exact hlast
    rw [spec_ReadHalfDigits.l0, e0, hs, if_neg (by omega), if_neg (by omega), e2, if_neg (by omega), e1, if_neg (by omega), if_pos (by omega), hb0]
    by_cases hz : rd l 0 = 48
    · have := h.h0 hz
      rw [if_pos hz, if_neg (by omega)]
      exact hend
    · rw [if_neg hz]
      exact hend
  | succ j ih =>
    intro i k hj hi hk
    obtain ⟨k, rfl⟩ : ∃ j, k = j + 2 := ⟨k - 2, by omega⟩
    have hi1 : i < l.length := by omega
    have ei : wrap64 ((i : Int) + 1) = ((i + 1 : Nat) : Int) := by
      rw [w64 (by omega) (by omega)]
      omega
    have hbt := bt_str l i hi1 (h.tx.oct i hi1)
    have hnx := ih (i + 1) k (by omega) (by omega) (by omega)
    rw [spec_ReadHalfDigits.l0, hs, if_pos (by omega), if_pos (by omega), hbt]
    by_cases hP : i = P
    · subst hP
      have e1 : (if i ≤ i then l.length else i) = l.length := if_pos (Nat.le_refl _)
      have e2 : (if i + 1 ≤ i then l.length else i) = i := if_neg (by omega)
      rw [h.tx.pt hi1, if_pos rfl, e1]
      have e3 : ((l.length : Int) == (l.length : Int)) = true := beq_iff_eq.mpr rfl
      rw [e3, spec_ReadHalfDigits.j1, if_pos rfl, ei]
      rw [e2] at hnx
      exact hnx
    · have hd := h.tx.dig i hi1 hP
      have e1 : (if i + 1 ≤ P then l.length else P) = (if i ≤ P then l.length else P) := by
        by_cases h1 : i + 1 ≤ P
        · rw [if_pos h1, if_pos (by omega)]
        · rw [if_neg h1, if_neg (by omega)]
      rw [if_neg (by omega), spec_ReadHalfDigits.j1, if_neg (by decide), if_pos (by omega), hs, if_pos (by omega), hbt, if_neg (by omega), if_neg (by omega), ei, ← e1]
      exact hnx
theorem read_law (l : List Int) (P : Nat) (h : Tok l P) (k : Nat) (hk : 5 * l.length + 500 ≤ k) : spec_ReadHalfDigits.f k (Go.strOfNums l) = some (dg (10 ^ (200 - (l.length - P - 1)) * bv l), true) := by
  have := read_l0 l P h l.length 0 k (by omega) (by omega) (by omega)
  rw [if_pos (Nat.zero_le _)] at this
  unfold spec_ReadHalfDigits.f
  rw [Go.strOfNums_size]
  exact this
end Go.Proofs.YtmgnffklmdhooaaDoor.PAll
namespace Go.Proofs.YtmgnffklmdhooaaDoor.PAll
open Go.RowKit Go.Proofs.YtmgnffklmdhooaaDoorW.PrintWords Go.Proofs.YtmgnffklmdhooaaDoorW.PrintLast Go.Proofs.YtmgnffklmdhooaaDoorW.PrintMore
set_option linter.unusedVariables false
set_option linter.unusedSimpArgs false
def bF (a : Nat) (l : List Int) : Nat := l.foldl (fun a x => if x = 46 then a else 10 * a + (x.toNat - 48)) a
theorem bv_bF (l : List Int) : bv l = bF 0 l := rfl
theorem bF_app (a : Nat) (l m : List Int) : bF a (l ++ m) = bF (bF a l) m := List.foldl_append
theorem bF_rep (a n : Nat) : bF a (List.replicate n 48) = a * 10 ^ n := by
  induction n generalizing a with
  | zero => simp [bF]
  | succ n ih =>
    have e : bF a (List.replicate (n + 1) 48) = bF (10 * a + 0) (List.replicate n 48) := by
      rw [List.replicate_succ]
      rfl
    rw [e, ih, Nat.pow_succ, Nat.add_zero, Nat.mul_comm 10 a, Nat.mul_assoc, Nat.mul_comm 10]
theorem range_split (c : Nat → Int) (D n : Nat) (h : D ≤ n) : (List.range n).map c = (List.range D).map c ++ (List.range (n - D)).map (fun q => c (D + q)) := by
  apply List.ext_getElem (by simp; omega)
  intro i h1 h2
  simp only [List.getElem_map, List.getElem_range, List.getElem_append, List.length_map, List.length_range]
  split
  · rfl
  · congr 1
    omega
theorem rd_map (c : Nat → Int) (n i : Nat) (h : i < n) : rd ((List.range n).map c) (i : Int) = c i := by
  unfold rd
  rw [Int.toNat_natCast, List.getD_eq_getElem?_getD]
  simp [h]
theorem rd_app1 (l m : List Int) (i : Nat) (h : i < l.length) : rd (l ++ m) (i : Int) = rd l (i : Int) := by
  unfold rd
  rw [Int.toNat_natCast, List.getD_eq_getElem?_getD, List.getD_eq_getElem?_getD, List.getElem?_append_left h]
theorem rd_app2 (l m : List Int) (i : Nat) (h : l.length ≤ i) : rd (l ++ m) (i : Int) = rd m ((i - l.length : Nat) : Int) := by
  unfold rd
  rw [Int.toNat_natCast, Int.toNat_natCast, List.getD_eq_getElem?_getD, List.getD_eq_getElem?_getD, List.getElem?_append_right h]
theorem rd_rep (n i : Nat) (x : Int) (h : i < n) : rd (List.replicate n x) (i : Int) = x := by
  unfold rd
  rw [Int.toNat_natCast, List.getD_eq_getElem?_getD]
  simp [h]
theorem efg_tok (c : Nat → Int) (nd : Nat) (dp : Int) (h0 : 0 < nd) (h9 : nd ≤ 50) (hc : ∀ i, i < nd → 48 ≤ c i ∧ c i ≤ 57) (hf : c 0 ≠ 48) (hz : c (nd - 1) ≠ 48) (hlo : -100 < dp) (hhi : dp < 100) :
    ∃ P, Tok (efgR false c dp nd) P ∧ 10 ^ (200 - ((efgR false c dp nd).length - P - 1)) * bv (efgR false c dp nd) = bv ((List.range nd).map c) * 10 ^ ((200 + dp - nd).toNat) := by
  have hne : ∀ x, x ∈ (List.range nd).map c → x ≠ 46 := fun x hx => by
    obtain ⟨i, hi, rfl⟩ := List.mem_map.1 hx
    have := hc i (List.mem_range.1 hi)
    omega
  unfold efgR
  simp only [Bool.false_eq_true, if_false, List.nil_append]
  by_cases hd : 0 < dp
  · rw [if_pos hd]
    obtain ⟨D, rfl⟩ := Int.eq_ofNat_of_zero_le (Int.le_of_lt hd)
    rw [Int.toNat_natCast]
    by_cases h2 : nd ≤ D
    · rw [if_pos h2]
      have hlen : ((List.range nd).map c ++ List.replicate (D - nd) (48 : Int)).length = D := by simp; omega
      refine ⟨D, ⟨⟨by omega, by omega, fun i hi _ => ?_⟩, by omega, by omega, by omega, by omega, fun h => ?_, by omega⟩, ?_⟩
      · by_cases h3 : i < nd
        · rw [rd_app1 _ _ _ (by simpa using h3), rd_map c nd i h3]
          exact hc i h3
        · rw [rd_app2 _ _ _ (by simp; omega), rd_rep _ _ _ (by simp; omega)]
          decide
      · have := rd_app1 ((List.range nd).map c) (List.replicate (D - nd) 48) 0 (by simpa using h0)
        rw [rd_map c nd 0 h0] at this
        exact absurd (this.symm.trans h) hf
      · rw [hlen, bv_bF, bF_app, bF_rep, ← bv_bF]
        have e : ((200 + (D : Int) - (nd : Int)).toNat) = 200 + (D - nd) := by omega
        rw [e, Nat.pow_add, Nat.mul_comm, Nat.mul_assoc, show 200 - (D - D - 1) = 200 by omega, Nat.mul_comm (10 ^ (D - nd))]
    · rw [if_neg h2]
      have hlen : ((List.range D).map c ++ ([46] ++ (List.range (nd - D)).map (fun q => c (D + q)))).length = nd + 1 := by simp; omega
      have hr : ∀ i, i < D → rd ((List.range D).map c ++ ([46] ++ (List.range (nd - D)).map (fun q => c (D + q)))) (i : Int) = c i := fun i h3 => by
        rw [rd_app1 _ _ _ (by simpa using h3), rd_map c D i h3]
      have hr2 : ∀ i, D < i → i ≤ nd → rd ((List.range D).map c ++ ([46] ++ (List.range (nd - D)).map (fun q => c (D + q)))) (i : Int) = c (i - 1) := fun i h3 h4 => by
        rw [rd_app2 _ _ _ (by simp; omega), rd_app2 _ _ _ (by simp; omega), rd_map _ _ _ (by simp; omega)]
        congr 1
        simp
        omega
      refine ⟨D, ⟨⟨by omega, fun _ => ?_, fun i hi hP => ?_⟩, by omega, by omega, by omega, by omega, fun h => ?_, fun _ => ?_⟩, ?_⟩
      · rw [rd_app2 _ _ _ (by simp), rd_app1 _ _ _ (by simp)]
        simp [rd]
      · by_cases h3 : i < D
        · rw [hr i h3]
          exact hc i (by omega)
        · rw [hr2 i (by omega) (by omega)]
          exact hc _ (by omega)
      · have := hr 0 (by omega)
        exact absurd (this.symm.trans h) hf
      · rw [hlen, hr2 _ (by omega) (by omega)]
        exact hz
      · have hb : bv ((List.range D).map c ++ ([46] ++ (List.range (nd - D)).map (fun q => c (D + q)))) = bv ((List.range nd).map c) := by
          rw [range_split c D nd (by omega), bv_bF, bv_bF, bF_app, bF_app, bF_app]
          rfl
        have e : ((200 + (D : Int) - (nd : Int)).toNat) = 200 - (nd + 1 - D - 1) := by omega
        rw [hlen, hb, e, Nat.mul_comm]
  · rw [if_neg hd]
    obtain ⟨D, hD⟩ := Int.eq_ofNat_of_zero_le (show 0 ≤ -dp by omega)
    rw [hD, Int.toNat_natCast]
    have hlen : ([48, 46] ++ (List.replicate D 48 ++ (List.range nd).map c)).length = D + nd + 2 := by simp
    have hr : ∀ i, D + 2 ≤ i → i < D + nd + 2 → rd ([48, 46] ++ (List.replicate D 48 ++ (List.range nd).map c)) (i : Int) = c (i - (D + 2)) := fun i h3 h4 => by
      rw [rd_app2 _ _ _ (by simp; omega), rd_app2 _ _ _ (by simp; omega), rd_map _ _ _ (by simp; omega)]
      congr 1
      simp
      omega
    refine ⟨1, ⟨⟨by omega, fun _ => by simp [rd], fun i hi hP => ?_⟩, by omega, by omega, by omega, by omega, fun h => by omega, fun _ => ?_⟩, ?_⟩
    · by_cases h3 : i = 0
      · subst h3
        simp [rd]
      · by_cases h4 : i < D + 2
        · rw [rd_app2 _ _ _ (by simp; omega), rd_app1 _ _ _ (by simp; omega), rd_rep _ _ _ (by simp; omega)]
          decide
        · rw [hr i (by omega) (by omega)]
          exact hc _ (by omega)
    · rw [hlen, hr _ (by omega) (by omega), show D + nd + 2 - 1 - (D + 2) = nd - 1 by omega]
      exact hz
    · have hb : bv ([48, 46] ++ (List.replicate D 48 ++ (List.range nd).map c)) = bv ((List.range nd).map c) := by
        rw [bv_bF, bF_app, bF_app, show bF 0 [48, 46] = 0 from rfl, bF_rep, Nat.zero_mul]
        rfl
      have e : ((200 + dp - (nd : Int)).toNat) = 200 - (D + nd + 2 - 1 - 1) := by omega
      rw [hlen, hb, e, Nat.mul_comm]
theorem bv_dgC (n R : Nat) (hR : R < 10 ^ n) (nd : Nat) (h : nd ≤ n) : bv ((List.range nd).map (dgC n R)) = R / 10 ^ (n - nd) := by
  induction nd with
  | zero =>
    rw [Nat.sub_zero, Nat.div_eq_of_lt hR]
    rfl
  | succ nd ih =>
    have e : (List.range (nd + 1)).map (dgC n R) = (List.range nd).map (dgC n R) ++ [dgC n R nd] := by
      rw [List.range_succ, List.map_append]
      rfl
    have h1 : dgC n R nd ≠ 46 := by
      unfold dgC
      omega
    rw [e, bv_snoc, if_neg h1, ih (by omega)]
    unfold dgC
    have e2 : n - nd = (n - 1 - nd) + 1 := by omega
    have e3 : n - (nd + 1) = n - 1 - nd := by omega
    rw [e2, e3, Nat.pow_succ, ← Nat.div_div_eq_div_mul, Int.toNat_natCast]
    omega
end Go.Proofs.YtmgnffklmdhooaaDoor.PAll
namespace Go.Proofs.YtmgnffklmdhooaaDoor.PAll
open Go.RowKit Go.Proofs.YtmgnffklmdhooaaDoorW.PrintWords Go.Proofs.YtmgnffklmdhooaaDoorW.PrintLast Go.Proofs.YtmgnffklmdhooaaDoorW.PrintMore
set_option linter.unusedVariables false
set_option linter.unusedSimpArgs false
/-- The value v holds the digits of n; its block is one of ok. -/
def DV (ok : Nat → Prop) (W : World) (v : Value) (n : Nat) : Prop := Kd.V (Kd.int .i64) 3 W 0 ok v (dg n)
theorem DV.step {ok : Nat → Prop} {W W' : World} {v : Value} {n : Nat} (h : DV ok W v n) (hb : Below W.heap.size W W') : DV ok W' v n := Kd.V_below h hb
theorem DV.mono {ok ok' : Nat → Prop} {W : World} {v : Value} {n : Nat} (h : DV ok W v n) (hk : ∀ k, ok k → ok' k) : DV ok' W v n := Kd.V_mono h hk
theorem DV.bound {ok : Nat → Prop} {W : World} {v : Value} {n : Nat} (h : DV ok W v n) : DV (fun k => ok k ∧ k < W.heap.size) W v n := Kd.V_bound h
theorem DV.mk {W : World} {v : Value} {n base : Nat} {ok : Nat → Prop} (h : Kd.V (Kd.int .i64) 3 W base ok v (dg n)) : DV ok W v n := Kd.V_lower (base' := 0) h (Nat.zero_le _)
theorem DV.open {ok : Nat → Prop} {W : World} {v : Value} {n : Nat} (h : DV ok W v n) : ∃ A c, v = .slice A (dg n).length c ∧ (dg n).length ≤ c ∧ Kd.C (Kd.int .i64) W A (dg n).length (dg n) := by
  obtain ⟨A, c, rfl⟩ := Kd.V_slice h
  exact ⟨A, c, rfl, (Kd.V_reads' h).2⟩
abbrev Ans (w : World) (n : Nat) : Value → World → Prop := fun v W => DV (fun k => w.heap.size ≤ k) W v n ∧ Below w.heap.size w W
theorem times_walk (a n : Nat) (hn : n ≤ 10) (hl : (dg a).length < 100000) {ok : Nat → Prop} (w : World) (v : Value) (h : DV ok w v a) :
    Calls Tryd.prog 22 #[v, .int .i64 (n : Int)] w fun e w' => ∃ v', e = .returned v' ∧ Ans w (a * n) v' w' := by
  obtain ⟨A, c, rfl, hc, hC⟩ := h.open
  exact (spec_HalfDigits_Times.calls _ A c (dg a) n _ w hC hc (times_law a n hn hl _ (Nat.lt_succ_self _))).mono fun e w' hh => by
    obtain ⟨v', h1, h2, h3⟩ := hh
    exact ⟨v', h1, DV.mk h2, h3⟩
theorem plus_walk (a b : Nat) (hl : (dg a).length < 100000) (hm : (dg b).length < 100000) {ok ok' : Nat → Prop} (w : World) (u v : Value) (h : DV ok w u a) (h' : DV ok' w v b) :
    Calls Tryd.prog 20 #[u, v] w fun e w' => ∃ v', e = .returned v' ∧ Ans w (a + b) v' w' := by
  obtain ⟨A, c, rfl, hc, hC⟩ := h.open
  obtain ⟨A', c', rfl, hc', hC'⟩ := h'.open
  exact (spec_HalfDigits_Plus.calls _ A c (dg a) A' c' (dg b) _ w hC hc hC' hc' (plus_law a b hl hm _ (Nat.lt_succ_self _))).mono fun e w' hh => by
    obtain ⟨v', h1, h2, h3⟩ := hh
    exact ⟨v', h1, DV.mk h2, h3⟩
theorem cut_walk (a n : Nat) (hl : (dg a).length < 100000) (hn : n < 100000) {ok : Nat → Prop} (w : World) (v : Value) (h : DV ok w v a) :
    Calls Tryd.prog 19 #[v, .int .i64 (n : Int)] w fun e w' => ∃ v', e = .returned v' ∧ Ans w (a / 10 ^ n * 10 ^ n) v' w' := by
  obtain ⟨A, c, rfl, hc, hC⟩ := h.open
  exact (spec_HalfDigits_Cut.calls _ A c (dg a) n _ w hC hc (cut_law a n hl hn _ (Nat.lt_succ_self _))).mono fun e w' hh => by
    obtain ⟨v', h1, h2, h3⟩ := hh
    exact ⟨v', h1, DV.mk h2, h3⟩
theorem cmp_walk (a b : Nat) (hl : (dg a).length < 100000) (hm : (dg b).length < 100000) {ok ok' : Nat → Prop} (w : World) (u v : Value) (h : DV ok w u a) (h' : DV ok' w v b) :
    Calls Tryd.prog 18 #[u, v] w fun e w' => e = .returned (.int .i64 (cmpI a b)) ∧ Below w.heap.size w w' := by
  obtain ⟨A, c, rfl, hc, hC⟩ := h.open
  obtain ⟨A', c', rfl, hc', hC'⟩ := h'.open
  exact (spec_HalfDigits_Compare.calls _ A c (dg a) A' c' (dg b) _ w hC hc hC' hc' (cmp_law a b hl hm _ (Nat.lt_succ_self _))).mono fun e w' hh => ⟨hh.1, hh.2.below⟩
theorem ten_walk (n : Nat) (hn : n < 100000) (w : World) :
    Calls Tryd.prog 21 #[.int .i64 (n : Int)] w fun e w' => ∃ v', e = .returned v' ∧ Ans w (10 ^ n) v' w' :=
  (spec_HalfTenTo.calls (n : Int) _ w (ten_law n hn)).mono fun e w' hh => by
    obtain ⟨v', h1, h2, h3⟩ := hh
    have h4 := Kd.R_bound h2
    exact ⟨v', h1, DV.mk (Kd.R_V (base' := 0) (Kd.R_mono h4 (fun k hk => hk.2.1))), h3⟩
theorem trim_walk (a : Nat) (hl : (dg a).length < 100000) {ok : Nat → Prop} (w : World) (v : Value) (h : DV ok w v a) :
    Calls Tryd.prog 15 #[v] w fun e w' => ∃ v', e = .returned v' ∧ DV (fun k => ok k ∨ w.heap.size ≤ k) w' v' a ∧ Below w.heap.size w w' := by
  have h0 : Kd.V (Kd.int .i64) 3 w w.heap.size ok v (dg a) := h
  obtain ⟨A, c, rfl⟩ := Kd.V_slice h
  have ht := trim_law (dg_Ds a) _ (Nat.lt_succ_self _) (by omega)
  rw [nv_dg] at ht
  exact (spec_halfTrim.calls _ ok A c (dg a) _ w h0 ht).mono fun e w' hh => by
    obtain ⟨v', h1, h2, h3⟩ := hh
    exact ⟨v', h1, DV.mk h2, h3⟩
theorem read_walk (l : List Int) (P : Nat) (h : Tok l P) (w : World) :
    Calls Tryd.prog 7 #[.string (Go.strOfNums l)] w fun e w' => ∃ v', e = .returned (.tuple #[v', .bool true]) ∧ Ans w (10 ^ (200 - (l.length - P - 1)) * bv l) v' w' :=
  (spec_ReadHalfDigits.calls _ _ _ _ w (read_law l P h _ (Nat.le_refl _))).mono fun e w' hh => by
    obtain ⟨v', h1, h2, h3⟩ := hh
    exact ⟨v', h1, DV.mk h2, h3⟩
/-- A row of ints that is the walk's own. -/
structure DI (w0 : World) (W : World) (v : Value) (l : List Int) : Prop where
  row : Kd.R (Kd.int .i64) 3 W w0.heap.size (fun k => w0.heap.size ≤ k) v l
  bel : Below w0.heap.size w0 W
theorem build_i64 (W : World) (x : Int) : (Instr.buildSlice 29 1 #[(0, .int .i64 x)]).run Tryd.prog W = .ok (.slice (some ⟨W.heap.size, 0, none⟩) 1 1) (W.alloc (.cells #[.int .i64 x] 3)) := by
  cases hq : Tryd.prog.info? 3 with
  | none => exact absurd (show (Tryd.prog.info? 3).isSome = true by kernel_rfl) (by simp [hq])
  | some ie =>
    have h1 : (Tryd.prog.info? 3).map (fun i => (i.zero, i.size)) = some (some (.int .i64 0), 1) := by kernel_rfl
    rw [hq] at h1
    simp only [Option.map_some, Option.some.injEq, Prod.mk.injEq] at h1
    obtain ⟨hz, hs⟩ := h1
    refine run_buildSlice W _ _ 1 _ _ ie _ Tryd.underlying29 hq hz (by rw [hs]; decide) (by rw [hs]; decide) ?_
    rw [hs]
    kernel_rfl
theorem push64_ops {ops : Array Oper} {Q : Exit → Act → World → Prop} {N : Nat} {β : Nat → Nat} {i j d1 d2 ts : Nat} {o1 o2 : Oper} {xo : Operand} {rest : List Nat} {a : Act} {E : List (Nat × SV)} {w0 W : World} {v : Value} {l : List Int} {x : Int}
    (hD : DI w0 W v l) (hl : l.length < 1000000) (hA : Has N β E a) (ho1 : ops[i]? = some o1) (hg1 : o1.guard = none) (hd1 : o1.dst = some d1) (hN1 : d1 < N) (hop1 : o1.op = .buildSlice 29 1 #[(0, xo)]) (hx : a.eval xo = .int .i64 x)
    (ho2 : ops[j]? = some o2) (hg2 : o2.guard = none) (hd2 : o2.dst = some d2) (hN2 : d2 < N) (hop2 : o2.op = .call { callee := .builtin .append, args := #[.tmp ts, .tmp d1], argTypes := #[29, 29] }) (hts : Nat.beq d1 ts = false) (hv : look E ts = some (.v v))
    (h : ∀ v1 W1 a', DI w0 W1 v1 (l ++ [x]) → Has N β ((d2, .v v1) :: (d1, .v (.slice (some ⟨W.heap.size, 0, none⟩) 1 1)) :: E) a' → a'.defers = a.defers → wpOps Tryd.prog ops Q rest a' W1) : wpOps Tryd.prog ops Q (i :: j :: rest) a W := by
  refine new_ops (N := N) (i := i) (d := d1) (l := j :: rest) ho1 hg1 hd1 hN1 hA (op_buildSlice1 hop1 hx (build_i64 W x)) (fun a1 h1 e1 => ?_)
  have hcell : ∀ q, q < 1 → (W.alloc (.cells #[.int .i64 x] 3)).cell? ⟨W.heap.size, 0 + q, none⟩ = some (.int .i64 ((fun _ => x) q)) := fun q hq => by
    obtain rfl : q = 0 := by omega
    exact (bl_new W #[.int .i64 x] 3 (fun _ => .int .i64 x) (fun k hk => by
      have : k < 1 := hk
      obtain rfl : k = 0 := by omega
      rfl)).cell 0 (show 0 < 1 by decide)
  have HR := cells_C hcell (by decide)
  have B1 : Below w0.heap.size w0 (W.alloc (.cells #[.int .i64 x] 3)) := below_alloc hD.bel _
  have R1 : Kd.R (Kd.int .i64) 3 (W.alloc (.cells #[.int .i64 x] 3)) w0.heap.size (fun k => w0.heap.size ≤ k) v l := Kd.R_alloc hD.row _
  have hsz : (W.alloc (.cells #[.int .i64 x] 3)).heap.size = W.heap.size + 1 := alloc_size _ _
  refine app_ops (N := N) (i := j) (dst := d2) (l := rest) (Kd.int .i64) (w0 := w0) w0.heap.size ho2 hg2 hd2 hN2 h1 (.tmp ts) (.tmp d1) 29 3 (.int .i64 0) 8 hop2 Tryd.underlying29 (by kernel_rfl) rfl (by decide) (by decide) v l ((List.range 1).map (fun _ => x)) (some ⟨W.heap.size, 0, none⟩) 1 1 (fun k => w0.heap.size ≤ k) (fun _ => False)
    (h1.2 ts (.v v) (by unfold look; rw [hts]; exact hv)) (h1.2 d1 (.v (.slice (some ⟨W.heap.size, 0, none⟩) 1 1)) (by unfold look; rw [Nat.beq_refl])) R1 HR (fun x cs h => h) (fun _ h => h.elim) (fun k hk => by have := hD.bel.size; omega) B1 (by have := hD.bel.size; omega) (by omega) (fun v1 w1 a5 hv1 hb1 hg1 h5 d5 => ?_)
  exact h v1 w1 a5 ⟨hv1, hb1⟩ h5 (d5.trans e1)
end Go.Proofs.YtmgnffklmdhooaaDoor.PAll
namespace Go.Proofs.YtmgnffklmdhooaaDoor.PAll
open Go.RowKit Go.Proofs.YtmgnffklmdhooaaDoorW.PrintWords Go.Proofs.YtmgnffklmdhooaaDoorW.PrintLast Go.Proofs.YtmgnffklmdhooaaDoorW.PrintMore
set_option linter.unusedVariables false
set_option linter.unusedSimpArgs false
noncomputable def hdZ : Code := match Tryd.f16.body with
  | some (.seq _ (.seq _ z)) => z
  | _ => .skip
noncomputable def hdL2 : Code := match hdZ with
  | .seq (.block _ (.loop c)) _ => c
  | _ => .skip
noncomputable def hdL6 : Code := match hdZ with
  | .seq _ (.seq (.seq _ (.block _ (.loop c))) _) => c
  | _ => .skip
noncomputable def hdL10 : Code := match hdZ with
  | .seq _ (.seq _ (.seq (.seq _ (.block _ (.loop c))) _)) => c
  | _ => .skip
theorem dg_mono {x y : Nat} (h : x ≤ y) : (dg x).length ≤ (dg y).length := dg_len_le (Nat.lt_of_le_of_lt h (dg_lt y))
theorem ren_rem (m : Nat) : Int.tmod ((m : Nat) : Int) 10 = ((m % 10 : Nat) : Int) := tm10 m
theorem ren_quo (m : Nat) (h : m < 1000000000000) : IntKind.i64.wrap (Int.tdiv ((m : Nat) : Int) 10) = ((m / 10 : Nat) : Int) := by
  rw [td10, IntKind.wrap_i64]
  omega
set_option maxHeartbeats 8000000 in
set_option maxRecDepth 100000 in
theorem hd2 {Q : Exit → Act → World → Prop} (w0 : World) (e : Int) : ∀ rem m, (dg m).length = rem → m < 1000000000000 → ∀ (a0 : Act) (v : Value) (W : World) (l : List Int), DI w0 W v l → l.length + rem < 1000 → Has 40 (bn []) [(0, vi ↑m), (1, vi e), (5, .v v)] a0 → a0.defers = [] →
    (∀ (a' : Act) (v' : Value) (W' : World), DI w0 W' v' (l ++ dg m) → Has 40 (bn []) [(1, vi e), (5, .v v')] a' → a'.defers = [] → Q (.exit 0) a' W') → Code.rounds Tryd.prog hdL2 Q (rem + 1) a0 W := by
  intro rem
  induction rem with
  | zero =>
    intro m hm hmb a0 v W l D0 hl h0 d0 hex
    obtain rfl : m = 0 := dg_nil (List.eq_nil_of_length_eq_zero hm)
    rw [rounds_succ]
    refine wp_seq ?_
    refine wp_seq (wp_region ?_)
    refine oP 40 [] [0, 1] [(0, vi ((0 : Nat) : Int)), (1, vi e), (5, .v v), (7, vb (decide ((((0 : Nat) : Int) : Int) > 0)))] h0 d0 (fun a1 h1 d1 => ?_)
    clear h0 d0
    rw [show (decide ((((0 : Nat) : Int) : Int) > 0)) = false from by decide] at h1
    show Code.wp _ _ _ _ _
    refine wp_cond_false (h1.2 7 _ rfl) ?_
    refine wp_exit ?_
    refine then_exit (then_exit ?_)
    refine hex a1 v W ?_ (sub_ok h1 sE) d1
    rw [dg_zero, List.append_nil]
    exact D0
  | succ rem ih =>
    intro m hm hmb a0 v W l D0 hl h0 d0 hex
    have hm0 : m ≠ 0 := fun h => by
      rw [h, dg_zero] at hm
      cases hm
    have hd := dg_pos hm0
    have hm2 : (dg (m / 10)).length = rem := by
      rw [hd] at hm
      simpa using hm
    rw [rounds_succ]
    refine wp_seq ?_
    refine wp_seq (wp_region ?_)
    refine oP 40 [] [0, 1] [(0, vi ↑m), (1, vi e), (5, .v v), (7, vb (decide ((((m : Nat) : Int) : Int) > 0)))] h0 d0 (fun a1 h1 d1 => ?_)
    clear h0 d0
    rw [show (decide ((((m : Nat) : Int) : Int) > 0)) = true from decide_eq_true (by omega)] at h1
    show Code.wp _ _ _ _ _
    refine wp_cond_true (h1.2 7 _ rfl) ?_
    refine wp_skip ?_
    show Code.wp _ _ _ _ _
    refine wp_seq ?_
    refine wp_block ?_
    refine wp_region ?_
    refine oP 40 [3, 4, 5] [0, 1, 2] [(0, vi ↑m), (1, vi e), (5, .v v), (10, .v v), (11, vi ↑m), (12, vi (Int.tmod ((m : Nat) : Int) 10))] h1 d1 (fun a2 h2 d2 => ?_)
    clear h1 d1
    rw [show (Int.tmod ((m : Nat) : Int) 10) = ((m % 10 : Nat) : Int) from ren_rem m] at h2
    refine push64_ops (N := 40) (i := 3) (j := 4) (d1 := 13) (d2 := 14) (ts := 10) (x := ((m % 10 : Nat) : Int)) (rest := [5]) D0 (by (try simp); omega) h2 rfl rfl rfl (by decide) rfl (h2.2 12 _ rfl) rfl rfl rfl (by decide) rfl rfl rfl (fun v3 W3 a3 D3 h3 d3 => ?_)
    replace d3 := d3.trans d2
    clear h2 d2
    refine oP 40 [] [5] [(0, vi ↑m), (1, vi e), (5, .v v3)] h3 d3 (fun a4 h4 d4 => ?_)
    clear h3 d3
    show Code.wp _ _ _ _ _
    refine wp_region ?_
    refine oP 40 [2] [0, 1] [(0, vi ↑m), (1, vi e), (5, .v v3), (8, vi ↑m), (9, vi (IntKind.i64.wrap (Int.tdiv ((m : Nat) : Int) 10)))] h4 d4 (fun a5 h5 d5 => ?_)
    clear h4 d4
    rw [show (IntKind.i64.wrap (Int.tdiv ((m : Nat) : Int) 10)) = ((m / 10 : Nat) : Int) from ren_quo m hmb] at h5
    refine oP 40 [] [2] [(0, vi ((m / 10 : Nat) : Int)), (1, vi e), (5, .v v3)] h5 d5 (fun a6 h6 d6 => ?_)
    clear h5 d5
    show Code.rounds _ _ _ _ _ _
    refine ih (m / 10) hm2 (by omega) a6 _ _ _ D3 (by simp; omega) (sub_ok h6 sE) d6 (fun a' v' W' hD hH hd' => hex a' v' W' ?_ hH hd')
    rw [hd]
    simpa using hD
set_option maxHeartbeats 8000000 in
set_option maxRecDepth 100000 in
theorem hd6 {Q : Exit → Act → World → Prop} (w0 : World) (e : Int) (tot : Nat) (ht : tot < 1000) : ∀ rem i, i + rem = tot → ∀ (a0 : Act) (v : Value) (W : World) (x : Nat), DV (fun k => w0.heap.size ≤ k) W v x → Below w0.heap.size w0 W → (dg (x * 10 ^ rem)).length < 1000 → Has 40 (bn []) [(1, vi e), (5, .v v), (17, vi ↑tot), (18, vi ↑i)] a0 → a0.defers = [] →
    (∀ (a' : Act) (v' : Value) (W' : World), DV (fun k => w0.heap.size ≤ k) W' v' (x * 10 ^ rem) → Below w0.heap.size w0 W' → Has 40 (bn []) [(1, vi e), (5, .v v')] a' → a'.defers = [] → Q (.exit 2) a' W') → Code.rounds Tryd.prog hdL6 Q (rem + 1) a0 W := by
  intro rem
  induction rem with
  | zero =>
    intro i hi a0 v W x D0 HB0 hl h0 d0 hex
    rw [rounds_succ]
    refine wp_seq (wp_region ?_)
    refine oP 40 [] [0] [(1, vi e), (5, .v v), (17, vi ↑tot), (18, vi ↑i), (19, vb (decide ((((i : Nat) : Int) : Int) < ((tot : Nat) : Int))))] h0 d0 (fun a1 h1 d1 => ?_)
    clear h0 d0
    rw [show (decide ((((i : Nat) : Int) : Int) < ((tot : Nat) : Int))) = false from decide_eq_false (by omega)] at h1
    show Code.wp _ _ _ _ _
    refine wp_seq ?_
    refine wp_cond_false (h1.2 19 _ rfl) ?_
    refine wp_exit ?_
    refine then_exit (then_exit ?_)
    refine hex a1 v W ?_ HB0 (sub_ok h1 sE) d1
    rw [Nat.pow_zero, Nat.mul_one]
    exact D0
  | succ rem ih =>
    intro i hi a0 v W x D0 HB0 hl h0 d0 hex
    have hx : (dg x).length < 100000 := by
      have : x ≤ x * 10 ^ (rem + 1) := Nat.le_mul_of_pos_right _ (Nat.pow_pos (by decide))
      have := dg_mono this
      omega
    have hxe : x * 10 * 10 ^ rem = x * 10 ^ (rem + 1) := by rw [Nat.mul_assoc, Nat.mul_comm 10, ← Nat.pow_succ]
    rw [rounds_succ]
    refine wp_seq (wp_region ?_)
    refine oP 40 [] [0] [(1, vi e), (5, .v v), (17, vi ↑tot), (18, vi ↑i), (19, vb (decide ((((i : Nat) : Int) : Int) < ((tot : Nat) : Int))))] h0 d0 (fun a1 h1 d1 => ?_)
    clear h0 d0
    rw [show (decide ((((i : Nat) : Int) : Int) < ((tot : Nat) : Int))) = true from decide_eq_true (by omega)] at h1
    show Code.wp _ _ _ _ _
    refine wp_seq ?_
    refine wp_cond_true (h1.2 19 _ rfl) ?_
    refine wp_skip ?_
    show Code.wp _ _ _ _ _
    refine wp_seq ?_
    refine wp_block ?_
    refine wp_region ?_
    refine oP 40 [1, 2] [0] [(1, vi e), (5, .v v), (17, vi ↑tot), (18, vi ↑i), (20, .v v)] h1 d1 (fun a2 h2 d2 => ?_)
    clear h1 d1
    refine callW_ops (N := 40) (i := 1) (d := 21) (f := 22) (args := [.v v, vi 10]) (l := [2]) rfl (want_ rfl) rfl (by decide) h2 Tryd.func22 rfl rfl rfl (by kernel_rfl) (Ans W (x * 10)) (times_walk x 10 (by decide) hx W v D0) (fun v3 W3 a3 hR3 h3 d3 => ?_)
    replace d3 := d3.trans d2
    clear h2 d2
    refine oP 40 [] [2] [(1, vi e), (5, .v v3), (17, vi ↑tot), (18, vi ↑i)] h3 d3 (fun a4 h4 d4 => ?_)
    clear h3 d3
    show Code.wp _ _ _ _ _
    refine wp_region ?_
    refine oP 40 [1] [0] [(1, vi e), (5, .v v3), (17, vi ↑tot), (18, vi ↑i), (22, vi (IntKind.i64.wrap (((i : Nat) : Int) + 1)))] h4 d4 (fun a5 h5 d5 => ?_)
    clear h4 d4
    rw [show (IntKind.i64.wrap (((i : Nat) : Int) + 1)) = ((i + 1 : Nat) : Int) from i_succ i (by omega)] at h5
    refine oP 40 [] [1] [(1, vi e), (5, .v v3), (17, vi ↑tot), (18, vi ((i + 1 : Nat) : Int))] h5 d5 (fun a6 h6 d6 => ?_)
    clear h5 d5
    show Code.rounds _ _ _ _ _ _
    refine ih (i + 1) (by omega) a6 _ _ (x * 10) (hR3.1.mono (fun k hk => Nat.le_trans HB0.size hk)) (below_step HB0 hR3.2) (by rw [hxe]; exact hl) (sub_ok h6 sE) d6 (fun a' v' W' hD hB hH hd => hex a' v' W' ?_ hB hH hd)
    rw [← hxe]
    exact hD
set_option maxHeartbeats 8000000 in
set_option maxRecDepth 100000 in
theorem hd10 {Q : Exit → Act → World → Prop} (w0 : World) (e : Int) (tot : Nat) (ht : tot < 1000) : ∀ rem i, i + rem = tot → ∀ (a0 : Act) (v : Value) (W : World) (x : Nat), DV (fun k => w0.heap.size ≤ k) W v x → Below w0.heap.size w0 W → (dg (x * 5 ^ rem)).length < 1000 → Has 40 (bn []) [(1, vi e), (5, .v v), (25, vi ↑tot), (26, vi ↑i)] a0 → a0.defers = [] →
    (∀ (a' : Act) (v' : Value) (W' : World), DV (fun k => w0.heap.size ≤ k) W' v' (x * 5 ^ rem) → Below w0.heap.size w0 W' → Has 40 (bn []) [(1, vi e), (5, .v v')] a' → a'.defers = [] → Q (.exit 4) a' W') → Code.rounds Tryd.prog hdL10 Q (rem + 1) a0 W := by
  intro rem
  induction rem with
  | zero =>
    intro i hi a0 v W x D0 HB0 hl h0 d0 hex
    rw [rounds_succ]
    refine wp_seq (wp_region ?_)
    refine oP 40 [] [0] [(1, vi e), (5, .v v), (25, vi ↑tot), (26, vi ↑i), (27, vb (decide ((((i : Nat) : Int) : Int) < ((tot : Nat) : Int))))] h0 d0 (fun a1 h1 d1 => ?_)
    clear h0 d0
    rw [show (decide ((((i : Nat) : Int) : Int) < ((tot : Nat) : Int))) = false from decide_eq_false (by omega)] at h1
    show Code.wp _ _ _ _ _
    refine wp_seq ?_
    refine wp_cond_false (h1.2 27 _ rfl) ?_
    refine wp_exit ?_
    refine then_exit (then_exit ?_)
    refine hex a1 v W ?_ HB0 (sub_ok h1 sE) d1
    rw [Nat.pow_zero, Nat.mul_one]
    exact D0
  | succ rem ih =>
    intro i hi a0 v W x D0 HB0 hl h0 d0 hex
    have hx : (dg x).length < 100000 := by
      have : x ≤ x * 5 ^ (rem + 1) := Nat.le_mul_of_pos_right _ (Nat.pow_pos (by decide))
      have := dg_mono this
      omega
    have hxe : x * 5 * 5 ^ rem = x * 5 ^ (rem + 1) := by rw [Nat.mul_assoc, Nat.mul_comm 5, ← Nat.pow_succ]
    rw [rounds_succ]
    refine wp_seq (wp_region ?_)
    refine oP 40 [] [0] [(1, vi e), (5, .v v), (25, vi ↑tot), (26, vi ↑i), (27, vb (decide ((((i : Nat) : Int) : Int) < ((tot : Nat) : Int))))] h0 d0 (fun a1 h1 d1 => ?_)
    clear h0 d0
    rw [show (decide ((((i : Nat) : Int) : Int) < ((tot : Nat) : Int))) = true from decide_eq_true (by omega)] at h1
    show Code.wp _ _ _ _ _
    refine wp_seq ?_
    refine wp_cond_true (h1.2 27 _ rfl) ?_
    refine wp_skip ?_
    show Code.wp _ _ _ _ _
    refine wp_seq ?_
    refine wp_block ?_
    refine wp_region ?_
    refine oP 40 [1, 2] [0] [(1, vi e), (5, .v v), (25, vi ↑tot), (26, vi ↑i), (28, .v v)] h1 d1 (fun a2 h2 d2 => ?_)
    clear h1 d1
    refine callW_ops (N := 40) (i := 1) (d := 29) (f := 22) (args := [.v v, vi 5]) (l := [2]) rfl (want_ rfl) rfl (by decide) h2 Tryd.func22 rfl rfl rfl (by kernel_rfl) (Ans W (x * 5)) (times_walk x 5 (by decide) hx W v D0) (fun v3 W3 a3 hR3 h3 d3 => ?_)
    replace d3 := d3.trans d2
    clear h2 d2
    refine oP 40 [] [2] [(1, vi e), (5, .v v3), (25, vi ↑tot), (26, vi ↑i)] h3 d3 (fun a4 h4 d4 => ?_)
    clear h3 d3
    show Code.wp _ _ _ _ _
    refine wp_region ?_
    refine oP 40 [1] [0] [(1, vi e), (5, .v v3), (25, vi ↑tot), (26, vi ↑i), (30, vi (IntKind.i64.wrap (((i : Nat) : Int) + 1)))] h4 d4 (fun a5 h5 d5 => ?_)
    clear h4 d4
    rw [show (IntKind.i64.wrap (((i : Nat) : Int) + 1)) = ((i + 1 : Nat) : Int) from i_succ i (by omega)] at h5
    refine oP 40 [] [1] [(1, vi e), (5, .v v3), (25, vi ↑tot), (26, vi ((i + 1 : Nat) : Int))] h5 d5 (fun a6 h6 d6 => ?_)
    clear h5 d5
    show Code.rounds _ _ _ _ _ _
    refine ih (i + 1) (by omega) a6 _ _ (x * 5) (hR3.1.mono (fun k hk => Nat.le_trans HB0.size hk)) (below_step HB0 hR3.2) (by rw [hxe]; exact hl) (sub_ok h6 sE) d6 (fun a' v' W' hD hB hH hd => hex a' v' W' ?_ hB hH hd)
    rw [← hxe]
    exact hD
set_option maxHeartbeats 8000000 in
set_option maxRecDepth 100000 in
theorem hdo_walk (m E : Nat) (hE : E ≤ 200) (hm : m < 1000000000000) (hl : (dg (m * 10 ^ (200 - E) * 5 ^ E)).length < 900) (w : World) :
    Calls Tryd.prog 16 #[.int .i64 ↑m, .int .i64 (-((E : Nat) : Int))] w fun e w' => ∃ v', e = .returned v' ∧ Ans w (m * 10 ^ (200 - E) * 5 ^ E) v' w' := by
  refine calls_of_wp Tryd.func16 rfl ?_
  have hm12 : (dg m).length ≤ 12 := dg_len_le (by omega)
  have h0 := has_two (β := bn []) (vi ↑m) (vi (-((E : Nat) : Int))) 38
  have d0 : (⟨#[.int .i64 ↑m, .int .i64 (-((E : Nat) : Int))] ++ Array.replicate 38 undef, []⟩ : Act).defers = [] := rfl
  refine wp_seq (wp_region ?_)
  refine oP 40 [] [0] [(0, vi ↑m), (1, vi (-((E : Nat) : Int))), (4, .v (Value.slice none 0 0))] h0 d0 (fun a1 h1 d1 => ?_)
  clear h0 d0
  show Code.wp _ _ _ _ _
  refine wp_seq (wp_region ?_)
  refine oP 40 [] [0] [(0, vi ↑m), (1, vi (-((E : Nat) : Int))), (5, .v (Value.slice none 0 0))] h1 d1 (fun a2 h2 d2 => ?_)
  clear h1 d1
  show Code.wp _ _ _ _ _
  have D0 : DI w w (.slice none 0 0) [] := ⟨Kd.R_nil _ _ _ _ _, Below.refl _ _⟩
  refine wp_seq ?_
  refine wp_block ?_
  refine wp_loop_rounds ((dg m).length + 1) ?_
  refine hd2 w _ _ m rfl hm a2 _ _ [] D0 (by simp; omega) (sub_ok (E := [(0, vi ↑m), (1, vi (-((E : Nat) : Int))), (5, .v (Value.slice none 0 0))]) h2 sE) d2 (fun a3 v3 W3 D1 h3 d3 => ?_)
  refine exit_in ?_
  show Code.wp _ _ _ _ _
  rw [List.nil_append] at D1
  have HV3 : DV (fun k => w.heap.size ≤ k) W3 v3 m := DV.mk (Kd.R_V (base' := 0) D1.row)
  have HB3 := D1.bel
  refine wp_seq ?_
  refine wp_seq (wp_region ?_)
  refine oP 40 [1, 2, 3] [0] [(1, vi (-((E : Nat) : Int))), (5, .v v3), (15, vi (-((E : Nat) : Int)))] h3 d3 (fun a4 h4 d4 => ?_)
  clear h3 d3
  refine gW (s := vi (-((E : Nat) : Int))) 40 [2, 3] h4 d4 rfl (want_ rfl) rfl (by decide) ((op_min rfl (h4.2 15 _ rfl) rfl).trans (by rw [if_neg (show ¬ ((0 : Int) < -((E : Nat) : Int)) by omega)]; rfl)) (fun a5 h5 d5 => ?_)
  clear h4 d4
  refine oP 40 [3] [2] [(1, vi (-((E : Nat) : Int))), (5, .v v3), (15, vi (-((E : Nat) : Int))), (16, vi (-((E : Nat) : Int))), (17, vi (IntKind.i64.wrap (200 + (-((E : Nat) : Int)))))] h5 d5 (fun a6 h6 d6 => ?_)
  clear h5 d5
  rw [show (IntKind.i64.wrap (200 + (-((E : Nat) : Int)))) = ((200 - E : Nat) : Int) from by rw [IntKind.wrap_i64]; omega] at h6
  refine oP 40 [] [3] [(1, vi (-((E : Nat) : Int))), (5, .v v3), (17, vi ((200 - E : Nat) : Int)), (18, vi 0)] h6 d6 (fun a7 h7 d7 => ?_)
  clear h6 d6
  show Code.wp _ _ _ _ _
  refine wp_block ?_
  refine wp_loop_rounds (200 - E + 1) ?_
  refine hd6 w _ (200 - E) (by omega) (200 - E) 0 (by omega) a7 _ _ (m) HV3 HB3 (by have := dg_mono (Nat.le_mul_of_pos_right (m * 10 ^ (200 - E)) (Nat.pow_pos (n := E) (show 0 < 5 by decide))); omega) (sub_ok (E := [(1, vi (-((E : Nat) : Int))), (5, .v v3), (17, vi ((200 - E : Nat) : Int)), (18, vi ((0 : Nat) : Int))]) h7 sE) d7 (fun a8 v8 W8 HV8 HB8 h8 d8 => ?_)
  refine exit_in ?_
  show Code.wp _ _ _ _ _
  refine wp_seq ?_
  refine wp_seq (wp_region ?_)
  refine oP 40 [2, 3] [0, 1] [(1, vi (-((E : Nat) : Int))), (5, .v v8), (23, vi (-((E : Nat) : Int))), (24, vi (IntKind.i64.wrap (0 - (-((E : Nat) : Int)))))] h8 d8 (fun a9 h9 d9 => ?_)
  clear h8 d8
  rw [show (IntKind.i64.wrap (0 - (-((E : Nat) : Int)))) = ((E : Nat) : Int) from by rw [IntKind.wrap_i64]; omega] at h9
  refine gW (s := vi ↑E) 40 [3] h9 d9 rfl (want_ rfl) rfl (by decide) ((op_max rfl (h9.2 24 _ rfl) rfl).trans (by rw [show (if ((E : Nat) : Int) < 0 then (0 : Int) else ((E : Nat) : Int)) = ((E : Nat) : Int) from if_neg (by omega)]; rfl)) (fun a10 h10 d10 => ?_)
  clear h9 d9
  refine oP 40 [] [3] [(1, vi (-((E : Nat) : Int))), (5, .v v8), (25, vi ↑E), (26, vi 0)] h10 d10 (fun a11 h11 d11 => ?_)
  clear h10 d10
  show Code.wp _ _ _ _ _
  refine wp_block ?_
  refine wp_loop_rounds (E + 1) ?_
  refine hd10 w _ (E) (by omega) (E) 0 (by omega) a11 _ _ (m * 10 ^ (200 - E)) HV8 HB8 (by omega) (sub_ok (E := [(1, vi (-((E : Nat) : Int))), (5, .v v8), (25, vi ↑E), (26, vi ((0 : Nat) : Int))]) h11 sE) d11 (fun a12 v12 W12 HV12 HB12 h12 d12 => ?_)
  refine exit_in ?_
  show Code.wp _ _ _ _ _
  refine wp_seq ?_
  refine wp_seq (wp_region ?_)
  refine oP 40 [1, 2] [0] [(1, vi (-((E : Nat) : Int))), (5, .v v12), (31, vi (-((E : Nat) : Int)))] h12 d12 (fun a13 h13 d13 => ?_)
  clear h12 d12
  refine gW (s := vi 0) 40 [2] h13 d13 rfl (want_ rfl) rfl (by decide) ((op_max rfl (h13.2 31 _ rfl) rfl).trans (by rw [show (if (-((E : Nat) : Int)) < 0 then (0 : Int) else (-((E : Nat) : Int))) = 0 from by split <;> omega]; rfl)) (fun a14 h14 d14 => ?_)
  clear h13 d13
  refine oP 40 [] [2] [(1, vi (-((E : Nat) : Int))), (5, .v v12), (32, vi 0), (33, vi 0)] h14 d14 (fun a15 h15 d15 => ?_)
  clear h14 d14
  show Code.wp _ _ _ _ _
  refine wp_block ?_
  refine wp_loop_rounds 1 ?_
  rw [rounds_succ]
  refine wp_seq (wp_region ?_)
  refine oP 40 [] [0] [(1, vi (-((E : Nat) : Int))), (5, .v v12), (32, vi 0), (33, vi 0), (34, vb false)] h15 d15 (fun a16 h16 d16 => ?_)
  clear h15 d15
  show Code.wp _ _ _ _ _
  refine wp_seq ?_
  refine wp_cond_false (h16.2 34 _ rfl) ?_
  refine wp_exit ?_
  refine then_exit (then_exit ?_)
  refine exit_in ?_
  show Code.wp _ _ _ _ _
  refine wp_seq (wp_region ?_)
  refine oP 40 [1, 2] [0] [(1, vi (-((E : Nat) : Int))), (5, .v v12), (32, vi 0), (33, vi 0), (34, vb false), (38, .v v12)] h16 d16 (fun a17 h17 d17 => ?_)
  clear h16 d16
  refine callW_ops (N := 40) (i := 1) (d := 39) (f := 15) (args := [.v v12]) (l := [2]) rfl (want_ rfl) rfl (by decide) h17 Tryd.func15 rfl rfl rfl (by kernel_rfl) (fun v W => DV (fun k => w.heap.size ≤ k ∨ (W12).heap.size ≤ k) W v (m * 10 ^ (200 - E) * 5 ^ E) ∧ Below (W12).heap.size W12 W) (trim_walk _ (by omega) W12 v12 HV12) (fun v18 W18 a18 hR18 h18 d18 => ?_)
  replace d18 := d18.trans d17
  clear h17 d17
  refine oP 40 [] [2] [(1, vi (-((E : Nat) : Int))), (4, .v v18), (5, .v v12), (32, vi 0), (33, vi 0), (34, vb false)] h18 d18 (fun a19 h19 d19 => ?_)
  clear h18 d18
  show Code.wp _ _ _ _ _
  refine wp_ret ?_
  exact ⟨d19, _, results_tmp rfl _ _ _, v18, congrArg Ending.returned (h19.2 4 _ rfl), hR18.1.mono (fun k hk => hk.elim id (fun h => Nat.le_trans HB12.size h)), below_step HB12 hR18.2⟩
end Go.Proofs.YtmgnffklmdhooaaDoor.PAll
namespace Go.Proofs.YtmgnffklmdhooaaDoor.PAll
open Go.RowKit Go.Proofs.YtmgnffklmdhooaaDoorW.PrintWords Go.Proofs.YtmgnffklmdhooaaDoorW.PrintLast Go.Proofs.YtmgnffklmdhooaaDoorW.PrintMore
set_option linter.unusedVariables false
set_option linter.unusedSimpArgs false
section
variable {P : Program} {ops : Array Oper} {Q : Exit → Act → World → Prop} {S : World → Prop} {ds : List Nat} {N : Nat} {β : Nat → Nat} {ρ : Operand → Value} {o : Oper} {W : World}
theorem op_box1 {t : TypeId} {x : Operand} {k : IntKind} {n : Int} (ho : o.op = .box t x) (hx : ρ x = .int k n) : (execOp ρ o).run P W = .ok (.value (.pointer (some ⟨W.heap.size, 0, none⟩))) (W.alloc (.cells #[.int k n] t)) := by
  unfold execOp
  rw [ho]
  simp [go_sem, hx]
theorem op_indexA {t e : TypeId} {x ix : Operand} {A : Addr} {n c j : Nat} (ho : o.op = .indexAddr t x ix) (hx : ρ x = .slice (some A) n c) (hi : ρ ix = .int .i64 (j : Int)) (ht : P.underlying t = some (.slice e)) (hs : ∀ w, (Go.sizeOf e).run P w = .ok 1 w) (hj : j < n) :
    (execOp ρ o).run P W = .ok (.value (.pointer (some (A.add j)))) W := by
  unfold execOp
  rw [ho]
  simp [go_sem, Instr.indexAt, hx, hi, und ht, hs, hj]
theorem op_clo {fn : Fn} {x y z : Operand} {a b c : Value} (ho : o.op = .makeFunc fn #[] #[x, y, z]) (hx : ρ x = a) (hy : ρ y = b) (hz : ρ z = c) : (execOp ρ o).run P W = .ok (.value (.func fn #[] #[a, b, c])) W := by
  unfold execOp
  rw [ho]
  simp [go_sem, hx, hy, hz]
/-- An operation whose guard was not run itself. -/
theorem skipU_ops {i d j dj : Nat} {b : Bool} {l : List Nat} {a : Act} {w : World} {E : List (Nat × SV)} (ho : ops[i]? = some o) (hg : o.guard = some (j, b)) (hj : (ops[j]?).bind (·.dst) = some dj) (hb : look E dj = some (.v undef)) (hd : o.dst = some d) (hN : d < N) (hA : Has N β E a)
    (h : ∀ a', Has N β ((d, .v undef) :: E) a' → a'.defers = a.defers → wpOps P ops Q l a' w) : wpOps P ops Q (i :: l) a w := by
  have h1 : a.eval (.tmp dj) = undef := hA.2 dj _ hb
  have hw : Region.wanted o (yielded ops a.tmps) = false := by
    unfold Region.wanted yielded
    simp only [Act.eval] at h1
    rw [Array.getD_eq_getD_getElem?] at h1
    cases h3 : a.tmps[dj]? with
    | none => simp [hg, hj, h3]
    | some v =>
      rw [h3] at h1
      obtain rfl : v = undef := h1
      simp [hg, hj, h3, undef]
  unfold wpOps
  simp only [ho]
  rw [if_neg (by rw [hw]; decide), hd]
  exact h _ (hA.put d hN (.v undef)) rfl
/-- A call of a closure that a slot holds. -/
theorem cloW_ops {i d f t : Nat} {fn : Func} {x : Operand} {ts : Array TypeId} {v : Value} {caps : Array Value} {l : List Nat} {a : Act} {w : World} {E : List (Nat × SV)} (ho : ops[i]? = some o) (hw : Region.wanted o (yielded ops a.tmps) = true) (hd : o.dst = some d) (hN : d < N) (hA : Has N β E a) (hf : P.funcs[f]? = some fn) (hname : (fn.name == "runtime.NumGoroutine") = false) (hb : fn.body.isSome = true)
    (hop : o.op = .call { callee := .value (.tmp t), args := #[x], argTypes := ts }) (ht : a.eval (.tmp t) = .func (.func f) #[] caps) (hx : a.eval x = v) (R : Value → World → Prop) (hC : Calls P f (#[v] ++ caps) w fun e w' => ∃ v, e = .returned v ∧ R v w')
    (h : ∀ v w' a', R v w' → Has N β ((d, .v v) :: E) a' → a'.defers = a.defers → wpOps P ops Q l a' w') : wpOps P ops Q (i :: l) a w := by
  have he := enters_ hf hname hb (#[v] ++ caps) w
  have key := call_ (P := P) (ops := ops) (Q := Q) (K := wpOps P ops Q l) (N := some d) (oi := o) (a := a) (w := w) f (#[v] ++ caps) hw hd (by
    unfold execOp
    rw [hop]
    simp only [resolve, ht]
    simp [Deferred.ofValue, invoke, hx, he]) (hC.mono fun e w' hh => by
    obtain ⟨v, rfl, hr⟩ := hh
    exact ⟨v, rfl, h v w' _ hr (hA.put d hN (.v v)) rfl⟩)
  unfold wpOps
  simp only [ho]
  rw [if_pos hw] at key ⊢
  exact Or.inl key
/-- A step whose value is shown by hand. -/
theorem segV {i d fuel : Nat} {s : SV} {L : Array Bool} {E : List (Nat × SV)} {a : Act} {w : World} (hQ : ∀ c (a a' : Act) w, a'.defers = a.defers → Q (.panic c) a w → Q (.panic c) a' w) (hS : S w) (hA : Has N β E a)
    (ho : ops[i]? = some o) (hg : o.guard = none) (hd : o.dst = some d) (hN : d < N) (hc : takeB .any ops ds L (L.setIfInBounds i true) i = true) (hrun : ∀ W, S W → (execOp a.eval o).run P W = .ok (.value (s.den β)) W)
    (h : ∀ a', Has N β ((d, s) :: E) a' → a'.defers = a.defers → wpAnyLast P .any ops Q S ds fuel (L.setIfInBounds i true) a' w) : wpAnyLast P .any ops Q S ds (fuel + 1) L a w :=
  take_ (i := i) (N := some d) (v := s.den β) (a' := a.put (some d) (s.den β)) _ ho hd hc (fun c a w h => hQ c _ _ w (put_defs _ _ _).symm h) (Or.inl ⟨want_ hg, hrun⟩) hS rfl (h _ (hA.put d hN s) (put_defs _ _ _))
theorem segP {M : Nat → Nat → Option Value} {T : TypeId → Option Ty} (hT : TabOk P T) (hM : ∀ W, S W → MemOk β M W) (hQ : ∀ c (a a' : Act) w, a'.defers = a.defers → Q (.panic c) a w → Q (.panic c) a' w) {w : World} (hS : S w) (l : List Nat) (fuel : Nat) (E2 : List (Nat × SV)) {L : Array Bool} {E : List (Nat × SV)} {a : Act} (hA : Has N β E a)
    (hB : schedB ops ds l L = true) (hs : (evs N T M ops l E).isSome = true) (hsub : Sub (evs N T M ops l E) E2)
    (h : ∀ a', Has N β E2 a' → a'.defers = a.defers → wpAnyLast P .any ops Q S ds fuel (marks l L) a' w) : wpAnyLast P .any ops Q S ds (fuel + l.length) L a w := by
  obtain ⟨E', he⟩ := Option.isSome_iff_exists.1 hs
  rw [he] at hsub
  exact seg_ hT hM hQ hS l hB he hA (fun a' h1 h2 => h a' (sub_ok h1 hsub) h2)
/-- A store into a box. -/
theorem store_cell {t : TypeId} {x y : Operand} {A : Addr} {B : Option Addr} {n c : Nat} {v0 : Value} (ho : o.op = .store t x y) (hx : ρ x = .pointer (some A)) (hy : ρ y = .slice B n c) (hs : ∀ w, (Go.sizeOf t).run P w = .ok 1 w) (hf : W.frozen? A = false) (hc : W.cell? A = some v0) : (execOp ρ o).run P W = .ok .skip (W.setCell A (.slice B n c)) := by
  unfold execOp
  rw [ho]
  simp [go_sem, hx, hy, hs, hc, hf]
end
/-- A digit of a number that a value holds. -/
theorem DV.digit {ok : Nat → Prop} {W : World} {A : Option Addr} {len c n : Nat} (h : DV ok W (.slice A len c) n) {i : Nat} (hi : i < (dg n).length) : ∃ ad, A = some ad ∧ W.cell? (ad.add i) = some (.int .i64 (rd (dg n) (i : Int))) := by
  obtain ⟨A', c', he, hc, hC⟩ := h.open
  injection he with h1 h2 h3
  subst h1
  obtain ⟨ad, cs, e1, e2, e3, e4⟩ := Kd.C_get hC 0 (i : Int) (by omega) (by omega)
  have e5 : cs = [.int .i64 (rd (dg n) (i : Int))] := e3
  refine ⟨ad, e1, ?_⟩
  have h6 := e4 0 _ (by rw [e5]; rfl)
  rw [Int.toNat_natCast] at h6
  have h7 : i * (Kd.int .i64).sz + 0 = i := Nat.mul_one i
  rw [h7] at h6
  exact h6
/-- What the closure 'in' answers. -/
def inB (lo hi m x : Nat) : Bool := (decide (cmpI lo x < 0) && decide (cmpI x hi < 0)) || (decide (m % 2 = 0) && (decide (cmpI lo x ≤ 0) && decide (cmpI x hi ≤ 0)))
section
variable {P : Program} {ops : Array Oper} {Q : Exit → Act → World → Prop} {N : Nat} {β : Nat → Nat}
theorem alloc_if {d : Nat} {t : TypeId} {cs : Array Value} {o : Oper} {a : Act} {w : World} {E : List (Nat × SV)} {K : Act → World → Prop} (hg : o.guard = none) (hd : o.dst = some d) (hN : d < N) (hA : Has N β E a) (hop : o.op = .alloc t) (hz : AllocOk P t cs)
    (h : ∀ a', Has N β ((d, .v (.pointer (some ⟨w.heap.size, 0, none⟩))) :: E) a' → a'.defers = a.defers → K a' (w.alloc (.cells cs t))) : if Region.wanted o (yielded ops a.tmps) = true then Oper.wp P o a w K Q else K (a.put o.dst undef) w := by
  rw [if_pos (want_ hg)]
  unfold Oper.wp
  rw [hz a.eval o w hop, Oper.upon_value, hd]
  exact h _ (hA.put d hN (.v _)) rfl
end
/-- What is known while HalfShort runs: m's box bm, boxes bs of its own, values vs that hold numbers and lie in none of them. -/
structure Iv (w1 : World) (bm m : Nat) (bs : List Nat) (vs : List (Value × Nat)) (W : World) : Prop where
  bel : Below w1.heap.size w1 W
  mm : W.cell? ⟨bm, 0, none⟩ = some (.int .i64 ((m : Nat) : Int))
  lt : bm < w1.heap.size
  box : ∀ b, b ∈ bs → w1.heap.size ≤ b ∧ ∃ A n c, W.heap[b]? = some (.cells #[.slice A n c] 29 (0, 0))
  nd : bs.Nodup
  val : ∀ p, p ∈ vs → DV (fun k => k ∉ bs) W p.1 p.2
section
variable {w1 W : World} {bm m : Nat} {bs : List Nat} {vs : List (Value × Nat)}
theorem Iv.drew (h : Iv w1 bm m bs vs W) : Iv w1 bm m bs vs W.drew := ⟨below_drew1 h.bel, h.mm, h.lt, h.box, h.nd, fun p hp => (h.val p hp).step (below_drew1 (Below.refl _ _))⟩
theorem Iv.step {W' : World} (h : Iv w1 bm m bs vs W) (hb : Below W.heap.size W W') : Iv w1 bm m bs vs W' :=
  ⟨below_step h.bel hb, (hb.cell (World.block_lt_of_cell? _ _ h.mm)).trans h.mm, h.lt, fun b hb1 => by
    obtain ⟨h1, A, n, c, h2⟩ := h.box b hb1
    have h3 : b < W.heap.size := (Array.getElem?_eq_some_iff.1 h2).1
    exact ⟨h1, A, n, c, (hb.block b h3).trans h2⟩, h.nd, fun p hp => (h.val p hp).step hb⟩
theorem Iv.add {W' : World} {v : Value} {n : Nat} (h : Iv w1 bm m bs vs W) (ha : Ans W n v W') : Iv w1 bm m bs ((v, n) :: vs) W' := by
  have h1 := h.step ha.2
  refine ⟨h1.bel, h1.mm, h1.lt, h1.box, h1.nd, fun p hp => ?_⟩
  rcases List.mem_cons.1 hp with rfl | hp
  · refine ha.1.mono (fun k hk hkb => ?_)
    obtain ⟨_, A, n, c, h2⟩ := h.box k hkb
    have h3 : k < W.heap.size := (Array.getElem?_eq_some_iff.1 h2).1
    omega
  · exact h1.val p hp
theorem heap_alloc_new (W : World) (o : Obj) : (W.alloc o).heap[W.heap.size]? = some o := by
  unfold World.alloc
  exact Array.getElem?_push_size
theorem Iv.alloc (h : Iv w1 bm m bs vs W) : Iv w1 bm m (W.heap.size :: bs) vs (W.alloc (.cells #[.slice none 0 0] 29)) := by
  have h1 := h.step ((Below.refl W.heap.size W).alloc (Nat.le_refl _) (.cells #[.slice none 0 0] 29))
  have hn : W.heap.size ∉ bs := fun hm => by
    obtain ⟨_, A, n, c, h2⟩ := h.box _ hm
    have h3 : W.heap.size < W.heap.size := (Array.getElem?_eq_some_iff.1 h2).1
    omega
  refine ⟨h1.bel, h1.mm, h1.lt, fun b hb => ?_, List.nodup_cons.2 ⟨hn, h.nd⟩, fun p hp => ?_⟩
  · rcases List.mem_cons.1 hb with rfl | hb
    · exact ⟨h.bel.size, none, 0, 0, heap_alloc_new W _⟩
    · exact h1.box b hb
  · refine ((h.val p hp).bound.step ((Below.refl W.heap.size W).alloc (Nat.le_refl _) (.cells #[.slice none 0 0] 29))).mono (fun k hk hkb => ?_)
    rcases List.mem_cons.1 hkb with rfl | hkb
    · exact absurd hk.2 (Nat.lt_irrefl _)
    · exact hk.1 hkb
theorem Iv.perm {vs' : List (Value × Nat)} (h : Iv w1 bm m bs vs W) (hp : ∀ p, p ∈ vs' → p ∈ vs) : Iv w1 bm m bs vs' W := ⟨h.bel, h.mm, h.lt, h.box, h.nd, fun p hq => h.val p (hp p hq)⟩
theorem Iv.box1 {ok : Nat → Prop} {w : World} {vd : Value} {x : Nat} (m : Nat) (hd : DV ok w vd x) : Iv (w.alloc (.cells #[.int .i64 ((m : Nat) : Int)] 2)) w.heap.size m [] [(vd, x)] (w.alloc (.cells #[.int .i64 ((m : Nat) : Int)] 2)) := by
  refine ⟨Below.refl _ _, ?_, by rw [alloc_size]; omega, (fun b hb => by cases hb), List.nodup_nil, fun p hp => ?_⟩
  · simp only [World.cell?, heap_alloc_new]
    rfl
  · obtain rfl := List.mem_singleton.1 hp
    exact (hd.step ((Below.refl w.heap.size w).alloc (Nat.le_refl _) _)).mono (fun k _ hk => by cases hk)
theorem Iv.swap {b c : Nat} (h : Iv w1 bm m [b, c] vs W) : Iv w1 bm m [c, b] vs W := by
  have hm : ∀ k, k ∈ [c, b] → k ∈ [b, c] := fun k hk => by simp at hk ⊢; exact hk.symm
  have hm' : ∀ k, k ∈ [b, c] → k ∈ [c, b] := fun k hk => by simp at hk ⊢; exact hk.symm
  refine ⟨h.bel, h.mm, h.lt, fun k hk => h.box k (hm k hk), ?_, fun p hp => (h.val p hp).mono (fun k hk hkb => hk (hm k hkb))⟩
  have := h.nd
  simp at this ⊢
  exact fun e => this e.symm
/-- A value goes into a box. -/
theorem Iv.set {b : Nat} {A : Option Addr} {n c x : Nat} (h : Iv w1 bm m bs vs W) (hb : b ∈ bs) (hv : (Value.slice A n c, x) ∈ vs) :
    W.frozen? ⟨b, 0, none⟩ = false ∧ (∃ v0, W.cell? ⟨b, 0, none⟩ = some v0) ∧ Iv w1 bm m bs vs (W.setCell ⟨b, 0, none⟩ (.slice A n c)) ∧ (W.setCell ⟨b, 0, none⟩ (.slice A n c)).cell? ⟨b, 0, none⟩ = some (.slice A n c) ∧
      ∀ k u, k ≠ b → W.cell? ⟨k, 0, none⟩ = some u → (W.setCell ⟨b, 0, none⟩ (.slice A n c)).cell? ⟨k, 0, none⟩ = some u := by
  obtain ⟨h1, A0, n0, c0, h2⟩ := h.box b hb
  have hfar : ∀ k, k ≠ b → (W.setCell ⟨b, 0, none⟩ (.slice A n c)).heap[k]? = W.heap[k]? := fun k hk => Below.heap_setCell W ⟨b, 0, none⟩ _ k hk
  have hnew : (W.setCell ⟨b, 0, none⟩ (.slice A n c)).heap[b]? = some (.cells #[.slice A n c] 29 (0, 0)) := by
    exact heap_setCell_same W b 0 #[.slice A0 n0 c0] 29 (.slice A n c) h2
  have hcell : ∀ k u, k ≠ b → W.cell? ⟨k, 0, none⟩ = some u → (W.setCell ⟨b, 0, none⟩ (.slice A n c)).cell? ⟨k, 0, none⟩ = some u := fun k u hk hu => (World.cell?_of_block (hfar k hk)).trans hu
  refine ⟨by simp [World.frozen?, h2], ⟨_, by simp [World.cell?, h2]; rfl⟩, ⟨⟨?_, ?_, ?_, ?_, ?_⟩, ?_, h.lt, fun k hk => ?_, h.nd, fun p hp => ?_⟩, by simp [World.cell?, hnew], hcell⟩
  · exact h.bel.os
  · exact h.bel.tape
  · exact h.bel.output
  · exact Nat.le_trans h.bel.size (Nat.le_of_eq (by simp))
  · exact fun k hk => (hfar k (by omega)).trans (h.bel.block k hk)
  · exact hcell bm _ (by have := h.lt; omega) h.mm
  · by_cases hkb : k = b
    · subst hkb
      exact ⟨h1, A, n, c, hnew⟩
    · obtain ⟨h3, A1, n1, c1, h4⟩ := h.box k hk
      exact ⟨h3, A1, n1, c1, (hfar k hkb).trans h4⟩
  · exact Kd.V_far (p := ⟨b, 0, none⟩) (h.val p hp) (fun k hk e => hk (e ▸ hb)) _
end
theorem allocOk29 : AllocOk Tryd.prog 29 #[.slice none 0 0] := by
  intro ρ o W ho
  unfold execOp
  rw [ho]
  simp [go_sem]
end Go.Proofs.YtmgnffklmdhooaaDoor.PAll
namespace Go.Proofs.YtmgnffklmdhooaaDoor.PAll
open Go.RowKit Go.Proofs.YtmgnffklmdhooaaDoorW.PrintWords Go.Proofs.YtmgnffklmdhooaaDoorW.PrintLast Go.Proofs.YtmgnffklmdhooaaDoorW.PrintMore
set_option linter.unusedVariables false
set_option linter.unusedSimpArgs false
set_option maxHeartbeats 8000000 in
set_option maxRecDepth 100000 in
theorem clo_walk (lo hi m x : Nat) (hlo : (dg lo).length < 100000) (hhi : (dg hi).length < 100000) (hxl : (dg x).length < 100000) {ok0 ok1 ok2 : Nat → Prop} (bl bh bm : Nat) (w : World) (vx vl vh : Value) (hx : DV ok0 w vx x) (hl : DV ok1 w vl lo) (hh : DV ok2 w vh hi) (hcl : w.cell? ⟨bl, 0, none⟩ = some vl) (hch : w.cell? ⟨bh, 0, none⟩ = some vh) (hcm : w.cell? ⟨bm, 0, none⟩ = some (.int .i64 ↑m)) :
    Calls Tryd.prog 17 #[vx, .pointer (some ⟨bl, 0, none⟩), .pointer (some ⟨bh, 0, none⟩), .pointer (some ⟨bm, 0, none⟩)] w fun e w' => e = .returned (.bool (inB lo hi m x)) ∧ Below w.heap.size w w' := by
  refine calls_of_wp Tryd.func17 rfl ?_
  have h0 := has_four (β := bn []) (.v vx) (vp bl) (vp bh) (vp bm) 29
  have d0 : (⟨#[vx, .pointer (some ⟨bl, 0, none⟩), .pointer (some ⟨bh, 0, none⟩), .pointer (some ⟨bm, 0, none⟩)] ++ Array.replicate 29 undef, []⟩ : Act).defers = [] := rfl
  refine wp_seq (wp_region ?_)
  refine oP 33 [] [0] [(0, .v vx), (1, vp bl), (2, vp bh), (3, vp bm), (5, vb false)] h0 d0 (fun a1 h1 d1 => ?_)
  clear h0 d0
  show Code.wp _ _ _ _ _
  refine wp_seq ?_
  refine wp_region_last (S := fun W => W.cell? ⟨bl, 0, none⟩ = some vl ∧ W.cell? ⟨bh, 0, none⟩ = some vh) (ds := []) (by kernel_rfl) ?_
  have hS0 : (fun W : World => W.cell? ⟨bl, 0, none⟩ = some vl ∧ W.cell? ⟨bh, 0, none⟩ = some vh) w.drew := ⟨hcl, hch⟩
  have HB0 := below_drew1 (Below.refl w.heap.size w)
  show wpAnyLast Tryd.prog .any _ _ _ _ 8 (Array.replicate 8 false) _ w.drew
  refine segV (N := 33) (β := bn []) (fuel := 7) (i := 0) (d := 8) (s := .v vl) (fun _ _ _ _ hd h => And.intro (hd.trans (And.left h)) (And.right h)) hS0 h1 rfl rfl rfl (by decide) (by kernel_rfl) (fun W' hW => op_load rfl (h1.2 1 _ rfl) Tryd.isAgg29 hW.1) (fun a2 h2 d2 => ?_)
  replace d2 := d2.trans d1
  clear h1 d1
  refine segP (N := 33) (β := bn []) (M := fun _ _ => none) (T := TT) tabOk (fun _ _ _ _ _ h => by cases h) (fun _ _ _ _ hd h => And.intro (hd.trans (And.left h)) (And.right h)) hS0 [1, 3] 5 [(0, .v vx), (1, vp bl), (2, vp bh), (3, vp bm), (5, vb false), (8, .v vl), (9, .v vx), (11, .v vx)] h2 (by kernel_rfl) (by kernel_rfl) sE (fun a3 h3 d3 => ?_)
  replace d3 := d3.trans d2
  clear h2 d2
  refine segV (N := 33) (β := bn []) (fuel := 4) (i := 4) (d := 12) (s := .v vh) (fun _ _ _ _ hd h => And.intro (hd.trans (And.left h)) (And.right h)) hS0 h3 rfl rfl rfl (by decide) (by kernel_rfl) (fun W' hW => op_load rfl (h3.2 2 _ rfl) Tryd.isAgg29 hW.2) (fun a4 h4 d4 => ?_)
  replace d4 := d4.trans d3
  clear h3 d3
  refine stepR (N := 33) (j := 2) (d := 10) (f := 18) (args := [.v vl, .v vx]) (fuel := 3) h4 (by kernel_rfl) (by kernel_rfl) Tryd.func18 rfl rfl (fun v W' => v = .int .i64 (cmpI lo x) ∧ Below (w.drew).heap.size (w.drew) W') (fun v W' hR => ⟨(hR.2.cell (World.block_lt_of_cell? _ _ hS0.1)).trans hS0.1, (hR.2.cell (World.block_lt_of_cell? _ _ hS0.2)).trans hS0.2⟩) ((cmp_walk lo x (by omega) (by omega) (w.drew) _ _ (hl.step HB0) (hx.step HB0)).mono fun e w' hh => ⟨_, hh.1, rfl, hh.2⟩) (fun a5 v5 W5 h5 d5 hR5 => ?_)
  replace d5 := d5.trans d4
  clear h4 d4
  obtain ⟨rfl, B5⟩ := hR5
  replace hS0 : W5.cell? ⟨bl, 0, none⟩ = some vl ∧ W5.cell? ⟨bh, 0, none⟩ = some vh := ⟨(B5.cell (World.block_lt_of_cell? _ _ hS0.1)).trans hS0.1, (B5.cell (World.block_lt_of_cell? _ _ hS0.2)).trans hS0.2⟩
  have HB5 := below_step HB0 B5
  refine stepR (N := 33) (j := 5) (d := 13) (f := 18) (args := [.v vx, .v vh]) (fuel := 2) h5 (by kernel_rfl) (by kernel_rfl) Tryd.func18 rfl rfl (fun v W' => v = .int .i64 (cmpI x hi) ∧ Below (W5).heap.size (W5) W') (fun v W' hR => ⟨(hR.2.cell (World.block_lt_of_cell? _ _ hS0.1)).trans hS0.1, (hR.2.cell (World.block_lt_of_cell? _ _ hS0.2)).trans hS0.2⟩) ((cmp_walk x hi (by omega) (by omega) (W5) _ _ (hx.step HB5) (hh.step HB5)).mono fun e w' hh => ⟨_, hh.1, rfl, hh.2⟩) (fun a6 v6 W6 h6 d6 hR6 => ?_)
  replace d6 := d6.trans d5
  clear h5 d5
  obtain ⟨rfl, B6⟩ := hR6
  replace hS0 : W6.cell? ⟨bl, 0, none⟩ = some vl ∧ W6.cell? ⟨bh, 0, none⟩ = some vh := ⟨(B6.cell (World.block_lt_of_cell? _ _ hS0.1)).trans hS0.1, (B6.cell (World.block_lt_of_cell? _ _ hS0.2)).trans hS0.2⟩
  have HB6 := below_step HB5 B6
  refine segP (N := 33) (β := bn []) (M := fun _ _ => none) (T := TT) tabOk (fun _ _ _ _ _ h => by cases h) (fun _ _ _ _ hd h => And.intro (hd.trans (And.left h)) (And.right h)) hS0 [6, 7] 0 [(3, vp bm), (6, vi (cmpI lo x)), (7, vi (cmpI x hi))] h6 (by kernel_rfl) (by kernel_rfl) sE (fun a7 h7 d7 => ?_)
  replace d7 := d7.trans d6
  clear h6 d6
  refine done_ (by kernel_rfl) ?_
  show Code.wp _ _ _ _ _
  have hcm' : W6.cell? ⟨bm, 0, none⟩ = some (.int .i64 ↑m) := (HB6.cell (World.block_lt_of_cell? _ _ hcm)).trans hcm
  by_cases hA0 : cmpI lo x < 0
  · have hA := decide_eq_true hA0
    by_cases hB0 : cmpI x hi < 0
    · have hB := decide_eq_true hB0
      have hr : inB lo hi m x = true := by unfold inB; simp [hA, hB]
      rw [hr]
      refine wp_seq (wp_region ?_)
      refine oP 33 [2, 3, 4, 5, 6, 7, 8, 9, 10, 11, 12, 13, 14, 15, 16, 17, 18, 19] [0, 1] [(3, vp bm), (6, vi (cmpI lo x)), (7, vi (cmpI x hi)), (14, vi (cmpI lo x)), (15, vb (decide (((cmpI lo x) : Int) < 0)))] h7 d7 (fun a8 h8 d8 => ?_)
      clear h7 d7
      rw [show (decide (((cmpI lo x) : Int) < 0)) = true from hA] at h8
      refine oP 33 [3, 4, 5, 6, 7, 8, 9, 10, 11, 12, 13, 14, 15, 16, 17, 18, 19] [2] [(3, vp bm), (6, vi (cmpI lo x)), (7, vi (cmpI x hi)), (14, vi (cmpI lo x)), (15, vb true), (16, vb true)] h8 d8 (fun a9 h9 d9 => ?_)
      clear h8 d8
      refine guard_ops (N := 33) (T := TT) (M := (fun _ _ => none)) tabOk (i := 3) (d := 17) (j := 2) (dj := 16) (b := true) (s := vi (cmpI x hi)) (l := [4, 5, 6, 7, 8, 9, 10, 11, 12, 13, 14, 15, 16, 17, 18, 19]) (fun _ _ _ h => by cases h) rfl rfl rfl rfl rfl (by decide) h9 (by kernel_rfl) (fun a10 h10 d10 => ?_)
      replace d10 := d10.trans d9
      clear h9 d9
      refine guard_ops (N := 33) (T := TT) (M := (fun _ _ => none)) tabOk (i := 4) (d := 18) (j := 2) (dj := 16) (b := true) (s := vb (decide (((cmpI x hi) : Int) < 0))) (l := [5, 6, 7, 8, 9, 10, 11, 12, 13, 14, 15, 16, 17, 18, 19]) (fun _ _ _ h => by cases h) rfl rfl rfl rfl rfl (by decide) h10 (by kernel_rfl) (fun a11 h11 d11 => ?_)
      replace d11 := d11.trans d10
      clear h10 d10
      refine gW (s := vb (decide (((cmpI x hi) : Int) < 0))) 33 [6, 7, 8, 9, 10, 11, 12, 13, 14, 15, 16, 17, 18, 19] h11 d11 rfl (want_ rfl) rfl (by decide) (op_pickT rfl (h11.2 16 _ rfl) (h11.2 18 _ rfl)) (fun a12 h12 d12 => ?_)
      clear h11 d11
      refine oP 33 [7, 8, 9, 10, 11, 12, 13, 14, 15, 16, 17, 18, 19] [6] [(3, vp bm), (6, vi (cmpI lo x)), (7, vi (cmpI x hi)), (14, vi (cmpI lo x)), (15, vb true), (16, vb true), (17, vi (cmpI x hi)), (18, vb (decide (((cmpI x hi) : Int) < 0))), (19, vb (decide (((cmpI x hi) : Int) < 0))), (20, vb (decide (((cmpI x hi) : Int) < 0)))] h12 d12 (fun a13 h13 d13 => ?_)
      clear h12 d12
      rw [show (decide (((cmpI x hi) : Int) < 0)) = true from hB] at h13
      refine skip_ops (N := 33) (i := 7) (d := 21) (j := 6) (dj := 20) (b := false) (b' := true) (l := [8, 9, 10, 11, 12, 13, 14, 15, 16, 17, 18, 19]) rfl rfl rfl rfl (by decide) rfl (by decide) h13 (fun a14 h14 d14 => ?_)
      replace d14 := d14.trans d13
      clear h13 d13
      refine skip_ops (N := 33) (i := 8) (d := 22) (j := 6) (dj := 20) (b := false) (b' := true) (l := [9, 10, 11, 12, 13, 14, 15, 16, 17, 18, 19]) rfl rfl rfl rfl (by decide) rfl (by decide) h14 (fun a15 h15 d15 => ?_)
      replace d15 := d15.trans d14
      clear h14 d14
      refine skip_ops (N := 33) (i := 9) (d := 23) (j := 6) (dj := 20) (b := false) (b' := true) (l := [10, 11, 12, 13, 14, 15, 16, 17, 18, 19]) rfl rfl rfl rfl (by decide) rfl (by decide) h15 (fun a16 h16 d16 => ?_)
      replace d16 := d16.trans d15
      clear h15 d15
      refine skip_ops (N := 33) (i := 10) (d := 24) (j := 6) (dj := 20) (b := false) (b' := true) (l := [11, 12, 13, 14, 15, 16, 17, 18, 19]) rfl rfl rfl rfl (by decide) rfl (by decide) h16 (fun a17 h17 d17 => ?_)
      replace d17 := d17.trans d16
      clear h16 d16
      refine skipU_ops (N := 33) (i := 11) (d := 25) (j := 10) (dj := 24) (b := true) (l := [12, 13, 14, 15, 16, 17, 18, 19]) rfl rfl rfl rfl rfl (by decide) h17 (fun a18 h18 d18 => ?_)
      replace d18 := d18.trans d17
      clear h17 d17
      refine skipU_ops (N := 33) (i := 12) (d := 26) (j := 10) (dj := 24) (b := true) (l := [13, 14, 15, 16, 17, 18, 19]) rfl rfl rfl rfl rfl (by decide) h18 (fun a19 h19 d19 => ?_)
      replace d19 := d19.trans d18
      clear h18 d18
      refine skip_ops (N := 33) (i := 13) (d := 27) (j := 6) (dj := 20) (b := false) (b' := true) (l := [14, 15, 16, 17, 18, 19]) rfl rfl rfl rfl (by decide) rfl (by decide) h19 (fun a20 h20 d20 => ?_)
      replace d20 := d20.trans d19
      clear h19 d19
      refine skip_ops (N := 33) (i := 14) (d := 28) (j := 6) (dj := 20) (b := false) (b' := true) (l := [15, 16, 17, 18, 19]) rfl rfl rfl rfl (by decide) rfl (by decide) h20 (fun a21 h21 d21 => ?_)
      replace d21 := d21.trans d20
      clear h20 d20
      refine skipU_ops (N := 33) (i := 15) (d := 29) (j := 14) (dj := 28) (b := true) (l := [16, 17, 18, 19]) rfl rfl rfl rfl rfl (by decide) h21 (fun a22 h22 d22 => ?_)
      replace d22 := d22.trans d21
      clear h21 d21
      refine skipU_ops (N := 33) (i := 16) (d := 30) (j := 14) (dj := 28) (b := true) (l := [17, 18, 19]) rfl rfl rfl rfl rfl (by decide) h22 (fun a23 h23 d23 => ?_)
      replace d23 := d23.trans d22
      clear h22 d22
      refine skip_ops (N := 33) (i := 17) (d := 31) (j := 6) (dj := 20) (b := false) (b' := true) (l := [18, 19]) rfl rfl rfl rfl (by decide) rfl (by decide) h23 (fun a24 h24 d24 => ?_)
      replace d24 := d24.trans d23
      clear h23 d23
      refine gW (s := .v (Value.bool true)) 33 [19] h24 d24 rfl (want_ rfl) rfl (by decide) (op_pickT rfl (h24.2 20 _ rfl) rfl) (fun a25 h25 d25 => ?_)
      clear h24 d24
      refine oP 33 [] [19] [(5, vb true)] h25 d25 (fun a26 h26 d26 => ?_)
      clear h25 d25
      show Code.wp _ _ _ _ _
      refine wp_ret ?_
      exact ⟨d26, _, results_tmp rfl _ _ _, congrArg Ending.returned (h26.2 5 _ rfl), HB6⟩
    · have hB := decide_eq_false hB0
      rcases Nat.mod_two_eq_zero_or_one m with hp | hp
      · have hC : decide (cmpI lo x ≤ 0) = true := decide_eq_true (by omega)
        by_cases hD0 : cmpI x hi ≤ 0
        · have hD := decide_eq_true hD0
          have hr : inB lo hi m x = true := by unfold inB; simp [hA, hB, hp, hC, hD]
          rw [hr]
          refine wp_seq (wp_region ?_)
          refine oP 33 [2, 3, 4, 5, 6, 7, 8, 9, 10, 11, 12, 13, 14, 15, 16, 17, 18, 19] [0, 1] [(3, vp bm), (6, vi (cmpI lo x)), (7, vi (cmpI x hi)), (14, vi (cmpI lo x)), (15, vb (decide (((cmpI lo x) : Int) < 0)))] h7 d7 (fun a8 h8 d8 => ?_)
          clear h7 d7
          rw [show (decide (((cmpI lo x) : Int) < 0)) = true from hA] at h8
          refine oP 33 [3, 4, 5, 6, 7, 8, 9, 10, 11, 12, 13, 14, 15, 16, 17, 18, 19] [2] [(3, vp bm), (6, vi (cmpI lo x)), (7, vi (cmpI x hi)), (14, vi (cmpI lo x)), (15, vb true), (16, vb true)] h8 d8 (fun a9 h9 d9 => ?_)
          clear h8 d8
          refine guard_ops (N := 33) (T := TT) (M := (fun _ _ => none)) tabOk (i := 3) (d := 17) (j := 2) (dj := 16) (b := true) (s := vi (cmpI x hi)) (l := [4, 5, 6, 7, 8, 9, 10, 11, 12, 13, 14, 15, 16, 17, 18, 19]) (fun _ _ _ h => by cases h) rfl rfl rfl rfl rfl (by decide) h9 (by kernel_rfl) (fun a10 h10 d10 => ?_)
          replace d10 := d10.trans d9
          clear h9 d9
          refine guard_ops (N := 33) (T := TT) (M := (fun _ _ => none)) tabOk (i := 4) (d := 18) (j := 2) (dj := 16) (b := true) (s := vb (decide (((cmpI x hi) : Int) < 0))) (l := [5, 6, 7, 8, 9, 10, 11, 12, 13, 14, 15, 16, 17, 18, 19]) (fun _ _ _ h => by cases h) rfl rfl rfl rfl rfl (by decide) h10 (by kernel_rfl) (fun a11 h11 d11 => ?_)
          replace d11 := d11.trans d10
          clear h10 d10
          refine gW (s := vb (decide (((cmpI x hi) : Int) < 0))) 33 [6, 7, 8, 9, 10, 11, 12, 13, 14, 15, 16, 17, 18, 19] h11 d11 rfl (want_ rfl) rfl (by decide) (op_pickT rfl (h11.2 16 _ rfl) (h11.2 18 _ rfl)) (fun a12 h12 d12 => ?_)
          clear h11 d11
          refine oP 33 [7, 8, 9, 10, 11, 12, 13, 14, 15, 16, 17, 18, 19] [6] [(3, vp bm), (6, vi (cmpI lo x)), (7, vi (cmpI x hi)), (14, vi (cmpI lo x)), (15, vb true), (16, vb true), (17, vi (cmpI x hi)), (18, vb (decide (((cmpI x hi) : Int) < 0))), (19, vb (decide (((cmpI x hi) : Int) < 0))), (20, vb (decide (((cmpI x hi) : Int) < 0)))] h12 d12 (fun a13 h13 d13 => ?_)
          clear h12 d12
          rw [show (decide (((cmpI x hi) : Int) < 0)) = false from hB] at h13
          refine gW (s := vi ↑m) 33 [8, 9, 10, 11, 12, 13, 14, 15, 16, 17, 18, 19] h13 d13 rfl (want_g h13 (j := 6) (d := 20) (b := false) rfl rfl rfl) rfl (by decide) (op_load rfl (h13.2 3 _ rfl) Tryd.isAgg2 hcm') (fun a14 h14 d14 => ?_)
          clear h13 d13
          refine guard_ops (N := 33) (T := TT) (M := (fun _ _ => none)) tabOk (i := 8) (d := 22) (j := 6) (dj := 20) (b := false) (s := vi (Int.tmod ((m : Nat) : Int) 2)) (l := [9, 10, 11, 12, 13, 14, 15, 16, 17, 18, 19]) (fun _ _ _ h => by cases h) rfl rfl rfl rfl rfl (by decide) h14 (by kernel_rfl) (fun a15 h15 d15 => ?_)
          replace d15 := d15.trans d14
          clear h14 d14
          rw [show (Int.tmod ((m : Nat) : Int) 2) = 0 from by rw [show Int.tmod ((m : Nat) : Int) 2 = ((m % 2 : Nat) : Int) from (Int.ofNat_tmod m 2).symm, hp]; rfl] at h15
          refine guard_ops (N := 33) (T := TT) (M := (fun _ _ => none)) tabOk (i := 9) (d := 23) (j := 6) (dj := 20) (b := false) (s := vb true) (l := [10, 11, 12, 13, 14, 15, 16, 17, 18, 19]) (fun _ _ _ h => by cases h) rfl rfl rfl rfl rfl (by decide) h15 (by kernel_rfl) (fun a16 h16 d16 => ?_)
          replace d16 := d16.trans d15
          clear h15 d15
          refine guard_ops (N := 33) (T := TT) (M := (fun _ _ => none)) tabOk (i := 10) (d := 24) (j := 6) (dj := 20) (b := false) (s := vb true) (l := [11, 12, 13, 14, 15, 16, 17, 18, 19]) (fun _ _ _ h => by cases h) rfl rfl rfl rfl rfl (by decide) h16 (by kernel_rfl) (fun a17 h17 d17 => ?_)
          replace d17 := d17.trans d16
          clear h16 d16
          refine guard_ops (N := 33) (T := TT) (M := (fun _ _ => none)) tabOk (i := 11) (d := 25) (j := 10) (dj := 24) (b := true) (s := vi (cmpI lo x)) (l := [12, 13, 14, 15, 16, 17, 18, 19]) (fun _ _ _ h => by cases h) rfl rfl rfl rfl rfl (by decide) h17 (by kernel_rfl) (fun a18 h18 d18 => ?_)
          replace d18 := d18.trans d17
          clear h17 d17
          refine guard_ops (N := 33) (T := TT) (M := (fun _ _ => none)) tabOk (i := 12) (d := 26) (j := 10) (dj := 24) (b := true) (s := vb (decide (((cmpI lo x) : Int) ≤ 0))) (l := [13, 14, 15, 16, 17, 18, 19]) (fun _ _ _ h => by cases h) rfl rfl rfl rfl rfl (by decide) h18 (by kernel_rfl) (fun a19 h19 d19 => ?_)
          replace d19 := d19.trans d18
          clear h18 d18
          refine gW (s := vb (decide (((cmpI lo x) : Int) ≤ 0))) 33 [14, 15, 16, 17, 18, 19] h19 d19 rfl (want_g h19 (j := 6) (d := 20) (b := false) rfl rfl rfl) rfl (by decide) (op_pickT rfl (h19.2 24 _ rfl) (h19.2 26 _ rfl)) (fun a20 h20 d20 => ?_)
          clear h19 d19
          refine guard_ops (N := 33) (T := TT) (M := (fun _ _ => none)) tabOk (i := 14) (d := 28) (j := 6) (dj := 20) (b := false) (s := vb (decide (((cmpI lo x) : Int) ≤ 0))) (l := [15, 16, 17, 18, 19]) (fun _ _ _ h => by cases h) rfl rfl rfl rfl rfl (by decide) h20 (by kernel_rfl) (fun a21 h21 d21 => ?_)
          replace d21 := d21.trans d20
          clear h20 d20
          rw [show (decide (((cmpI lo x) : Int) ≤ 0)) = true from hC] at h21
          refine guard_ops (N := 33) (T := TT) (M := (fun _ _ => none)) tabOk (i := 15) (d := 29) (j := 14) (dj := 28) (b := true) (s := vi (cmpI x hi)) (l := [16, 17, 18, 19]) (fun _ _ _ h => by cases h) rfl rfl rfl rfl rfl (by decide) h21 (by kernel_rfl) (fun a22 h22 d22 => ?_)
          replace d22 := d22.trans d21
          clear h21 d21
          refine guard_ops (N := 33) (T := TT) (M := (fun _ _ => none)) tabOk (i := 16) (d := 30) (j := 14) (dj := 28) (b := true) (s := vb (decide (((cmpI x hi) : Int) ≤ 0))) (l := [17, 18, 19]) (fun _ _ _ h => by cases h) rfl rfl rfl rfl rfl (by decide) h22 (by kernel_rfl) (fun a23 h23 d23 => ?_)
          replace d23 := d23.trans d22
          clear h22 d22
          refine gW (s := vb (decide (((cmpI x hi) : Int) ≤ 0))) 33 [18, 19] h23 d23 rfl (want_g h23 (j := 6) (d := 20) (b := false) rfl rfl rfl) rfl (by decide) (op_pickT rfl (h23.2 28 _ rfl) (h23.2 30 _ rfl)) (fun a24 h24 d24 => ?_)
          clear h23 d23
          refine gW (s := vb (decide (((cmpI x hi) : Int) ≤ 0))) 33 [19] h24 d24 rfl (want_ rfl) rfl (by decide) (op_pickF rfl (h24.2 20 _ rfl) (h24.2 31 _ rfl)) (fun a25 h25 d25 => ?_)
          clear h24 d24
          refine oP 33 [] [19] [(5, vb (decide (((cmpI x hi) : Int) ≤ 0)))] h25 d25 (fun a26 h26 d26 => ?_)
          clear h25 d25
          rw [show (decide (((cmpI x hi) : Int) ≤ 0)) = true from hD] at h26
          show Code.wp _ _ _ _ _
          refine wp_ret ?_
          exact ⟨d26, _, results_tmp rfl _ _ _, congrArg Ending.returned (h26.2 5 _ rfl), HB6⟩
        · have hD := decide_eq_false hD0
          have hr : inB lo hi m x = false := by unfold inB; simp [hA, hB, hp, hC, hD]
          rw [hr]
          refine wp_seq (wp_region ?_)
          refine oP 33 [2, 3, 4, 5, 6, 7, 8, 9, 10, 11, 12, 13, 14, 15, 16, 17, 18, 19] [0, 1] [(3, vp bm), (6, vi (cmpI lo x)), (7, vi (cmpI x hi)), (14, vi (cmpI lo x)), (15, vb (decide (((cmpI lo x) : Int) < 0)))] h7 d7 (fun a8 h8 d8 => ?_)
          clear h7 d7
          rw [show (decide (((cmpI lo x) : Int) < 0)) = true from hA] at h8
          refine oP 33 [3, 4, 5, 6, 7, 8, 9, 10, 11, 12, 13, 14, 15, 16, 17, 18, 19] [2] [(3, vp bm), (6, vi (cmpI lo x)), (7, vi (cmpI x hi)), (14, vi (cmpI lo x)), (15, vb true), (16, vb true)] h8 d8 (fun a9 h9 d9 => ?_)
          clear h8 d8
          refine guard_ops (N := 33) (T := TT) (M := (fun _ _ => none)) tabOk (i := 3) (d := 17) (j := 2) (dj := 16) (b := true) (s := vi (cmpI x hi)) (l := [4, 5, 6, 7, 8, 9, 10, 11, 12, 13, 14, 15, 16, 17, 18, 19]) (fun _ _ _ h => by cases h) rfl rfl rfl rfl rfl (by decide) h9 (by kernel_rfl) (fun a10 h10 d10 => ?_)
          replace d10 := d10.trans d9
          clear h9 d9
          refine guard_ops (N := 33) (T := TT) (M := (fun _ _ => none)) tabOk (i := 4) (d := 18) (j := 2) (dj := 16) (b := true) (s := vb (decide (((cmpI x hi) : Int) < 0))) (l := [5, 6, 7, 8, 9, 10, 11, 12, 13, 14, 15, 16, 17, 18, 19]) (fun _ _ _ h => by cases h) rfl rfl rfl rfl rfl (by decide) h10 (by kernel_rfl) (fun a11 h11 d11 => ?_)
          replace d11 := d11.trans d10
          clear h10 d10
          refine gW (s := vb (decide (((cmpI x hi) : Int) < 0))) 33 [6, 7, 8, 9, 10, 11, 12, 13, 14, 15, 16, 17, 18, 19] h11 d11 rfl (want_ rfl) rfl (by decide) (op_pickT rfl (h11.2 16 _ rfl) (h11.2 18 _ rfl)) (fun a12 h12 d12 => ?_)
          clear h11 d11
          refine oP 33 [7, 8, 9, 10, 11, 12, 13, 14, 15, 16, 17, 18, 19] [6] [(3, vp bm), (6, vi (cmpI lo x)), (7, vi (cmpI x hi)), (14, vi (cmpI lo x)), (15, vb true), (16, vb true), (17, vi (cmpI x hi)), (18, vb (decide (((cmpI x hi) : Int) < 0))), (19, vb (decide (((cmpI x hi) : Int) < 0))), (20, vb (decide (((cmpI x hi) : Int) < 0)))] h12 d12 (fun a13 h13 d13 => ?_)
          clear h12 d12
          rw [show (decide (((cmpI x hi) : Int) < 0)) = false from hB] at h13
          refine gW (s := vi ↑m) 33 [8, 9, 10, 11, 12, 13, 14, 15, 16, 17, 18, 19] h13 d13 rfl (want_g h13 (j := 6) (d := 20) (b := false) rfl rfl rfl) rfl (by decide) (op_load rfl (h13.2 3 _ rfl) Tryd.isAgg2 hcm') (fun a14 h14 d14 => ?_)
          clear h13 d13
          refine guard_ops (N := 33) (T := TT) (M := (fun _ _ => none)) tabOk (i := 8) (d := 22) (j := 6) (dj := 20) (b := false) (s := vi (Int.tmod ((m : Nat) : Int) 2)) (l := [9, 10, 11, 12, 13, 14, 15, 16, 17, 18, 19]) (fun _ _ _ h => by cases h) rfl rfl rfl rfl rfl (by decide) h14 (by kernel_rfl) (fun a15 h15 d15 => ?_)
          replace d15 := d15.trans d14
          clear h14 d14
          rw [show (Int.tmod ((m : Nat) : Int) 2) = 0 from by rw [show Int.tmod ((m : Nat) : Int) 2 = ((m % 2 : Nat) : Int) from (Int.ofNat_tmod m 2).symm, hp]; rfl] at h15
          refine guard_ops (N := 33) (T := TT) (M := (fun _ _ => none)) tabOk (i := 9) (d := 23) (j := 6) (dj := 20) (b := false) (s := vb true) (l := [10, 11, 12, 13, 14, 15, 16, 17, 18, 19]) (fun _ _ _ h => by cases h) rfl rfl rfl rfl rfl (by decide) h15 (by kernel_rfl) (fun a16 h16 d16 => ?_)
          replace d16 := d16.trans d15
          clear h15 d15
          refine guard_ops (N := 33) (T := TT) (M := (fun _ _ => none)) tabOk (i := 10) (d := 24) (j := 6) (dj := 20) (b := false) (s := vb true) (l := [11, 12, 13, 14, 15, 16, 17, 18, 19]) (fun _ _ _ h => by cases h) rfl rfl rfl rfl rfl (by decide) h16 (by kernel_rfl) (fun a17 h17 d17 => ?_)
          replace d17 := d17.trans d16
          clear h16 d16
          refine guard_ops (N := 33) (T := TT) (M := (fun _ _ => none)) tabOk (i := 11) (d := 25) (j := 10) (dj := 24) (b := true) (s := vi (cmpI lo x)) (l := [12, 13, 14, 15, 16, 17, 18, 19]) (fun _ _ _ h => by cases h) rfl rfl rfl rfl rfl (by decide) h17 (by kernel_rfl) (fun a18 h18 d18 => ?_)
          replace d18 := d18.trans d17
          clear h17 d17
          refine guard_ops (N := 33) (T := TT) (M := (fun _ _ => none)) tabOk (i := 12) (d := 26) (j := 10) (dj := 24) (b := true) (s := vb (decide (((cmpI lo x) : Int) ≤ 0))) (l := [13, 14, 15, 16, 17, 18, 19]) (fun _ _ _ h => by cases h) rfl rfl rfl rfl rfl (by decide) h18 (by kernel_rfl) (fun a19 h19 d19 => ?_)
          replace d19 := d19.trans d18
          clear h18 d18
          refine gW (s := vb (decide (((cmpI lo x) : Int) ≤ 0))) 33 [14, 15, 16, 17, 18, 19] h19 d19 rfl (want_g h19 (j := 6) (d := 20) (b := false) rfl rfl rfl) rfl (by decide) (op_pickT rfl (h19.2 24 _ rfl) (h19.2 26 _ rfl)) (fun a20 h20 d20 => ?_)
          clear h19 d19
          refine guard_ops (N := 33) (T := TT) (M := (fun _ _ => none)) tabOk (i := 14) (d := 28) (j := 6) (dj := 20) (b := false) (s := vb (decide (((cmpI lo x) : Int) ≤ 0))) (l := [15, 16, 17, 18, 19]) (fun _ _ _ h => by cases h) rfl rfl rfl rfl rfl (by decide) h20 (by kernel_rfl) (fun a21 h21 d21 => ?_)
          replace d21 := d21.trans d20
          clear h20 d20
          rw [show (decide (((cmpI lo x) : Int) ≤ 0)) = true from hC] at h21
          refine guard_ops (N := 33) (T := TT) (M := (fun _ _ => none)) tabOk (i := 15) (d := 29) (j := 14) (dj := 28) (b := true) (s := vi (cmpI x hi)) (l := [16, 17, 18, 19]) (fun _ _ _ h => by cases h) rfl rfl rfl rfl rfl (by decide) h21 (by kernel_rfl) (fun a22 h22 d22 => ?_)
          replace d22 := d22.trans d21
          clear h21 d21
          refine guard_ops (N := 33) (T := TT) (M := (fun _ _ => none)) tabOk (i := 16) (d := 30) (j := 14) (dj := 28) (b := true) (s := vb (decide (((cmpI x hi) : Int) ≤ 0))) (l := [17, 18, 19]) (fun _ _ _ h => by cases h) rfl rfl rfl rfl rfl (by decide) h22 (by kernel_rfl) (fun a23 h23 d23 => ?_)
          replace d23 := d23.trans d22
          clear h22 d22
          refine gW (s := vb (decide (((cmpI x hi) : Int) ≤ 0))) 33 [18, 19] h23 d23 rfl (want_g h23 (j := 6) (d := 20) (b := false) rfl rfl rfl) rfl (by decide) (op_pickT rfl (h23.2 28 _ rfl) (h23.2 30 _ rfl)) (fun a24 h24 d24 => ?_)
          clear h23 d23
          refine gW (s := vb (decide (((cmpI x hi) : Int) ≤ 0))) 33 [19] h24 d24 rfl (want_ rfl) rfl (by decide) (op_pickF rfl (h24.2 20 _ rfl) (h24.2 31 _ rfl)) (fun a25 h25 d25 => ?_)
          clear h24 d24
          refine oP 33 [] [19] [(5, vb (decide (((cmpI x hi) : Int) ≤ 0)))] h25 d25 (fun a26 h26 d26 => ?_)
          clear h25 d25
          rw [show (decide (((cmpI x hi) : Int) ≤ 0)) = false from hD] at h26
          show Code.wp _ _ _ _ _
          refine wp_ret ?_
          exact ⟨d26, _, results_tmp rfl _ _ _, congrArg Ending.returned (h26.2 5 _ rfl), HB6⟩
      · have hr : inB lo hi m x = false := by unfold inB; simp [hA, hB, hp]
        rw [hr]
        refine wp_seq (wp_region ?_)
        refine oP 33 [2, 3, 4, 5, 6, 7, 8, 9, 10, 11, 12, 13, 14, 15, 16, 17, 18, 19] [0, 1] [(3, vp bm), (6, vi (cmpI lo x)), (7, vi (cmpI x hi)), (14, vi (cmpI lo x)), (15, vb (decide (((cmpI lo x) : Int) < 0)))] h7 d7 (fun a8 h8 d8 => ?_)
        clear h7 d7
        rw [show (decide (((cmpI lo x) : Int) < 0)) = true from hA] at h8
        refine oP 33 [3, 4, 5, 6, 7, 8, 9, 10, 11, 12, 13, 14, 15, 16, 17, 18, 19] [2] [(3, vp bm), (6, vi (cmpI lo x)), (7, vi (cmpI x hi)), (14, vi (cmpI lo x)), (15, vb true), (16, vb true)] h8 d8 (fun a9 h9 d9 => ?_)
        clear h8 d8
        refine guard_ops (N := 33) (T := TT) (M := (fun _ _ => none)) tabOk (i := 3) (d := 17) (j := 2) (dj := 16) (b := true) (s := vi (cmpI x hi)) (l := [4, 5, 6, 7, 8, 9, 10, 11, 12, 13, 14, 15, 16, 17, 18, 19]) (fun _ _ _ h => by cases h) rfl rfl rfl rfl rfl (by decide) h9 (by kernel_rfl) (fun a10 h10 d10 => ?_)
        replace d10 := d10.trans d9
        clear h9 d9
        refine guard_ops (N := 33) (T := TT) (M := (fun _ _ => none)) tabOk (i := 4) (d := 18) (j := 2) (dj := 16) (b := true) (s := vb (decide (((cmpI x hi) : Int) < 0))) (l := [5, 6, 7, 8, 9, 10, 11, 12, 13, 14, 15, 16, 17, 18, 19]) (fun _ _ _ h => by cases h) rfl rfl rfl rfl rfl (by decide) h10 (by kernel_rfl) (fun a11 h11 d11 => ?_)
        replace d11 := d11.trans d10
        clear h10 d10
        refine gW (s := vb (decide (((cmpI x hi) : Int) < 0))) 33 [6, 7, 8, 9, 10, 11, 12, 13, 14, 15, 16, 17, 18, 19] h11 d11 rfl (want_ rfl) rfl (by decide) (op_pickT rfl (h11.2 16 _ rfl) (h11.2 18 _ rfl)) (fun a12 h12 d12 => ?_)
        clear h11 d11
        refine oP 33 [7, 8, 9, 10, 11, 12, 13, 14, 15, 16, 17, 18, 19] [6] [(3, vp bm), (6, vi (cmpI lo x)), (7, vi (cmpI x hi)), (14, vi (cmpI lo x)), (15, vb true), (16, vb true), (17, vi (cmpI x hi)), (18, vb (decide (((cmpI x hi) : Int) < 0))), (19, vb (decide (((cmpI x hi) : Int) < 0))), (20, vb (decide (((cmpI x hi) : Int) < 0)))] h12 d12 (fun a13 h13 d13 => ?_)
        clear h12 d12
        rw [show (decide (((cmpI x hi) : Int) < 0)) = false from hB] at h13
        refine gW (s := vi ↑m) 33 [8, 9, 10, 11, 12, 13, 14, 15, 16, 17, 18, 19] h13 d13 rfl (want_g h13 (j := 6) (d := 20) (b := false) rfl rfl rfl) rfl (by decide) (op_load rfl (h13.2 3 _ rfl) Tryd.isAgg2 hcm') (fun a14 h14 d14 => ?_)
        clear h13 d13
        refine guard_ops (N := 33) (T := TT) (M := (fun _ _ => none)) tabOk (i := 8) (d := 22) (j := 6) (dj := 20) (b := false) (s := vi (Int.tmod ((m : Nat) : Int) 2)) (l := [9, 10, 11, 12, 13, 14, 15, 16, 17, 18, 19]) (fun _ _ _ h => by cases h) rfl rfl rfl rfl rfl (by decide) h14 (by kernel_rfl) (fun a15 h15 d15 => ?_)
        replace d15 := d15.trans d14
        clear h14 d14
        rw [show (Int.tmod ((m : Nat) : Int) 2) = 1 from by rw [show Int.tmod ((m : Nat) : Int) 2 = ((m % 2 : Nat) : Int) from (Int.ofNat_tmod m 2).symm, hp]; rfl] at h15
        refine guard_ops (N := 33) (T := TT) (M := (fun _ _ => none)) tabOk (i := 9) (d := 23) (j := 6) (dj := 20) (b := false) (s := vb false) (l := [10, 11, 12, 13, 14, 15, 16, 17, 18, 19]) (fun _ _ _ h => by cases h) rfl rfl rfl rfl rfl (by decide) h15 (by kernel_rfl) (fun a16 h16 d16 => ?_)
        replace d16 := d16.trans d15
        clear h15 d15
        refine guard_ops (N := 33) (T := TT) (M := (fun _ _ => none)) tabOk (i := 10) (d := 24) (j := 6) (dj := 20) (b := false) (s := vb false) (l := [11, 12, 13, 14, 15, 16, 17, 18, 19]) (fun _ _ _ h => by cases h) rfl rfl rfl rfl rfl (by decide) h16 (by kernel_rfl) (fun a17 h17 d17 => ?_)
        replace d17 := d17.trans d16
        clear h16 d16
        refine skip_ops (N := 33) (i := 11) (d := 25) (j := 10) (dj := 24) (b := true) (b' := false) (l := [12, 13, 14, 15, 16, 17, 18, 19]) rfl rfl rfl rfl (by decide) rfl (by decide) h17 (fun a18 h18 d18 => ?_)
        replace d18 := d18.trans d17
        clear h17 d17
        refine skip_ops (N := 33) (i := 12) (d := 26) (j := 10) (dj := 24) (b := true) (b' := false) (l := [13, 14, 15, 16, 17, 18, 19]) rfl rfl rfl rfl (by decide) rfl (by decide) h18 (fun a19 h19 d19 => ?_)
        replace d19 := d19.trans d18
        clear h18 d18
        refine gW (s := .v (Value.bool false)) 33 [14, 15, 16, 17, 18, 19] h19 d19 rfl (want_g h19 (j := 6) (d := 20) (b := false) rfl rfl rfl) rfl (by decide) (op_pickF rfl (h19.2 24 _ rfl) rfl) (fun a20 h20 d20 => ?_)
        clear h19 d19
        refine guard_ops (N := 33) (T := TT) (M := (fun _ _ => none)) tabOk (i := 14) (d := 28) (j := 6) (dj := 20) (b := false) (s := vb false) (l := [15, 16, 17, 18, 19]) (fun _ _ _ h => by cases h) rfl rfl rfl rfl rfl (by decide) h20 (by kernel_rfl) (fun a21 h21 d21 => ?_)
        replace d21 := d21.trans d20
        clear h20 d20
        refine skip_ops (N := 33) (i := 15) (d := 29) (j := 14) (dj := 28) (b := true) (b' := false) (l := [16, 17, 18, 19]) rfl rfl rfl rfl (by decide) rfl (by decide) h21 (fun a22 h22 d22 => ?_)
        replace d22 := d22.trans d21
        clear h21 d21
        refine skip_ops (N := 33) (i := 16) (d := 30) (j := 14) (dj := 28) (b := true) (b' := false) (l := [17, 18, 19]) rfl rfl rfl rfl (by decide) rfl (by decide) h22 (fun a23 h23 d23 => ?_)
        replace d23 := d23.trans d22
        clear h22 d22
        refine gW (s := .v (Value.bool false)) 33 [18, 19] h23 d23 rfl (want_g h23 (j := 6) (d := 20) (b := false) rfl rfl rfl) rfl (by decide) (op_pickF rfl (h23.2 28 _ rfl) rfl) (fun a24 h24 d24 => ?_)
        clear h23 d23
        refine gW (s := vb false) 33 [19] h24 d24 rfl (want_ rfl) rfl (by decide) (op_pickF rfl (h24.2 20 _ rfl) (h24.2 31 _ rfl)) (fun a25 h25 d25 => ?_)
        clear h24 d24
        refine oP 33 [] [19] [(5, vb false)] h25 d25 (fun a26 h26 d26 => ?_)
        clear h25 d25
        show Code.wp _ _ _ _ _
        refine wp_ret ?_
        exact ⟨d26, _, results_tmp rfl _ _ _, congrArg Ending.returned (h26.2 5 _ rfl), HB6⟩
  · have hA := decide_eq_false hA0
    rcases Nat.mod_two_eq_zero_or_one m with hp | hp
    · by_cases hC0 : cmpI lo x ≤ 0
      · have hC := decide_eq_true hC0
        by_cases hD0 : cmpI x hi ≤ 0
        · have hD := decide_eq_true hD0
          have hr : inB lo hi m x = true := by unfold inB; simp [hA, hp, hC, hD]
          rw [hr]
          refine wp_seq (wp_region ?_)
          refine oP 33 [2, 3, 4, 5, 6, 7, 8, 9, 10, 11, 12, 13, 14, 15, 16, 17, 18, 19] [0, 1] [(3, vp bm), (6, vi (cmpI lo x)), (7, vi (cmpI x hi)), (14, vi (cmpI lo x)), (15, vb (decide (((cmpI lo x) : Int) < 0)))] h7 d7 (fun a8 h8 d8 => ?_)
          clear h7 d7
          rw [show (decide (((cmpI lo x) : Int) < 0)) = false from hA] at h8
          refine oP 33 [3, 4, 5, 6, 7, 8, 9, 10, 11, 12, 13, 14, 15, 16, 17, 18, 19] [2] [(3, vp bm), (6, vi (cmpI lo x)), (7, vi (cmpI x hi)), (14, vi (cmpI lo x)), (15, vb false), (16, vb false)] h8 d8 (fun a9 h9 d9 => ?_)
          clear h8 d8
          refine skip_ops (N := 33) (i := 3) (d := 17) (j := 2) (dj := 16) (b := true) (b' := false) (l := [4, 5, 6, 7, 8, 9, 10, 11, 12, 13, 14, 15, 16, 17, 18, 19]) rfl rfl rfl rfl (by decide) rfl (by decide) h9 (fun a10 h10 d10 => ?_)
          replace d10 := d10.trans d9
          clear h9 d9
          refine skip_ops (N := 33) (i := 4) (d := 18) (j := 2) (dj := 16) (b := true) (b' := false) (l := [5, 6, 7, 8, 9, 10, 11, 12, 13, 14, 15, 16, 17, 18, 19]) rfl rfl rfl rfl (by decide) rfl (by decide) h10 (fun a11 h11 d11 => ?_)
          replace d11 := d11.trans d10
          clear h10 d10
          refine gW (s := .v (Value.bool false)) 33 [6, 7, 8, 9, 10, 11, 12, 13, 14, 15, 16, 17, 18, 19] h11 d11 rfl (want_ rfl) rfl (by decide) (op_pickF rfl (h11.2 16 _ rfl) rfl) (fun a12 h12 d12 => ?_)
          clear h11 d11
          refine oP 33 [7, 8, 9, 10, 11, 12, 13, 14, 15, 16, 17, 18, 19] [6] [(3, vp bm), (6, vi (cmpI lo x)), (7, vi (cmpI x hi)), (14, vi (cmpI lo x)), (15, vb false), (16, vb false), (17, .v undef), (18, .v undef), (19, vb false), (20, vb false)] h12 d12 (fun a13 h13 d13 => ?_)
          clear h12 d12
          refine gW (s := vi ↑m) 33 [8, 9, 10, 11, 12, 13, 14, 15, 16, 17, 18, 19] h13 d13 rfl (want_g h13 (j := 6) (d := 20) (b := false) rfl rfl rfl) rfl (by decide) (op_load rfl (h13.2 3 _ rfl) Tryd.isAgg2 hcm') (fun a14 h14 d14 => ?_)
          clear h13 d13
          refine guard_ops (N := 33) (T := TT) (M := (fun _ _ => none)) tabOk (i := 8) (d := 22) (j := 6) (dj := 20) (b := false) (s := vi (Int.tmod ((m : Nat) : Int) 2)) (l := [9, 10, 11, 12, 13, 14, 15, 16, 17, 18, 19]) (fun _ _ _ h => by cases h) rfl rfl rfl rfl rfl (by decide) h14 (by kernel_rfl) (fun a15 h15 d15 => ?_)
          replace d15 := d15.trans d14
          clear h14 d14
          rw [show (Int.tmod ((m : Nat) : Int) 2) = 0 from by rw [show Int.tmod ((m : Nat) : Int) 2 = ((m % 2 : Nat) : Int) from (Int.ofNat_tmod m 2).symm, hp]; rfl] at h15
          refine guard_ops (N := 33) (T := TT) (M := (fun _ _ => none)) tabOk (i := 9) (d := 23) (j := 6) (dj := 20) (b := false) (s := vb true) (l := [10, 11, 12, 13, 14, 15, 16, 17, 18, 19]) (fun _ _ _ h => by cases h) rfl rfl rfl rfl rfl (by decide) h15 (by kernel_rfl) (fun a16 h16 d16 => ?_)
          replace d16 := d16.trans d15
          clear h15 d15
          refine guard_ops (N := 33) (T := TT) (M := (fun _ _ => none)) tabOk (i := 10) (d := 24) (j := 6) (dj := 20) (b := false) (s := vb true) (l := [11, 12, 13, 14, 15, 16, 17, 18, 19]) (fun _ _ _ h => by cases h) rfl rfl rfl rfl rfl (by decide) h16 (by kernel_rfl) (fun a17 h17 d17 => ?_)
          replace d17 := d17.trans d16
          clear h16 d16
          refine guard_ops (N := 33) (T := TT) (M := (fun _ _ => none)) tabOk (i := 11) (d := 25) (j := 10) (dj := 24) (b := true) (s := vi (cmpI lo x)) (l := [12, 13, 14, 15, 16, 17, 18, 19]) (fun _ _ _ h => by cases h) rfl rfl rfl rfl rfl (by decide) h17 (by kernel_rfl) (fun a18 h18 d18 => ?_)
          replace d18 := d18.trans d17
          clear h17 d17
          refine guard_ops (N := 33) (T := TT) (M := (fun _ _ => none)) tabOk (i := 12) (d := 26) (j := 10) (dj := 24) (b := true) (s := vb (decide (((cmpI lo x) : Int) ≤ 0))) (l := [13, 14, 15, 16, 17, 18, 19]) (fun _ _ _ h => by cases h) rfl rfl rfl rfl rfl (by decide) h18 (by kernel_rfl) (fun a19 h19 d19 => ?_)
          replace d19 := d19.trans d18
          clear h18 d18
          refine gW (s := vb (decide (((cmpI lo x) : Int) ≤ 0))) 33 [14, 15, 16, 17, 18, 19] h19 d19 rfl (want_g h19 (j := 6) (d := 20) (b := false) rfl rfl rfl) rfl (by decide) (op_pickT rfl (h19.2 24 _ rfl) (h19.2 26 _ rfl)) (fun a20 h20 d20 => ?_)
          clear h19 d19
          refine guard_ops (N := 33) (T := TT) (M := (fun _ _ => none)) tabOk (i := 14) (d := 28) (j := 6) (dj := 20) (b := false) (s := vb (decide (((cmpI lo x) : Int) ≤ 0))) (l := [15, 16, 17, 18, 19]) (fun _ _ _ h => by cases h) rfl rfl rfl rfl rfl (by decide) h20 (by kernel_rfl) (fun a21 h21 d21 => ?_)
          replace d21 := d21.trans d20
          clear h20 d20
          rw [show (decide (((cmpI lo x) : Int) ≤ 0)) = true from hC] at h21
          refine guard_ops (N := 33) (T := TT) (M := (fun _ _ => none)) tabOk (i := 15) (d := 29) (j := 14) (dj := 28) (b := true) (s := vi (cmpI x hi)) (l := [16, 17, 18, 19]) (fun _ _ _ h => by cases h) rfl rfl rfl rfl rfl (by decide) h21 (by kernel_rfl) (fun a22 h22 d22 => ?_)
          replace d22 := d22.trans d21
          clear h21 d21
          refine guard_ops (N := 33) (T := TT) (M := (fun _ _ => none)) tabOk (i := 16) (d := 30) (j := 14) (dj := 28) (b := true) (s := vb (decide (((cmpI x hi) : Int) ≤ 0))) (l := [17, 18, 19]) (fun _ _ _ h => by cases h) rfl rfl rfl rfl rfl (by decide) h22 (by kernel_rfl) (fun a23 h23 d23 => ?_)
          replace d23 := d23.trans d22
          clear h22 d22
          refine gW (s := vb (decide (((cmpI x hi) : Int) ≤ 0))) 33 [18, 19] h23 d23 rfl (want_g h23 (j := 6) (d := 20) (b := false) rfl rfl rfl) rfl (by decide) (op_pickT rfl (h23.2 28 _ rfl) (h23.2 30 _ rfl)) (fun a24 h24 d24 => ?_)
          clear h23 d23
          refine gW (s := vb (decide (((cmpI x hi) : Int) ≤ 0))) 33 [19] h24 d24 rfl (want_ rfl) rfl (by decide) (op_pickF rfl (h24.2 20 _ rfl) (h24.2 31 _ rfl)) (fun a25 h25 d25 => ?_)
          clear h24 d24
          refine oP 33 [] [19] [(5, vb (decide (((cmpI x hi) : Int) ≤ 0)))] h25 d25 (fun a26 h26 d26 => ?_)
          clear h25 d25
          rw [show (decide (((cmpI x hi) : Int) ≤ 0)) = true from hD] at h26
          show Code.wp _ _ _ _ _
          refine wp_ret ?_
          exact ⟨d26, _, results_tmp rfl _ _ _, congrArg Ending.returned (h26.2 5 _ rfl), HB6⟩
        · have hD := decide_eq_false hD0
          have hr : inB lo hi m x = false := by unfold inB; simp [hA, hp, hC, hD]
          rw [hr]
          refine wp_seq (wp_region ?_)
          refine oP 33 [2, 3, 4, 5, 6, 7, 8, 9, 10, 11, 12, 13, 14, 15, 16, 17, 18, 19] [0, 1] [(3, vp bm), (6, vi (cmpI lo x)), (7, vi (cmpI x hi)), (14, vi (cmpI lo x)), (15, vb (decide (((cmpI lo x) : Int) < 0)))] h7 d7 (fun a8 h8 d8 => ?_)
          clear h7 d7
          rw [show (decide (((cmpI lo x) : Int) < 0)) = false from hA] at h8
          refine oP 33 [3, 4, 5, 6, 7, 8, 9, 10, 11, 12, 13, 14, 15, 16, 17, 18, 19] [2] [(3, vp bm), (6, vi (cmpI lo x)), (7, vi (cmpI x hi)), (14, vi (cmpI lo x)), (15, vb false), (16, vb false)] h8 d8 (fun a9 h9 d9 => ?_)
          clear h8 d8
          refine skip_ops (N := 33) (i := 3) (d := 17) (j := 2) (dj := 16) (b := true) (b' := false) (l := [4, 5, 6, 7, 8, 9, 10, 11, 12, 13, 14, 15, 16, 17, 18, 19]) rfl rfl rfl rfl (by decide) rfl (by decide) h9 (fun a10 h10 d10 => ?_)
          replace d10 := d10.trans d9
          clear h9 d9
          refine skip_ops (N := 33) (i := 4) (d := 18) (j := 2) (dj := 16) (b := true) (b' := false) (l := [5, 6, 7, 8, 9, 10, 11, 12, 13, 14, 15, 16, 17, 18, 19]) rfl rfl rfl rfl (by decide) rfl (by decide) h10 (fun a11 h11 d11 => ?_)
          replace d11 := d11.trans d10
          clear h10 d10
          refine gW (s := .v (Value.bool false)) 33 [6, 7, 8, 9, 10, 11, 12, 13, 14, 15, 16, 17, 18, 19] h11 d11 rfl (want_ rfl) rfl (by decide) (op_pickF rfl (h11.2 16 _ rfl) rfl) (fun a12 h12 d12 => ?_)
          clear h11 d11
          refine oP 33 [7, 8, 9, 10, 11, 12, 13, 14, 15, 16, 17, 18, 19] [6] [(3, vp bm), (6, vi (cmpI lo x)), (7, vi (cmpI x hi)), (14, vi (cmpI lo x)), (15, vb false), (16, vb false), (17, .v undef), (18, .v undef), (19, vb false), (20, vb false)] h12 d12 (fun a13 h13 d13 => ?_)
          clear h12 d12
          refine gW (s := vi ↑m) 33 [8, 9, 10, 11, 12, 13, 14, 15, 16, 17, 18, 19] h13 d13 rfl (want_g h13 (j := 6) (d := 20) (b := false) rfl rfl rfl) rfl (by decide) (op_load rfl (h13.2 3 _ rfl) Tryd.isAgg2 hcm') (fun a14 h14 d14 => ?_)
          clear h13 d13
          refine guard_ops (N := 33) (T := TT) (M := (fun _ _ => none)) tabOk (i := 8) (d := 22) (j := 6) (dj := 20) (b := false) (s := vi (Int.tmod ((m : Nat) : Int) 2)) (l := [9, 10, 11, 12, 13, 14, 15, 16, 17, 18, 19]) (fun _ _ _ h => by cases h) rfl rfl rfl rfl rfl (by decide) h14 (by kernel_rfl) (fun a15 h15 d15 => ?_)
          replace d15 := d15.trans d14
          clear h14 d14
          rw [show (Int.tmod ((m : Nat) : Int) 2) = 0 from by rw [show Int.tmod ((m : Nat) : Int) 2 = ((m % 2 : Nat) : Int) from (Int.ofNat_tmod m 2).symm, hp]; rfl] at h15
          refine guard_ops (N := 33) (T := TT) (M := (fun _ _ => none)) tabOk (i := 9) (d := 23) (j := 6) (dj := 20) (b := false) (s := vb true) (l := [10, 11, 12, 13, 14, 15, 16, 17, 18, 19]) (fun _ _ _ h => by cases h) rfl rfl rfl rfl rfl (by decide) h15 (by kernel_rfl) (fun a16 h16 d16 => ?_)
          replace d16 := d16.trans d15
          clear h15 d15
          refine guard_ops (N := 33) (T := TT) (M := (fun _ _ => none)) tabOk (i := 10) (d := 24) (j := 6) (dj := 20) (b := false) (s := vb true) (l := [11, 12, 13, 14, 15, 16, 17, 18, 19]) (fun _ _ _ h => by cases h) rfl rfl rfl rfl rfl (by decide) h16 (by kernel_rfl) (fun a17 h17 d17 => ?_)
          replace d17 := d17.trans d16
          clear h16 d16
          refine guard_ops (N := 33) (T := TT) (M := (fun _ _ => none)) tabOk (i := 11) (d := 25) (j := 10) (dj := 24) (b := true) (s := vi (cmpI lo x)) (l := [12, 13, 14, 15, 16, 17, 18, 19]) (fun _ _ _ h => by cases h) rfl rfl rfl rfl rfl (by decide) h17 (by kernel_rfl) (fun a18 h18 d18 => ?_)
          replace d18 := d18.trans d17
          clear h17 d17
          refine guard_ops (N := 33) (T := TT) (M := (fun _ _ => none)) tabOk (i := 12) (d := 26) (j := 10) (dj := 24) (b := true) (s := vb (decide (((cmpI lo x) : Int) ≤ 0))) (l := [13, 14, 15, 16, 17, 18, 19]) (fun _ _ _ h => by cases h) rfl rfl rfl rfl rfl (by decide) h18 (by kernel_rfl) (fun a19 h19 d19 => ?_)
          replace d19 := d19.trans d18
          clear h18 d18
          refine gW (s := vb (decide (((cmpI lo x) : Int) ≤ 0))) 33 [14, 15, 16, 17, 18, 19] h19 d19 rfl (want_g h19 (j := 6) (d := 20) (b := false) rfl rfl rfl) rfl (by decide) (op_pickT rfl (h19.2 24 _ rfl) (h19.2 26 _ rfl)) (fun a20 h20 d20 => ?_)
          clear h19 d19
          refine guard_ops (N := 33) (T := TT) (M := (fun _ _ => none)) tabOk (i := 14) (d := 28) (j := 6) (dj := 20) (b := false) (s := vb (decide (((cmpI lo x) : Int) ≤ 0))) (l := [15, 16, 17, 18, 19]) (fun _ _ _ h => by cases h) rfl rfl rfl rfl rfl (by decide) h20 (by kernel_rfl) (fun a21 h21 d21 => ?_)
          replace d21 := d21.trans d20
          clear h20 d20
          rw [show (decide (((cmpI lo x) : Int) ≤ 0)) = true from hC] at h21
          refine guard_ops (N := 33) (T := TT) (M := (fun _ _ => none)) tabOk (i := 15) (d := 29) (j := 14) (dj := 28) (b := true) (s := vi (cmpI x hi)) (l := [16, 17, 18, 19]) (fun _ _ _ h => by cases h) rfl rfl rfl rfl rfl (by decide) h21 (by kernel_rfl) (fun a22 h22 d22 => ?_)
          replace d22 := d22.trans d21
          clear h21 d21
          refine guard_ops (N := 33) (T := TT) (M := (fun _ _ => none)) tabOk (i := 16) (d := 30) (j := 14) (dj := 28) (b := true) (s := vb (decide (((cmpI x hi) : Int) ≤ 0))) (l := [17, 18, 19]) (fun _ _ _ h => by cases h) rfl rfl rfl rfl rfl (by decide) h22 (by kernel_rfl) (fun a23 h23 d23 => ?_)
          replace d23 := d23.trans d22
          clear h22 d22
          refine gW (s := vb (decide (((cmpI x hi) : Int) ≤ 0))) 33 [18, 19] h23 d23 rfl (want_g h23 (j := 6) (d := 20) (b := false) rfl rfl rfl) rfl (by decide) (op_pickT rfl (h23.2 28 _ rfl) (h23.2 30 _ rfl)) (fun a24 h24 d24 => ?_)
          clear h23 d23
          refine gW (s := vb (decide (((cmpI x hi) : Int) ≤ 0))) 33 [19] h24 d24 rfl (want_ rfl) rfl (by decide) (op_pickF rfl (h24.2 20 _ rfl) (h24.2 31 _ rfl)) (fun a25 h25 d25 => ?_)
          clear h24 d24
          refine oP 33 [] [19] [(5, vb (decide (((cmpI x hi) : Int) ≤ 0)))] h25 d25 (fun a26 h26 d26 => ?_)
          clear h25 d25
          rw [show (decide (((cmpI x hi) : Int) ≤ 0)) = false from hD] at h26
          show Code.wp _ _ _ _ _
          refine wp_ret ?_
          exact ⟨d26, _, results_tmp rfl _ _ _, congrArg Ending.returned (h26.2 5 _ rfl), HB6⟩
      · have hC := decide_eq_false hC0
        have hr : inB lo hi m x = false := by unfold inB; simp [hA, hp, hC]
        rw [hr]
        refine wp_seq (wp_region ?_)
        refine oP 33 [2, 3, 4, 5, 6, 7, 8, 9, 10, 11, 12, 13, 14, 15, 16, 17, 18, 19] [0, 1] [(3, vp bm), (6, vi (cmpI lo x)), (7, vi (cmpI x hi)), (14, vi (cmpI lo x)), (15, vb (decide (((cmpI lo x) : Int) < 0)))] h7 d7 (fun a8 h8 d8 => ?_)
        clear h7 d7
        rw [show (decide (((cmpI lo x) : Int) < 0)) = false from hA] at h8
        refine oP 33 [3, 4, 5, 6, 7, 8, 9, 10, 11, 12, 13, 14, 15, 16, 17, 18, 19] [2] [(3, vp bm), (6, vi (cmpI lo x)), (7, vi (cmpI x hi)), (14, vi (cmpI lo x)), (15, vb false), (16, vb false)] h8 d8 (fun a9 h9 d9 => ?_)
        clear h8 d8
        refine skip_ops (N := 33) (i := 3) (d := 17) (j := 2) (dj := 16) (b := true) (b' := false) (l := [4, 5, 6, 7, 8, 9, 10, 11, 12, 13, 14, 15, 16, 17, 18, 19]) rfl rfl rfl rfl (by decide) rfl (by decide) h9 (fun a10 h10 d10 => ?_)
        replace d10 := d10.trans d9
        clear h9 d9
        refine skip_ops (N := 33) (i := 4) (d := 18) (j := 2) (dj := 16) (b := true) (b' := false) (l := [5, 6, 7, 8, 9, 10, 11, 12, 13, 14, 15, 16, 17, 18, 19]) rfl rfl rfl rfl (by decide) rfl (by decide) h10 (fun a11 h11 d11 => ?_)
        replace d11 := d11.trans d10
        clear h10 d10
        refine gW (s := .v (Value.bool false)) 33 [6, 7, 8, 9, 10, 11, 12, 13, 14, 15, 16, 17, 18, 19] h11 d11 rfl (want_ rfl) rfl (by decide) (op_pickF rfl (h11.2 16 _ rfl) rfl) (fun a12 h12 d12 => ?_)
        clear h11 d11
        refine oP 33 [7, 8, 9, 10, 11, 12, 13, 14, 15, 16, 17, 18, 19] [6] [(3, vp bm), (6, vi (cmpI lo x)), (7, vi (cmpI x hi)), (14, vi (cmpI lo x)), (15, vb false), (16, vb false), (17, .v undef), (18, .v undef), (19, vb false), (20, vb false)] h12 d12 (fun a13 h13 d13 => ?_)
        clear h12 d12
        refine gW (s := vi ↑m) 33 [8, 9, 10, 11, 12, 13, 14, 15, 16, 17, 18, 19] h13 d13 rfl (want_g h13 (j := 6) (d := 20) (b := false) rfl rfl rfl) rfl (by decide) (op_load rfl (h13.2 3 _ rfl) Tryd.isAgg2 hcm') (fun a14 h14 d14 => ?_)
        clear h13 d13
        refine guard_ops (N := 33) (T := TT) (M := (fun _ _ => none)) tabOk (i := 8) (d := 22) (j := 6) (dj := 20) (b := false) (s := vi (Int.tmod ((m : Nat) : Int) 2)) (l := [9, 10, 11, 12, 13, 14, 15, 16, 17, 18, 19]) (fun _ _ _ h => by cases h) rfl rfl rfl rfl rfl (by decide) h14 (by kernel_rfl) (fun a15 h15 d15 => ?_)
        replace d15 := d15.trans d14
        clear h14 d14
        rw [show (Int.tmod ((m : Nat) : Int) 2) = 0 from by rw [show Int.tmod ((m : Nat) : Int) 2 = ((m % 2 : Nat) : Int) from (Int.ofNat_tmod m 2).symm, hp]; rfl] at h15
        refine guard_ops (N := 33) (T := TT) (M := (fun _ _ => none)) tabOk (i := 9) (d := 23) (j := 6) (dj := 20) (b := false) (s := vb true) (l := [10, 11, 12, 13, 14, 15, 16, 17, 18, 19]) (fun _ _ _ h => by cases h) rfl rfl rfl rfl rfl (by decide) h15 (by kernel_rfl) (fun a16 h16 d16 => ?_)
        replace d16 := d16.trans d15
        clear h15 d15
        refine guard_ops (N := 33) (T := TT) (M := (fun _ _ => none)) tabOk (i := 10) (d := 24) (j := 6) (dj := 20) (b := false) (s := vb true) (l := [11, 12, 13, 14, 15, 16, 17, 18, 19]) (fun _ _ _ h => by cases h) rfl rfl rfl rfl rfl (by decide) h16 (by kernel_rfl) (fun a17 h17 d17 => ?_)
        replace d17 := d17.trans d16
        clear h16 d16
        refine guard_ops (N := 33) (T := TT) (M := (fun _ _ => none)) tabOk (i := 11) (d := 25) (j := 10) (dj := 24) (b := true) (s := vi (cmpI lo x)) (l := [12, 13, 14, 15, 16, 17, 18, 19]) (fun _ _ _ h => by cases h) rfl rfl rfl rfl rfl (by decide) h17 (by kernel_rfl) (fun a18 h18 d18 => ?_)
        replace d18 := d18.trans d17
        clear h17 d17
        refine guard_ops (N := 33) (T := TT) (M := (fun _ _ => none)) tabOk (i := 12) (d := 26) (j := 10) (dj := 24) (b := true) (s := vb (decide (((cmpI lo x) : Int) ≤ 0))) (l := [13, 14, 15, 16, 17, 18, 19]) (fun _ _ _ h => by cases h) rfl rfl rfl rfl rfl (by decide) h18 (by kernel_rfl) (fun a19 h19 d19 => ?_)
        replace d19 := d19.trans d18
        clear h18 d18
        refine gW (s := vb (decide (((cmpI lo x) : Int) ≤ 0))) 33 [14, 15, 16, 17, 18, 19] h19 d19 rfl (want_g h19 (j := 6) (d := 20) (b := false) rfl rfl rfl) rfl (by decide) (op_pickT rfl (h19.2 24 _ rfl) (h19.2 26 _ rfl)) (fun a20 h20 d20 => ?_)
        clear h19 d19
        refine guard_ops (N := 33) (T := TT) (M := (fun _ _ => none)) tabOk (i := 14) (d := 28) (j := 6) (dj := 20) (b := false) (s := vb (decide (((cmpI lo x) : Int) ≤ 0))) (l := [15, 16, 17, 18, 19]) (fun _ _ _ h => by cases h) rfl rfl rfl rfl rfl (by decide) h20 (by kernel_rfl) (fun a21 h21 d21 => ?_)
        replace d21 := d21.trans d20
        clear h20 d20
        rw [show (decide (((cmpI lo x) : Int) ≤ 0)) = false from hC] at h21
        refine skip_ops (N := 33) (i := 15) (d := 29) (j := 14) (dj := 28) (b := true) (b' := false) (l := [16, 17, 18, 19]) rfl rfl rfl rfl (by decide) rfl (by decide) h21 (fun a22 h22 d22 => ?_)
        replace d22 := d22.trans d21
        clear h21 d21
        refine skip_ops (N := 33) (i := 16) (d := 30) (j := 14) (dj := 28) (b := true) (b' := false) (l := [17, 18, 19]) rfl rfl rfl rfl (by decide) rfl (by decide) h22 (fun a23 h23 d23 => ?_)
        replace d23 := d23.trans d22
        clear h22 d22
        refine gW (s := .v (Value.bool false)) 33 [18, 19] h23 d23 rfl (want_g h23 (j := 6) (d := 20) (b := false) rfl rfl rfl) rfl (by decide) (op_pickF rfl (h23.2 28 _ rfl) rfl) (fun a24 h24 d24 => ?_)
        clear h23 d23
        refine gW (s := vb false) 33 [19] h24 d24 rfl (want_ rfl) rfl (by decide) (op_pickF rfl (h24.2 20 _ rfl) (h24.2 31 _ rfl)) (fun a25 h25 d25 => ?_)
        clear h24 d24
        refine oP 33 [] [19] [(5, vb false)] h25 d25 (fun a26 h26 d26 => ?_)
        clear h25 d25
        show Code.wp _ _ _ _ _
        refine wp_ret ?_
        exact ⟨d26, _, results_tmp rfl _ _ _, congrArg Ending.returned (h26.2 5 _ rfl), HB6⟩
    · have hr : inB lo hi m x = false := by unfold inB; simp [hA, hp]
      rw [hr]
      refine wp_seq (wp_region ?_)
      refine oP 33 [2, 3, 4, 5, 6, 7, 8, 9, 10, 11, 12, 13, 14, 15, 16, 17, 18, 19] [0, 1] [(3, vp bm), (6, vi (cmpI lo x)), (7, vi (cmpI x hi)), (14, vi (cmpI lo x)), (15, vb (decide (((cmpI lo x) : Int) < 0)))] h7 d7 (fun a8 h8 d8 => ?_)
      clear h7 d7
      rw [show (decide (((cmpI lo x) : Int) < 0)) = false from hA] at h8
      refine oP 33 [3, 4, 5, 6, 7, 8, 9, 10, 11, 12, 13, 14, 15, 16, 17, 18, 19] [2] [(3, vp bm), (6, vi (cmpI lo x)), (7, vi (cmpI x hi)), (14, vi (cmpI lo x)), (15, vb false), (16, vb false)] h8 d8 (fun a9 h9 d9 => ?_)
      clear h8 d8
      refine skip_ops (N := 33) (i := 3) (d := 17) (j := 2) (dj := 16) (b := true) (b' := false) (l := [4, 5, 6, 7, 8, 9, 10, 11, 12, 13, 14, 15, 16, 17, 18, 19]) rfl rfl rfl rfl (by decide) rfl (by decide) h9 (fun a10 h10 d10 => ?_)
      replace d10 := d10.trans d9
      clear h9 d9
      refine skip_ops (N := 33) (i := 4) (d := 18) (j := 2) (dj := 16) (b := true) (b' := false) (l := [5, 6, 7, 8, 9, 10, 11, 12, 13, 14, 15, 16, 17, 18, 19]) rfl rfl rfl rfl (by decide) rfl (by decide) h10 (fun a11 h11 d11 => ?_)
      replace d11 := d11.trans d10
      clear h10 d10
      refine gW (s := .v (Value.bool false)) 33 [6, 7, 8, 9, 10, 11, 12, 13, 14, 15, 16, 17, 18, 19] h11 d11 rfl (want_ rfl) rfl (by decide) (op_pickF rfl (h11.2 16 _ rfl) rfl) (fun a12 h12 d12 => ?_)
      clear h11 d11
      refine oP 33 [7, 8, 9, 10, 11, 12, 13, 14, 15, 16, 17, 18, 19] [6] [(3, vp bm), (6, vi (cmpI lo x)), (7, vi (cmpI x hi)), (14, vi (cmpI lo x)), (15, vb false), (16, vb false), (17, .v undef), (18, .v undef), (19, vb false), (20, vb false)] h12 d12 (fun a13 h13 d13 => ?_)
      clear h12 d12
      refine gW (s := vi ↑m) 33 [8, 9, 10, 11, 12, 13, 14, 15, 16, 17, 18, 19] h13 d13 rfl (want_g h13 (j := 6) (d := 20) (b := false) rfl rfl rfl) rfl (by decide) (op_load rfl (h13.2 3 _ rfl) Tryd.isAgg2 hcm') (fun a14 h14 d14 => ?_)
      clear h13 d13
      refine guard_ops (N := 33) (T := TT) (M := (fun _ _ => none)) tabOk (i := 8) (d := 22) (j := 6) (dj := 20) (b := false) (s := vi (Int.tmod ((m : Nat) : Int) 2)) (l := [9, 10, 11, 12, 13, 14, 15, 16, 17, 18, 19]) (fun _ _ _ h => by cases h) rfl rfl rfl rfl rfl (by decide) h14 (by kernel_rfl) (fun a15 h15 d15 => ?_)
      replace d15 := d15.trans d14
      clear h14 d14
      rw [show (Int.tmod ((m : Nat) : Int) 2) = 1 from by rw [show Int.tmod ((m : Nat) : Int) 2 = ((m % 2 : Nat) : Int) from (Int.ofNat_tmod m 2).symm, hp]; rfl] at h15
      refine guard_ops (N := 33) (T := TT) (M := (fun _ _ => none)) tabOk (i := 9) (d := 23) (j := 6) (dj := 20) (b := false) (s := vb false) (l := [10, 11, 12, 13, 14, 15, 16, 17, 18, 19]) (fun _ _ _ h => by cases h) rfl rfl rfl rfl rfl (by decide) h15 (by kernel_rfl) (fun a16 h16 d16 => ?_)
      replace d16 := d16.trans d15
      clear h15 d15
      refine guard_ops (N := 33) (T := TT) (M := (fun _ _ => none)) tabOk (i := 10) (d := 24) (j := 6) (dj := 20) (b := false) (s := vb false) (l := [11, 12, 13, 14, 15, 16, 17, 18, 19]) (fun _ _ _ h => by cases h) rfl rfl rfl rfl rfl (by decide) h16 (by kernel_rfl) (fun a17 h17 d17 => ?_)
      replace d17 := d17.trans d16
      clear h16 d16
      refine skip_ops (N := 33) (i := 11) (d := 25) (j := 10) (dj := 24) (b := true) (b' := false) (l := [12, 13, 14, 15, 16, 17, 18, 19]) rfl rfl rfl rfl (by decide) rfl (by decide) h17 (fun a18 h18 d18 => ?_)
      replace d18 := d18.trans d17
      clear h17 d17
      refine skip_ops (N := 33) (i := 12) (d := 26) (j := 10) (dj := 24) (b := true) (b' := false) (l := [13, 14, 15, 16, 17, 18, 19]) rfl rfl rfl rfl (by decide) rfl (by decide) h18 (fun a19 h19 d19 => ?_)
      replace d19 := d19.trans d18
      clear h18 d18
      refine gW (s := .v (Value.bool false)) 33 [14, 15, 16, 17, 18, 19] h19 d19 rfl (want_g h19 (j := 6) (d := 20) (b := false) rfl rfl rfl) rfl (by decide) (op_pickF rfl (h19.2 24 _ rfl) rfl) (fun a20 h20 d20 => ?_)
      clear h19 d19
      refine guard_ops (N := 33) (T := TT) (M := (fun _ _ => none)) tabOk (i := 14) (d := 28) (j := 6) (dj := 20) (b := false) (s := vb false) (l := [15, 16, 17, 18, 19]) (fun _ _ _ h => by cases h) rfl rfl rfl rfl rfl (by decide) h20 (by kernel_rfl) (fun a21 h21 d21 => ?_)
      replace d21 := d21.trans d20
      clear h20 d20
      refine skip_ops (N := 33) (i := 15) (d := 29) (j := 14) (dj := 28) (b := true) (b' := false) (l := [16, 17, 18, 19]) rfl rfl rfl rfl (by decide) rfl (by decide) h21 (fun a22 h22 d22 => ?_)
      replace d22 := d22.trans d21
      clear h21 d21
      refine skip_ops (N := 33) (i := 16) (d := 30) (j := 14) (dj := 28) (b := true) (b' := false) (l := [17, 18, 19]) rfl rfl rfl rfl (by decide) rfl (by decide) h22 (fun a23 h23 d23 => ?_)
      replace d23 := d23.trans d22
      clear h22 d22
      refine gW (s := .v (Value.bool false)) 33 [18, 19] h23 d23 rfl (want_g h23 (j := 6) (d := 20) (b := false) rfl rfl rfl) rfl (by decide) (op_pickF rfl (h23.2 28 _ rfl) rfl) (fun a24 h24 d24 => ?_)
      clear h23 d23
      refine gW (s := vb false) 33 [19] h24 d24 rfl (want_ rfl) rfl (by decide) (op_pickF rfl (h24.2 20 _ rfl) (h24.2 31 _ rfl)) (fun a25 h25 d25 => ?_)
      clear h24 d24
      refine oP 33 [] [19] [(5, vb false)] h25 d25 (fun a26 h26 d26 => ?_)
      clear h25 d25
      show Code.wp _ _ _ _ _
      refine wp_ret ?_
      exact ⟨d26, _, results_tmp rfl _ _ _, congrArg Ending.returned (h26.2 5 _ rfl), HB6⟩
end Go.Proofs.YtmgnffklmdhooaaDoor.PAll
namespace Go.Proofs.YtmgnffklmdhooaaDoor.PAll
open Go.RowKit Go.Proofs.YtmgnffklmdhooaaDoorW.PrintWords Go.Proofs.YtmgnffklmdhooaaDoorW.PrintLast Go.Proofs.YtmgnffklmdhooaaDoorW.PrintMore
set_option linter.unusedVariables false
set_option linter.unusedSimpArgs false
noncomputable def hsOps : Array Oper := match Tryd.f10.body with
  | some (.seq _ (.seq (.region _ ops _) _)) => ops
  | _ => #[]
noncomputable def hsO (i : Nat) : Oper := match hsOps[i]? with
  | some o => o
  | none => { dst := none, op := .move (.tmp 0), type := 0, pos := "", after := #[], guard := none }
theorem hsF5 : hsOps[5]? = some (hsO 5) ∧ (hsO 5).guard = none ∧ (hsO 5).dst = some 20 ∧ (hsO 5).op = .call { callee := .value (.func 16), args := #[.tmp 17, .tmp 19], argTypes := #[2, 3] } := ⟨by kernel_rfl, by kernel_rfl, by kernel_rfl, by kernel_rfl⟩
theorem hsF11 : hsOps[11]? = some (hsO 11) ∧ (hsO 11).guard = none ∧ (hsO 11).dst = some 26 ∧ (hsO 11).op = .call { callee := .value (.func 16), args := #[.tmp 23, .tmp 25], argTypes := #[2, 3] } := ⟨by kernel_rfl, by kernel_rfl, by kernel_rfl, by kernel_rfl⟩
theorem hsF12 : hsOps[12]? = some (hsO 12) ∧ (hsO 12).guard = none ∧ (hsO 12).dst = some 7 ∧ (hsO 12).op = .alloc 29 := ⟨by kernel_rfl, by kernel_rfl, by kernel_rfl, by kernel_rfl⟩
theorem hsF13 : hsOps[13]? = some (hsO 13) ∧ (hsO 13).guard = none ∧ (hsO 13).dst = some 8 ∧ (hsO 13).op = .alloc 29 := ⟨by kernel_rfl, by kernel_rfl, by kernel_rfl, by kernel_rfl⟩
theorem hsF14 : hsOps[14]? = some (hsO 14) ∧ (hsO 14).guard = none ∧ (hsO 14).dst = none ∧ (hsO 14).op = .store 29 (.tmp 7) (.tmp 20) := ⟨by kernel_rfl, by kernel_rfl, by kernel_rfl, by kernel_rfl⟩
theorem hsF15 : hsOps[15]? = some (hsO 15) ∧ (hsO 15).guard = none ∧ (hsO 15).dst = none ∧ (hsO 15).op = .store 29 (.tmp 8) (.tmp 26) := ⟨by kernel_rfl, by kernel_rfl, by kernel_rfl, by kernel_rfl⟩
theorem call_ifD {P : Program} {ops : Array Oper} {Q : Exit → Act → World → Prop} {N : Nat} {β : Nat → Nat} {d f : Nat} {o : Oper} {fn : Func} {xs0 : Array Operand} {ts : Array TypeId} {args : List SV} {a : Act} {w : World} {E : List (Nat × SV)} {K : Act → World → Prop} (hg : o.guard = none) (hd : o.dst = some d) (hN : d < N) (hA : Has N β E a) (hf : P.funcs[f]? = some fn) (hname : (fn.name == "runtime.NumGoroutine") = false) (hb : fn.body.isSome = true)
    (hop : o.op = .call { callee := .value (.func f), args := xs0, argTypes := ts }) (hargs : argL E xs0.toList = some args) (R : Value → World → Prop) (hC : Calls P f (args.map (SV.den β)).toArray w fun e w' => ∃ v, e = .returned v ∧ R v w')
    (h : ∀ v w' a', R v w' → Has N β ((d, .v v) :: E) a' → a'.defers = a.defers → K a' w') : if Region.wanted o (yielded ops a.tmps) = true then Oper.wp P o a w K Q else K (a.put o.dst undef) w := by
  rw [hd]
  exact call_if hg hd hN hA hf hname hb hop hargs R hC h
theorem hdoL {m E LO : Nat} (hLO : m * 10 ^ (200 - E) * 5 ^ E = LO) (hE : E ≤ 200) (hm : m < 1000000000000) (hl : (dg LO).length < 900) (w : World) :
    Calls Tryd.prog 16 #[.int .i64 ↑m, .int .i64 (-((E : Nat) : Int))] w fun e w' => ∃ v', e = .returned v' ∧ Ans w LO v' w' := by
  subst hLO
  exact hdo_walk m E hE hm hl w
section
variable {P : Program} {ops : Array Oper} {Q : Exit → Act → World → Prop} {N : Nat} {β : Nat → Nat}
/-- A store, what it leaves shown by hand. -/
theorem st_ops {i : Nat} {o : Oper} {l : List Nat} {a : Act} {w w1 : World} (ho : ops[i]? = some o) (hg : o.guard = none) (hd : o.dst = none) (hrun : (execOp a.eval o).run P w = .ok .skip w1) (h : wpOps P ops Q l a w1) : wpOps P ops Q (i :: l) a w := by
  unfold wpOps
  simp only [ho]
  rw [if_pos (want_ hg)]
  refine Or.inl ?_
  unfold Oper.wp
  rw [hrun, Oper.upon_skip, hd]
  exact h
end
set_option maxHeartbeats 8000000 in
set_option maxRecDepth 100000 in
theorem hsA_211 {Q : Exit → Act → World → Prop} (w1 : World) (bm m E LO HI : Nat) (vd : Value) (vs : List (Value × Nat)) (hLO : (2 * m - 1) * 10 ^ (200 - (E + 1)) * 5 ^ (E + 1) = LO) (hHI : (2 * m + 1) * 10 ^ (200 - (E + 1)) * 5 ^ (E + 1) = HI) (hl : (dg LO).length < 900) (hh : (dg HI).length < 900) (hE : E ≤ 100) (hm : m < 100000000)
    (hfin : ∀ (a : Act) (W : World) (v5 v11 : Value) (b7 b8 : Nat), Has 102 (bn []) [(0, .v vd), (2, vi (-((E : Nat) : Int))), (4, vp bm), (7, vp b7), (8, vp b8)] a → a.defers = [] → Iv w1 bm m [b7, b8] ((v11, HI) :: (v5, LO) :: vs) W → W.cell? ⟨b7, 0, none⟩ = some v5 → W.cell? ⟨b8, 0, none⟩ = some v11 → Q .normal a W) :
    ∀ (a : Act) (W : World) (v5 : Value) (v11 : Value) (b7 : Nat) (b8 : Nat), Has 102 (bn []) [(0, .v vd), (2, vi (-((E : Nat) : Int))), (4, vp bm), (7, vp b7), (8, vp b8), (17, vi ((2 * m - 1 : Nat) : Int)), (19, vi (-((E + 1 : Nat) : Int))), (20, .v v5), (23, vi ((2 * m + 1 : Nat) : Int)), (25, vi (-((E + 1 : Nat) : Int))), (26, .v v11)] a → a.defers = [] → Iv w1 bm m [b7, b8] ((v11, HI) :: (v5, LO) :: vs) W → wpAnyLast Tryd.prog .any hsOps Q (fun W : World => W.cell? ⟨bm, 0, none⟩ = some (.int .i64 ↑m)) [] 2 #[true, true, true, true, true, true, true, true, true, true, true, true, true, true, false, false] a W := by
  intro a W v5 v11 b7 b8 hA hD hI
  obtain ⟨A5, n5, rfl⟩ : ∃ A c, v5 = .slice A (dg LO).length c := Kd.V_slice (hI.val (v5, LO) (by simp))
  obtain ⟨A6, n6, rfl⟩ : ∃ A c, v11 = .slice A (dg HI).length c := Kd.V_slice (hI.val (v11, HI) (by simp))
  obtain ⟨f1, ⟨u1, e1⟩, hI1, c1, k1⟩ := hI.set (b := b7) (A := A5) (n := (dg LO).length) (c := n5) (x := LO) (by simp) (by simp)
  obtain ⟨f2, ⟨u2, e2⟩, hI2, c2, k2⟩ := hI1.set (b := b8) (A := A6) (n := (dg HI).length) (c := n6) (x := HI) (by simp) (by simp)
  have hne : b7 ≠ b8 := fun e => by
    have := hI.nd
    rw [e] at this
    simp at this
  refine one_ (i := 14) (N := none) #[true, true, true, true, true, true, true, true, true, true, true, true, true, true, true, false] hsF14.1 hsF14.2.2.1 (by kernel_rfl) (by simp) (fun K hK => ?_)
  refine skip_ (want_ hsF14.2.1) hsF14.2.2.1 (store_cell hsF14.2.2.2 (hA.2 7 _ rfl) (hA.2 20 _ rfl) Tryd.sizeOf29 f1 e1) (hK.out _ _ hI1.mm (fun _ => ?_))
  refine one_ (i := 15) (N := none) #[true, true, true, true, true, true, true, true, true, true, true, true, true, true, true, true] hsF15.1 hsF15.2.2.1 (by kernel_rfl) (by simp) (fun K hK => ?_)
  refine skip_ (want_ hsF15.2.1) hsF15.2.2.1 (store_cell hsF15.2.2.2 (hA.2 8 _ rfl) (hA.2 26 _ rfl) Tryd.sizeOf29 f2 e2) (hK.out _ _ hI2.mm (fun _ => ?_))
  exact done_ (by kernel_rfl) (hfin a _ _ _ b7 b8 (sub_ok hA sE) hD hI2 (k2 b7 _ hne c1) c2)
set_option maxHeartbeats 8000000 in
set_option maxRecDepth 100000 in
theorem hsA_210 {Q : Exit → Act → World → Prop} (w1 : World) (bm m E LO HI : Nat) (vd : Value) (vs : List (Value × Nat)) (hLO : (2 * m - 1) * 10 ^ (200 - (E + 1)) * 5 ^ (E + 1) = LO) (hHI : (2 * m + 1) * 10 ^ (200 - (E + 1)) * 5 ^ (E + 1) = HI) (hl : (dg LO).length < 900) (hh : (dg HI).length < 900) (hE : E ≤ 100) (hm : m < 100000000)
    (hfin : ∀ (a : Act) (W : World) (v5 v11 : Value) (b7 b8 : Nat), Has 102 (bn []) [(0, .v vd), (2, vi (-((E : Nat) : Int))), (4, vp bm), (7, vp b7), (8, vp b8)] a → a.defers = [] → Iv w1 bm m [b7, b8] ((v11, HI) :: (v5, LO) :: vs) W → W.cell? ⟨b7, 0, none⟩ = some v5 → W.cell? ⟨b8, 0, none⟩ = some v11 → Q .normal a W) :
    ∀ (a : Act) (W : World) (v5 : Value) (v11 : Value) (b7 : Nat), Has 102 (bn []) [(0, .v vd), (2, vi (-((E : Nat) : Int))), (4, vp bm), (7, vp b7), (17, vi ((2 * m - 1 : Nat) : Int)), (19, vi (-((E + 1 : Nat) : Int))), (20, .v v5), (23, vi ((2 * m + 1 : Nat) : Int)), (25, vi (-((E + 1 : Nat) : Int))), (26, .v v11)] a → a.defers = [] → Iv w1 bm m [b7] ((v11, HI) :: (v5, LO) :: vs) W → wpAnyLast Tryd.prog .any hsOps Q (fun W : World => W.cell? ⟨bm, 0, none⟩ = some (.int .i64 ↑m)) [] 3 #[true, true, true, true, true, true, true, true, true, true, true, true, true, false, false, false] a W := by
  intro a W v5 v11 b7 hA hD hI
  refine wpAnyLast_ready (rs := [13]) (by kernel_rfl) (by simp) ?_
  refine AllReadyL.cons (i := 13) hsF13.1 (by simp) (fun K hK => alloc_if (N := 102) (β := bn []) (d := 8) hsF13.2.1 hsF13.2.2.1 (by decide) hA hsF13.2.2.2 allocOk29 (fun a' h1 h2 => hK.out _ _ hI.alloc.mm (fun _ => hsA_211 w1 bm m E LO HI vd vs hLO hHI hl hh hE hm hfin a' _ v5 v11 b7 W.heap.size (sub_ok h1 sE) (h2.trans hD) hI.alloc.swap))) ?_
  exact AllReadyL.nil
set_option maxHeartbeats 8000000 in
set_option maxRecDepth 100000 in
theorem hsA_201 {Q : Exit → Act → World → Prop} (w1 : World) (bm m E LO HI : Nat) (vd : Value) (vs : List (Value × Nat)) (hLO : (2 * m - 1) * 10 ^ (200 - (E + 1)) * 5 ^ (E + 1) = LO) (hHI : (2 * m + 1) * 10 ^ (200 - (E + 1)) * 5 ^ (E + 1) = HI) (hl : (dg LO).length < 900) (hh : (dg HI).length < 900) (hE : E ≤ 100) (hm : m < 100000000)
    (hfin : ∀ (a : Act) (W : World) (v5 v11 : Value) (b7 b8 : Nat), Has 102 (bn []) [(0, .v vd), (2, vi (-((E : Nat) : Int))), (4, vp bm), (7, vp b7), (8, vp b8)] a → a.defers = [] → Iv w1 bm m [b7, b8] ((v11, HI) :: (v5, LO) :: vs) W → W.cell? ⟨b7, 0, none⟩ = some v5 → W.cell? ⟨b8, 0, none⟩ = some v11 → Q .normal a W) :
    ∀ (a : Act) (W : World) (v5 : Value) (v11 : Value) (b8 : Nat), Has 102 (bn []) [(0, .v vd), (2, vi (-((E : Nat) : Int))), (4, vp bm), (8, vp b8), (17, vi ((2 * m - 1 : Nat) : Int)), (19, vi (-((E + 1 : Nat) : Int))), (20, .v v5), (23, vi ((2 * m + 1 : Nat) : Int)), (25, vi (-((E + 1 : Nat) : Int))), (26, .v v11)] a → a.defers = [] → Iv w1 bm m [b8] ((v11, HI) :: (v5, LO) :: vs) W → wpAnyLast Tryd.prog .any hsOps Q (fun W : World => W.cell? ⟨bm, 0, none⟩ = some (.int .i64 ↑m)) [] 3 #[true, true, true, true, true, true, true, true, true, true, true, true, false, true, false, false] a W := by
  intro a W v5 v11 b8 hA hD hI
  refine wpAnyLast_ready (rs := [12]) (by kernel_rfl) (by simp) ?_
  refine AllReadyL.cons (i := 12) hsF12.1 (by simp) (fun K hK => alloc_if (N := 102) (β := bn []) (d := 7) hsF12.2.1 hsF12.2.2.1 (by decide) hA hsF12.2.2.2 allocOk29 (fun a' h1 h2 => hK.out _ _ hI.alloc.mm (fun _ => hsA_211 w1 bm m E LO HI vd vs hLO hHI hl hh hE hm hfin a' _ v5 v11 W.heap.size b8 (sub_ok h1 sE) (h2.trans hD) hI.alloc))) ?_
  exact AllReadyL.nil
set_option maxHeartbeats 8000000 in
set_option maxRecDepth 100000 in
theorem hsA_200 {Q : Exit → Act → World → Prop} (w1 : World) (bm m E LO HI : Nat) (vd : Value) (vs : List (Value × Nat)) (hLO : (2 * m - 1) * 10 ^ (200 - (E + 1)) * 5 ^ (E + 1) = LO) (hHI : (2 * m + 1) * 10 ^ (200 - (E + 1)) * 5 ^ (E + 1) = HI) (hl : (dg LO).length < 900) (hh : (dg HI).length < 900) (hE : E ≤ 100) (hm : m < 100000000)
    (hfin : ∀ (a : Act) (W : World) (v5 v11 : Value) (b7 b8 : Nat), Has 102 (bn []) [(0, .v vd), (2, vi (-((E : Nat) : Int))), (4, vp bm), (7, vp b7), (8, vp b8)] a → a.defers = [] → Iv w1 bm m [b7, b8] ((v11, HI) :: (v5, LO) :: vs) W → W.cell? ⟨b7, 0, none⟩ = some v5 → W.cell? ⟨b8, 0, none⟩ = some v11 → Q .normal a W) :
    ∀ (a : Act) (W : World) (v5 : Value) (v11 : Value), Has 102 (bn []) [(0, .v vd), (2, vi (-((E : Nat) : Int))), (4, vp bm), (17, vi ((2 * m - 1 : Nat) : Int)), (19, vi (-((E + 1 : Nat) : Int))), (20, .v v5), (23, vi ((2 * m + 1 : Nat) : Int)), (25, vi (-((E + 1 : Nat) : Int))), (26, .v v11)] a → a.defers = [] → Iv w1 bm m [] ((v11, HI) :: (v5, LO) :: vs) W → wpAnyLast Tryd.prog .any hsOps Q (fun W : World => W.cell? ⟨bm, 0, none⟩ = some (.int .i64 ↑m)) [] 4 #[true, true, true, true, true, true, true, true, true, true, true, true, false, false, false, false] a W := by
  intro a W v5 v11 hA hD hI
  refine wpAnyLast_ready (rs := [12, 13]) (by kernel_rfl) (by simp) ?_
  refine AllReadyL.cons (i := 12) hsF12.1 (by simp) (fun K hK => alloc_if (N := 102) (β := bn []) (d := 7) hsF12.2.1 hsF12.2.2.1 (by decide) hA hsF12.2.2.2 allocOk29 (fun a' h1 h2 => hK.out _ _ hI.alloc.mm (fun _ => hsA_210 w1 bm m E LO HI vd vs hLO hHI hl hh hE hm hfin a' _ v5 v11 W.heap.size (sub_ok h1 sE) (h2.trans hD) hI.alloc))) ?_
  refine AllReadyL.cons (i := 13) hsF13.1 (by simp) (fun K hK => alloc_if (N := 102) (β := bn []) (d := 8) hsF13.2.1 hsF13.2.2.1 (by decide) hA hsF13.2.2.2 allocOk29 (fun a' h1 h2 => hK.out _ _ hI.alloc.mm (fun _ => hsA_201 w1 bm m E LO HI vd vs hLO hHI hl hh hE hm hfin a' _ v5 v11 W.heap.size (sub_ok h1 sE) (h2.trans hD) hI.alloc))) ?_
  exact AllReadyL.nil
set_option maxHeartbeats 8000000 in
set_option maxRecDepth 100000 in
theorem hsA_111 {Q : Exit → Act → World → Prop} (w1 : World) (bm m E LO HI : Nat) (vd : Value) (vs : List (Value × Nat)) (hLO : (2 * m - 1) * 10 ^ (200 - (E + 1)) * 5 ^ (E + 1) = LO) (hHI : (2 * m + 1) * 10 ^ (200 - (E + 1)) * 5 ^ (E + 1) = HI) (hl : (dg LO).length < 900) (hh : (dg HI).length < 900) (hE : E ≤ 100) (hm : m < 100000000)
    (hfin : ∀ (a : Act) (W : World) (v5 v11 : Value) (b7 b8 : Nat), Has 102 (bn []) [(0, .v vd), (2, vi (-((E : Nat) : Int))), (4, vp bm), (7, vp b7), (8, vp b8)] a → a.defers = [] → Iv w1 bm m [b7, b8] ((v11, HI) :: (v5, LO) :: vs) W → W.cell? ⟨b7, 0, none⟩ = some v5 → W.cell? ⟨b8, 0, none⟩ = some v11 → Q .normal a W) :
    ∀ (a : Act) (W : World) (v5 : Value) (b7 : Nat) (b8 : Nat), Has 102 (bn []) [(0, .v vd), (2, vi (-((E : Nat) : Int))), (4, vp bm), (7, vp b7), (8, vp b8), (17, vi ((2 * m - 1 : Nat) : Int)), (19, vi (-((E + 1 : Nat) : Int))), (20, .v v5), (23, vi ((2 * m + 1 : Nat) : Int)), (25, vi (-((E + 1 : Nat) : Int)))] a → a.defers = [] → Iv w1 bm m [b7, b8] ((v5, LO) :: vs) W → wpAnyLast Tryd.prog .any hsOps Q (fun W : World => W.cell? ⟨bm, 0, none⟩ = some (.int .i64 ↑m)) [] 3 #[true, true, true, true, true, true, true, true, true, true, true, false, true, true, false, false] a W := by
  intro a W v5 b7 b8 hA hD hI
  refine wpAnyLast_ready (rs := [11]) (by kernel_rfl) (by simp) ?_
  refine AllReadyL.cons (i := 11) hsF11.1 (by simp) (fun K hK => call_ifD (N := 102) (β := bn []) (d := 26) (f := 16) hsF11.2.1 hsF11.2.2.1 (by decide) hA Tryd.func16 rfl rfl hsF11.2.2.2 rfl (Ans W HI) (hdoL hHI (by omega) (by omega) hh W) (fun u W' a' hR h1 h2 => hK.out _ _ (hI.add hR).mm (fun _ => hsA_211 w1 bm m E LO HI vd vs hLO hHI hl hh hE hm hfin a' W' v5 u b7 b8 (sub_ok h1 sE) (h2.trans hD) (hI.add hR)))) ?_
  exact AllReadyL.nil
set_option maxHeartbeats 8000000 in
set_option maxRecDepth 100000 in
theorem hsA_110 {Q : Exit → Act → World → Prop} (w1 : World) (bm m E LO HI : Nat) (vd : Value) (vs : List (Value × Nat)) (hLO : (2 * m - 1) * 10 ^ (200 - (E + 1)) * 5 ^ (E + 1) = LO) (hHI : (2 * m + 1) * 10 ^ (200 - (E + 1)) * 5 ^ (E + 1) = HI) (hl : (dg LO).length < 900) (hh : (dg HI).length < 900) (hE : E ≤ 100) (hm : m < 100000000)
    (hfin : ∀ (a : Act) (W : World) (v5 v11 : Value) (b7 b8 : Nat), Has 102 (bn []) [(0, .v vd), (2, vi (-((E : Nat) : Int))), (4, vp bm), (7, vp b7), (8, vp b8)] a → a.defers = [] → Iv w1 bm m [b7, b8] ((v11, HI) :: (v5, LO) :: vs) W → W.cell? ⟨b7, 0, none⟩ = some v5 → W.cell? ⟨b8, 0, none⟩ = some v11 → Q .normal a W) :
    ∀ (a : Act) (W : World) (v5 : Value) (b7 : Nat), Has 102 (bn []) [(0, .v vd), (2, vi (-((E : Nat) : Int))), (4, vp bm), (7, vp b7), (17, vi ((2 * m - 1 : Nat) : Int)), (19, vi (-((E + 1 : Nat) : Int))), (20, .v v5), (23, vi ((2 * m + 1 : Nat) : Int)), (25, vi (-((E + 1 : Nat) : Int)))] a → a.defers = [] → Iv w1 bm m [b7] ((v5, LO) :: vs) W → wpAnyLast Tryd.prog .any hsOps Q (fun W : World => W.cell? ⟨bm, 0, none⟩ = some (.int .i64 ↑m)) [] 4 #[true, true, true, true, true, true, true, true, true, true, true, false, true, false, false, false] a W := by
  intro a W v5 b7 hA hD hI
  refine wpAnyLast_ready (rs := [11, 13]) (by kernel_rfl) (by simp) ?_
  refine AllReadyL.cons (i := 11) hsF11.1 (by simp) (fun K hK => call_ifD (N := 102) (β := bn []) (d := 26) (f := 16) hsF11.2.1 hsF11.2.2.1 (by decide) hA Tryd.func16 rfl rfl hsF11.2.2.2 rfl (Ans W HI) (hdoL hHI (by omega) (by omega) hh W) (fun u W' a' hR h1 h2 => hK.out _ _ (hI.add hR).mm (fun _ => hsA_210 w1 bm m E LO HI vd vs hLO hHI hl hh hE hm hfin a' W' v5 u b7 (sub_ok h1 sE) (h2.trans hD) (hI.add hR)))) ?_
  refine AllReadyL.cons (i := 13) hsF13.1 (by simp) (fun K hK => alloc_if (N := 102) (β := bn []) (d := 8) hsF13.2.1 hsF13.2.2.1 (by decide) hA hsF13.2.2.2 allocOk29 (fun a' h1 h2 => hK.out _ _ hI.alloc.mm (fun _ => hsA_111 w1 bm m E LO HI vd vs hLO hHI hl hh hE hm hfin a' _ v5 b7 W.heap.size (sub_ok h1 sE) (h2.trans hD) hI.alloc.swap))) ?_
  exact AllReadyL.nil
set_option maxHeartbeats 8000000 in
set_option maxRecDepth 100000 in
theorem hsA_101 {Q : Exit → Act → World → Prop} (w1 : World) (bm m E LO HI : Nat) (vd : Value) (vs : List (Value × Nat)) (hLO : (2 * m - 1) * 10 ^ (200 - (E + 1)) * 5 ^ (E + 1) = LO) (hHI : (2 * m + 1) * 10 ^ (200 - (E + 1)) * 5 ^ (E + 1) = HI) (hl : (dg LO).length < 900) (hh : (dg HI).length < 900) (hE : E ≤ 100) (hm : m < 100000000)
    (hfin : ∀ (a : Act) (W : World) (v5 v11 : Value) (b7 b8 : Nat), Has 102 (bn []) [(0, .v vd), (2, vi (-((E : Nat) : Int))), (4, vp bm), (7, vp b7), (8, vp b8)] a → a.defers = [] → Iv w1 bm m [b7, b8] ((v11, HI) :: (v5, LO) :: vs) W → W.cell? ⟨b7, 0, none⟩ = some v5 → W.cell? ⟨b8, 0, none⟩ = some v11 → Q .normal a W) :
    ∀ (a : Act) (W : World) (v5 : Value) (b8 : Nat), Has 102 (bn []) [(0, .v vd), (2, vi (-((E : Nat) : Int))), (4, vp bm), (8, vp b8), (17, vi ((2 * m - 1 : Nat) : Int)), (19, vi (-((E + 1 : Nat) : Int))), (20, .v v5), (23, vi ((2 * m + 1 : Nat) : Int)), (25, vi (-((E + 1 : Nat) : Int)))] a → a.defers = [] → Iv w1 bm m [b8] ((v5, LO) :: vs) W → wpAnyLast Tryd.prog .any hsOps Q (fun W : World => W.cell? ⟨bm, 0, none⟩ = some (.int .i64 ↑m)) [] 4 #[true, true, true, true, true, true, true, true, true, true, true, false, false, true, false, false] a W := by
  intro a W v5 b8 hA hD hI
  refine wpAnyLast_ready (rs := [11, 12]) (by kernel_rfl) (by simp) ?_
  refine AllReadyL.cons (i := 11) hsF11.1 (by simp) (fun K hK => call_ifD (N := 102) (β := bn []) (d := 26) (f := 16) hsF11.2.1 hsF11.2.2.1 (by decide) hA Tryd.func16 rfl rfl hsF11.2.2.2 rfl (Ans W HI) (hdoL hHI (by omega) (by omega) hh W) (fun u W' a' hR h1 h2 => hK.out _ _ (hI.add hR).mm (fun _ => hsA_201 w1 bm m E LO HI vd vs hLO hHI hl hh hE hm hfin a' W' v5 u b8 (sub_ok h1 sE) (h2.trans hD) (hI.add hR)))) ?_
  refine AllReadyL.cons (i := 12) hsF12.1 (by simp) (fun K hK => alloc_if (N := 102) (β := bn []) (d := 7) hsF12.2.1 hsF12.2.2.1 (by decide) hA hsF12.2.2.2 allocOk29 (fun a' h1 h2 => hK.out _ _ hI.alloc.mm (fun _ => hsA_111 w1 bm m E LO HI vd vs hLO hHI hl hh hE hm hfin a' _ v5 W.heap.size b8 (sub_ok h1 sE) (h2.trans hD) hI.alloc))) ?_
  exact AllReadyL.nil
set_option maxHeartbeats 8000000 in
set_option maxRecDepth 100000 in
theorem hsA_100 {Q : Exit → Act → World → Prop} (w1 : World) (bm m E LO HI : Nat) (vd : Value) (vs : List (Value × Nat)) (hLO : (2 * m - 1) * 10 ^ (200 - (E + 1)) * 5 ^ (E + 1) = LO) (hHI : (2 * m + 1) * 10 ^ (200 - (E + 1)) * 5 ^ (E + 1) = HI) (hl : (dg LO).length < 900) (hh : (dg HI).length < 900) (hE : E ≤ 100) (hm : m < 100000000)
    (hfin : ∀ (a : Act) (W : World) (v5 v11 : Value) (b7 b8 : Nat), Has 102 (bn []) [(0, .v vd), (2, vi (-((E : Nat) : Int))), (4, vp bm), (7, vp b7), (8, vp b8)] a → a.defers = [] → Iv w1 bm m [b7, b8] ((v11, HI) :: (v5, LO) :: vs) W → W.cell? ⟨b7, 0, none⟩ = some v5 → W.cell? ⟨b8, 0, none⟩ = some v11 → Q .normal a W) :
    ∀ (a : Act) (W : World) (v5 : Value), Has 102 (bn []) [(0, .v vd), (2, vi (-((E : Nat) : Int))), (4, vp bm), (17, vi ((2 * m - 1 : Nat) : Int)), (19, vi (-((E + 1 : Nat) : Int))), (20, .v v5), (23, vi ((2 * m + 1 : Nat) : Int)), (25, vi (-((E + 1 : Nat) : Int)))] a → a.defers = [] → Iv w1 bm m [] ((v5, LO) :: vs) W → wpAnyLast Tryd.prog .any hsOps Q (fun W : World => W.cell? ⟨bm, 0, none⟩ = some (.int .i64 ↑m)) [] 5 #[true, true, true, true, true, true, true, true, true, true, true, false, false, false, false, false] a W := by
  intro a W v5 hA hD hI
  refine wpAnyLast_ready (rs := [11, 12, 13]) (by kernel_rfl) (by simp) ?_
  refine AllReadyL.cons (i := 11) hsF11.1 (by simp) (fun K hK => call_ifD (N := 102) (β := bn []) (d := 26) (f := 16) hsF11.2.1 hsF11.2.2.1 (by decide) hA Tryd.func16 rfl rfl hsF11.2.2.2 rfl (Ans W HI) (hdoL hHI (by omega) (by omega) hh W) (fun u W' a' hR h1 h2 => hK.out _ _ (hI.add hR).mm (fun _ => hsA_200 w1 bm m E LO HI vd vs hLO hHI hl hh hE hm hfin a' W' v5 u (sub_ok h1 sE) (h2.trans hD) (hI.add hR)))) ?_
  refine AllReadyL.cons (i := 12) hsF12.1 (by simp) (fun K hK => alloc_if (N := 102) (β := bn []) (d := 7) hsF12.2.1 hsF12.2.2.1 (by decide) hA hsF12.2.2.2 allocOk29 (fun a' h1 h2 => hK.out _ _ hI.alloc.mm (fun _ => hsA_110 w1 bm m E LO HI vd vs hLO hHI hl hh hE hm hfin a' _ v5 W.heap.size (sub_ok h1 sE) (h2.trans hD) hI.alloc))) ?_
  refine AllReadyL.cons (i := 13) hsF13.1 (by simp) (fun K hK => alloc_if (N := 102) (β := bn []) (d := 8) hsF13.2.1 hsF13.2.2.1 (by decide) hA hsF13.2.2.2 allocOk29 (fun a' h1 h2 => hK.out _ _ hI.alloc.mm (fun _ => hsA_101 w1 bm m E LO HI vd vs hLO hHI hl hh hE hm hfin a' _ v5 W.heap.size (sub_ok h1 sE) (h2.trans hD) hI.alloc))) ?_
  exact AllReadyL.nil
set_option maxHeartbeats 8000000 in
set_option maxRecDepth 100000 in
theorem hsA_011 {Q : Exit → Act → World → Prop} (w1 : World) (bm m E LO HI : Nat) (vd : Value) (vs : List (Value × Nat)) (hLO : (2 * m - 1) * 10 ^ (200 - (E + 1)) * 5 ^ (E + 1) = LO) (hHI : (2 * m + 1) * 10 ^ (200 - (E + 1)) * 5 ^ (E + 1) = HI) (hl : (dg LO).length < 900) (hh : (dg HI).length < 900) (hE : E ≤ 100) (hm : m < 100000000)
    (hfin : ∀ (a : Act) (W : World) (v5 v11 : Value) (b7 b8 : Nat), Has 102 (bn []) [(0, .v vd), (2, vi (-((E : Nat) : Int))), (4, vp bm), (7, vp b7), (8, vp b8)] a → a.defers = [] → Iv w1 bm m [b7, b8] ((v11, HI) :: (v5, LO) :: vs) W → W.cell? ⟨b7, 0, none⟩ = some v5 → W.cell? ⟨b8, 0, none⟩ = some v11 → Q .normal a W) :
    ∀ (a : Act) (W : World) (b7 : Nat) (b8 : Nat), Has 102 (bn []) [(0, .v vd), (2, vi (-((E : Nat) : Int))), (4, vp bm), (7, vp b7), (8, vp b8), (17, vi ((2 * m - 1 : Nat) : Int)), (19, vi (-((E + 1 : Nat) : Int))), (23, vi ((2 * m + 1 : Nat) : Int)), (25, vi (-((E + 1 : Nat) : Int)))] a → a.defers = [] → Iv w1 bm m [b7, b8] (vs) W → wpAnyLast Tryd.prog .any hsOps Q (fun W : World => W.cell? ⟨bm, 0, none⟩ = some (.int .i64 ↑m)) [] 4 #[true, true, true, true, true, false, true, true, true, true, true, false, true, true, false, false] a W := by
  intro a W b7 b8 hA hD hI
  refine wpAnyLast_ready (rs := [5]) (by kernel_rfl) (by simp) ?_
  refine AllReadyL.cons (i := 5) hsF5.1 (by simp) (fun K hK => call_ifD (N := 102) (β := bn []) (d := 20) (f := 16) hsF5.2.1 hsF5.2.2.1 (by decide) hA Tryd.func16 rfl rfl hsF5.2.2.2 rfl (Ans W LO) (hdoL hLO (by omega) (by omega) hl W) (fun u W' a' hR h1 h2 => hK.out _ _ (hI.add hR).mm (fun _ => hsA_111 w1 bm m E LO HI vd vs hLO hHI hl hh hE hm hfin a' W' u b7 b8 (sub_ok h1 sE) (h2.trans hD) (hI.add hR)))) ?_
  exact AllReadyL.nil
set_option maxHeartbeats 8000000 in
set_option maxRecDepth 100000 in
theorem hsA_010 {Q : Exit → Act → World → Prop} (w1 : World) (bm m E LO HI : Nat) (vd : Value) (vs : List (Value × Nat)) (hLO : (2 * m - 1) * 10 ^ (200 - (E + 1)) * 5 ^ (E + 1) = LO) (hHI : (2 * m + 1) * 10 ^ (200 - (E + 1)) * 5 ^ (E + 1) = HI) (hl : (dg LO).length < 900) (hh : (dg HI).length < 900) (hE : E ≤ 100) (hm : m < 100000000)
    (hfin : ∀ (a : Act) (W : World) (v5 v11 : Value) (b7 b8 : Nat), Has 102 (bn []) [(0, .v vd), (2, vi (-((E : Nat) : Int))), (4, vp bm), (7, vp b7), (8, vp b8)] a → a.defers = [] → Iv w1 bm m [b7, b8] ((v11, HI) :: (v5, LO) :: vs) W → W.cell? ⟨b7, 0, none⟩ = some v5 → W.cell? ⟨b8, 0, none⟩ = some v11 → Q .normal a W) :
    ∀ (a : Act) (W : World) (b7 : Nat), Has 102 (bn []) [(0, .v vd), (2, vi (-((E : Nat) : Int))), (4, vp bm), (7, vp b7), (17, vi ((2 * m - 1 : Nat) : Int)), (19, vi (-((E + 1 : Nat) : Int))), (23, vi ((2 * m + 1 : Nat) : Int)), (25, vi (-((E + 1 : Nat) : Int)))] a → a.defers = [] → Iv w1 bm m [b7] (vs) W → wpAnyLast Tryd.prog .any hsOps Q (fun W : World => W.cell? ⟨bm, 0, none⟩ = some (.int .i64 ↑m)) [] 5 #[true, true, true, true, true, false, true, true, true, true, true, false, true, false, false, false] a W := by
  intro a W b7 hA hD hI
  refine wpAnyLast_ready (rs := [5, 13]) (by kernel_rfl) (by simp) ?_
  refine AllReadyL.cons (i := 5) hsF5.1 (by simp) (fun K hK => call_ifD (N := 102) (β := bn []) (d := 20) (f := 16) hsF5.2.1 hsF5.2.2.1 (by decide) hA Tryd.func16 rfl rfl hsF5.2.2.2 rfl (Ans W LO) (hdoL hLO (by omega) (by omega) hl W) (fun u W' a' hR h1 h2 => hK.out _ _ (hI.add hR).mm (fun _ => hsA_110 w1 bm m E LO HI vd vs hLO hHI hl hh hE hm hfin a' W' u b7 (sub_ok h1 sE) (h2.trans hD) (hI.add hR)))) ?_
  refine AllReadyL.cons (i := 13) hsF13.1 (by simp) (fun K hK => alloc_if (N := 102) (β := bn []) (d := 8) hsF13.2.1 hsF13.2.2.1 (by decide) hA hsF13.2.2.2 allocOk29 (fun a' h1 h2 => hK.out _ _ hI.alloc.mm (fun _ => hsA_011 w1 bm m E LO HI vd vs hLO hHI hl hh hE hm hfin a' _ b7 W.heap.size (sub_ok h1 sE) (h2.trans hD) hI.alloc.swap))) ?_
  exact AllReadyL.nil
set_option maxHeartbeats 8000000 in
set_option maxRecDepth 100000 in
theorem hsA_001 {Q : Exit → Act → World → Prop} (w1 : World) (bm m E LO HI : Nat) (vd : Value) (vs : List (Value × Nat)) (hLO : (2 * m - 1) * 10 ^ (200 - (E + 1)) * 5 ^ (E + 1) = LO) (hHI : (2 * m + 1) * 10 ^ (200 - (E + 1)) * 5 ^ (E + 1) = HI) (hl : (dg LO).length < 900) (hh : (dg HI).length < 900) (hE : E ≤ 100) (hm : m < 100000000)
    (hfin : ∀ (a : Act) (W : World) (v5 v11 : Value) (b7 b8 : Nat), Has 102 (bn []) [(0, .v vd), (2, vi (-((E : Nat) : Int))), (4, vp bm), (7, vp b7), (8, vp b8)] a → a.defers = [] → Iv w1 bm m [b7, b8] ((v11, HI) :: (v5, LO) :: vs) W → W.cell? ⟨b7, 0, none⟩ = some v5 → W.cell? ⟨b8, 0, none⟩ = some v11 → Q .normal a W) :
    ∀ (a : Act) (W : World) (b8 : Nat), Has 102 (bn []) [(0, .v vd), (2, vi (-((E : Nat) : Int))), (4, vp bm), (8, vp b8), (17, vi ((2 * m - 1 : Nat) : Int)), (19, vi (-((E + 1 : Nat) : Int))), (23, vi ((2 * m + 1 : Nat) : Int)), (25, vi (-((E + 1 : Nat) : Int)))] a → a.defers = [] → Iv w1 bm m [b8] (vs) W → wpAnyLast Tryd.prog .any hsOps Q (fun W : World => W.cell? ⟨bm, 0, none⟩ = some (.int .i64 ↑m)) [] 5 #[true, true, true, true, true, false, true, true, true, true, true, false, false, true, false, false] a W := by
  intro a W b8 hA hD hI
  refine wpAnyLast_ready (rs := [5, 12]) (by kernel_rfl) (by simp) ?_
  refine AllReadyL.cons (i := 5) hsF5.1 (by simp) (fun K hK => call_ifD (N := 102) (β := bn []) (d := 20) (f := 16) hsF5.2.1 hsF5.2.2.1 (by decide) hA Tryd.func16 rfl rfl hsF5.2.2.2 rfl (Ans W LO) (hdoL hLO (by omega) (by omega) hl W) (fun u W' a' hR h1 h2 => hK.out _ _ (hI.add hR).mm (fun _ => hsA_101 w1 bm m E LO HI vd vs hLO hHI hl hh hE hm hfin a' W' u b8 (sub_ok h1 sE) (h2.trans hD) (hI.add hR)))) ?_
  refine AllReadyL.cons (i := 12) hsF12.1 (by simp) (fun K hK => alloc_if (N := 102) (β := bn []) (d := 7) hsF12.2.1 hsF12.2.2.1 (by decide) hA hsF12.2.2.2 allocOk29 (fun a' h1 h2 => hK.out _ _ hI.alloc.mm (fun _ => hsA_011 w1 bm m E LO HI vd vs hLO hHI hl hh hE hm hfin a' _ W.heap.size b8 (sub_ok h1 sE) (h2.trans hD) hI.alloc))) ?_
  exact AllReadyL.nil
set_option maxHeartbeats 8000000 in
set_option maxRecDepth 100000 in
theorem hsA_000 {Q : Exit → Act → World → Prop} (w1 : World) (bm m E LO HI : Nat) (vd : Value) (vs : List (Value × Nat)) (hLO : (2 * m - 1) * 10 ^ (200 - (E + 1)) * 5 ^ (E + 1) = LO) (hHI : (2 * m + 1) * 10 ^ (200 - (E + 1)) * 5 ^ (E + 1) = HI) (hl : (dg LO).length < 900) (hh : (dg HI).length < 900) (hE : E ≤ 100) (hm : m < 100000000)
    (hfin : ∀ (a : Act) (W : World) (v5 v11 : Value) (b7 b8 : Nat), Has 102 (bn []) [(0, .v vd), (2, vi (-((E : Nat) : Int))), (4, vp bm), (7, vp b7), (8, vp b8)] a → a.defers = [] → Iv w1 bm m [b7, b8] ((v11, HI) :: (v5, LO) :: vs) W → W.cell? ⟨b7, 0, none⟩ = some v5 → W.cell? ⟨b8, 0, none⟩ = some v11 → Q .normal a W) :
    ∀ (a : Act) (W : World) , Has 102 (bn []) [(0, .v vd), (2, vi (-((E : Nat) : Int))), (4, vp bm), (17, vi ((2 * m - 1 : Nat) : Int)), (19, vi (-((E + 1 : Nat) : Int))), (23, vi ((2 * m + 1 : Nat) : Int)), (25, vi (-((E + 1 : Nat) : Int)))] a → a.defers = [] → Iv w1 bm m [] (vs) W → wpAnyLast Tryd.prog .any hsOps Q (fun W : World => W.cell? ⟨bm, 0, none⟩ = some (.int .i64 ↑m)) [] 6 #[true, true, true, true, true, false, true, true, true, true, true, false, false, false, false, false] a W := by
  intro a W  hA hD hI
  refine wpAnyLast_ready (rs := [5, 12, 13]) (by kernel_rfl) (by simp) ?_
  refine AllReadyL.cons (i := 5) hsF5.1 (by simp) (fun K hK => call_ifD (N := 102) (β := bn []) (d := 20) (f := 16) hsF5.2.1 hsF5.2.2.1 (by decide) hA Tryd.func16 rfl rfl hsF5.2.2.2 rfl (Ans W LO) (hdoL hLO (by omega) (by omega) hl W) (fun u W' a' hR h1 h2 => hK.out _ _ (hI.add hR).mm (fun _ => hsA_100 w1 bm m E LO HI vd vs hLO hHI hl hh hE hm hfin a' W' u (sub_ok h1 sE) (h2.trans hD) (hI.add hR)))) ?_
  refine AllReadyL.cons (i := 12) hsF12.1 (by simp) (fun K hK => alloc_if (N := 102) (β := bn []) (d := 7) hsF12.2.1 hsF12.2.2.1 (by decide) hA hsF12.2.2.2 allocOk29 (fun a' h1 h2 => hK.out _ _ hI.alloc.mm (fun _ => hsA_010 w1 bm m E LO HI vd vs hLO hHI hl hh hE hm hfin a' _ W.heap.size (sub_ok h1 sE) (h2.trans hD) hI.alloc))) ?_
  refine AllReadyL.cons (i := 13) hsF13.1 (by simp) (fun K hK => alloc_if (N := 102) (β := bn []) (d := 8) hsF13.2.1 hsF13.2.2.1 (by decide) hA hsF13.2.2.2 allocOk29 (fun a' h1 h2 => hK.out _ _ hI.alloc.mm (fun _ => hsA_001 w1 bm m E LO HI vd vs hLO hHI hl hh hE hm hfin a' _ W.heap.size (sub_ok h1 sE) (h2.trans hD) hI.alloc))) ?_
  exact AllReadyL.nil
end Go.Proofs.YtmgnffklmdhooaaDoor.PAll
