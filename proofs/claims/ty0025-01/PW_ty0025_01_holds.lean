import PyProof.Rows.All
import Wide.All
import OpenK.AllK
import Wide.FinOn
import PySem.Challenge.RW_ty0025_01
set_option Elab.async false
set_option maxRecDepth 100000
set_option linter.unusedVariables false
set_option linter.unusedSimpArgs false
namespace Mine
/-! Plain1 -/
section
open PySem
theorem bitAnd_nat (x y : Nat) : Builtin.bitAnd (x : Int) (y : Int) = ((x &&& y : Nat) : Int) := by
  simp [Builtin.bitAnd]
theorem bitOr_nat (x y : Nat) : Builtin.bitOr (x : Int) (y : Int) = ((x ||| y : Nat) : Int) := by
  have h1 : ¬ (0 : Int) ≤ Builtin.bitNot (x : Int) := by unfold Builtin.bitNot; omega
  have h2 : ¬ (0 : Int) ≤ Builtin.bitNot (y : Int) := by unfold Builtin.bitNot; omega
  have e : ∀ z : Nat, (Builtin.bitNot (Builtin.bitNot (z : Int))) = z := by intro z; unfold Builtin.bitNot; omega
  unfold Builtin.bitOr Builtin.bitAnd
  simp only [h1, h2, decide_false, e, Int.toNat_natCast]
theorem and_high (x s : Nat) : x &&& (x / 2 ^ s * 2 ^ s) = x / 2 ^ s * 2 ^ s := by
  rw [← Nat.shiftLeft_eq, ← Nat.shiftRight_eq_div_pow]
  apply Nat.eq_of_testBit_eq
  intro i
  rw [Nat.testBit_and, Nat.testBit_shiftLeft, Nat.testBit_shiftRight]
  by_cases h : i ≥ s
  · rw [show s + (i - s) = i by omega]; simp [h]
  · simp [h]
theorem or_high (x s : Nat) : x ||| (x / 2 ^ s * 2 ^ s) = x := by
  rw [← Nat.shiftLeft_eq, ← Nat.shiftRight_eq_div_pow]
  apply Nat.eq_of_testBit_eq
  intro i
  rw [Nat.testBit_or, Nat.testBit_shiftLeft, Nat.testBit_shiftRight]
  by_cases h : i ≥ s
  · rw [show s + (i - s) = i by omega]; simp [h]
  · simp [h]
theorem xor_high (x s : Nat) : Builtin.bitXor (x : Int) ((x / 2 ^ s * 2 ^ s : Nat) : Int) = ((x % 2 ^ s : Nat) : Int) := by
  unfold Builtin.bitXor
  rw [bitOr_nat, bitAnd_nat, and_high, or_high]
  have := Nat.div_add_mod x (2 ^ s)
  rw [Nat.mul_comm] at this
  omega
theorem and_63 (b : Nat) : Builtin.bitAnd (b : Int) 63 = ((b % 64 : Nat) : Int) := by
  rw [show (63 : Int) = ((63 : Nat) : Int) from rfl, bitAnd_nat]
  congr 1
  exact Nat.and_two_pow_sub_one_eq_mod b 6
theorem and_64 (b : Nat) (h : b < 128) : Builtin.bitAnd (b : Int) 64 = if b < 64 then 0 else 64 := by
  rw [show (64 : Int) = ((64 : Nat) : Int) from rfl, bitAnd_nat]
  have : ∀ b : Fin 128, (b.val &&& 64) = if b.val < 64 then 0 else 64 := by decide
  rw [this ⟨b, h⟩]
  split <;> rfl
theorem or_low (v c : Nat) (h : c < 64) : Builtin.bitOr ((v * 64 : Nat) : Int) (c : Int) = ((v * 64 + c : Nat) : Int) := by
  rw [bitOr_nat]
  congr 1
  have := Nat.shiftLeft_add_eq_or_of_lt (i := 6) (b := c) (by simpa using h) v
  rw [Nat.shiftLeft_eq] at this
  exact this.symm

noncomputable def bits (x : Nat) : Nat := if x = 0 then 0 else x.log2 + 1
theorem intBits_nat (x : Nat) : Builtin.Int.intBits (x : Int) = bits x := by
  unfold Builtin.Int.intBits bits
  by_cases h : x = 0
  · subst h; rfl
  · simp [h]
theorem lt_bits (x : Nat) : x < 2 ^ bits x := by
  unfold bits
  split
  · subst_vars; decide
  · exact Nat.lt_log2_self
theorem bits_le {x k : Nat} (h : x < 2 ^ k) : bits x ≤ k := by
  unfold bits
  split
  · omega
  · rename_i h0; exact (Nat.log2_lt h0).mpr h
theorem bits_pos {x : Nat} (h : 0 < x) : 0 < bits x := by unfold bits; split <;> omega

/-! figures to the base 2 ^ n, the lowest first -/
noncomputable def digs (n : Nat) : Nat → Nat → List Nat
  | 0, _ => []
  | k + 1, x => x % 2 ^ n :: digs n k (x / 2 ^ n)
noncomputable def val (n : Nat) : List Nat → Nat
  | [] => 0
  | d :: ds => d + 2 ^ n * val n ds
theorem digs_len (n : Nat) : ∀ k x, (digs n k x).length = k
  | 0, _ => rfl
  | k + 1, x => by simp [digs, digs_len n k]
theorem digs_lt (n : Nat) : ∀ k x, ∀ d ∈ digs n k x, d < 2 ^ n
  | 0, _ => by simp [digs]
  | k + 1, x => by
    intro d hd
    rcases List.mem_cons.mp hd with rfl | hd
    · exact Nat.mod_lt _ (Nat.pow_pos (by decide))
    · exact digs_lt n k _ d hd
theorem digs_add (n : Nat) : ∀ i j x, digs n (i + j) x = digs n i (x % 2 ^ (n * i)) ++ digs n j (x / 2 ^ (n * i))
  | 0, j, x => by simp [digs]
  | i + 1, j, x => by
    rw [show i + 1 + j = (i + j) + 1 by omega]
    simp only [digs, List.cons_append]
    have e : 2 ^ (n * (i + 1)) = 2 ^ n * 2 ^ (n * i) := by rw [Nat.mul_add, Nat.mul_one, Nat.pow_add, Nat.mul_comm]
    rw [digs_add n i j (x / 2 ^ n), e, Nat.mod_mul_right_div_self, Nat.mod_mul_right_mod, Nat.div_div_eq_div_mul]
theorem val_digs (n : Nat) : ∀ k x, x < 2 ^ (n * k) → val n (digs n k x) = x
  | 0, x, h => by simp at h; subst h; rfl
  | k + 1, x, h => by
    have e : 2 ^ (n * (k + 1)) = 2 ^ n * 2 ^ (n * k) := by rw [Nat.mul_add, Nat.mul_one, Nat.pow_add, Nat.mul_comm]
    simp only [digs, val]
    rw [val_digs n k (x / 2 ^ n) (by rw [Nat.div_lt_iff_lt_mul (Nat.pow_pos (by decide)), Nat.mul_comm, ← e]; exact h)]
    exact Nat.mod_add_div x (2 ^ n)
theorem digs_one (n x : Nat) (h : x < 2 ^ n) : digs n 1 x = [x] := by simp [digs, Nat.mod_eq_of_lt h]
theorem val_append (n : Nat) : ∀ xs ys, val n (xs ++ ys) = val n xs + 2 ^ (n * xs.length) * val n ys
  | [], ys => by simp [val]
  | x :: xs, ys => by
    simp only [List.cons_append, val, val_append n xs ys, List.length_cons]
    have e : 2 ^ (n * (xs.length + 1)) = 2 ^ n * 2 ^ (n * xs.length) := by rw [Nat.mul_add, Nat.mul_one, Nat.pow_add, Nat.mul_comm]
    rw [e, Nat.mul_add, Nat.mul_assoc]; omega
theorem val_lt (n : Nat) : ∀ xs : List Nat, (∀ d ∈ xs, d < 2 ^ n) → val n xs < 2 ^ (n * xs.length)
  | [], _ => by simp [val]
  | x :: xs, h => by
    have h1 := h x List.mem_cons_self
    have h2 := val_lt n xs fun d hd => h d (List.mem_cons_of_mem _ hd)
    have e : 2 ^ (n * (xs.length + 1)) = 2 ^ n * 2 ^ (n * xs.length) := by rw [Nat.mul_add, Nat.mul_one, Nat.pow_add, Nat.mul_comm]
    simp only [val, List.length_cons, e]
    have h3 : 2 ^ n * val n xs + 2 ^ n ≤ 2 ^ n * 2 ^ (n * xs.length) := by
      rw [← Nat.mul_succ]; exact Nat.mul_le_mul_left _ h2
    omega
/-- the long division: figures the highest first -/
theorem ldiv_step {b n A r q d : Nat} (hb : 0 < b) (hq : q = A / b) (hr : r = A % b) : ((r * 2 ^ n + d) / b) + 2 ^ n * q = (d + 2 ^ n * A) / b ∧ (r * 2 ^ n + d) % b = (d + 2 ^ n * A) % b := by
  subst hq hr
  have e : d + 2 ^ n * A = (A % b * 2 ^ n + d) + b * (2 ^ n * (A / b)) := by
    have := Nat.div_add_mod A b
    have e2 : 2 ^ n * A = 2 ^ n * (b * (A / b) + A % b) := by rw [this]
    rw [e2, Nat.mul_add, ← Nat.mul_assoc, Nat.mul_comm (2 ^ n) b, Nat.mul_assoc, Nat.mul_comm (A % b) (2 ^ n)]
    omega
  rw [e, Nat.add_mul_div_left _ _ hb, Nat.add_mul_mod_self_left]
  exact ⟨rfl, rfl⟩
theorem ldiv_lt {b n r d : Nat} (hb : 0 < b) (hr : r < b) (hd : d < 2 ^ n) : (r * 2 ^ n + d) / b < 2 ^ n := by
  rw [Nat.div_lt_iff_lt_mul hb]
  have : (r + 1) * 2 ^ n ≤ b * 2 ^ n := Nat.mul_le_mul_right _ hr
  rw [Nat.mul_comm (2 ^ n) b]
  rw [Nat.add_mul, Nat.one_mul] at this
  omega
theorem inner_list {α : Type} (xs A B : List α) (lo mid hi : Nat) (h1 : lo ≤ mid) (h2 : mid ≤ hi) (h3 : hi ≤ xs.length) (hA : A.length = mid - lo) :
    (xs.take lo ++ A ++ xs.drop mid).take mid ++ B ++ (xs.take lo ++ A ++ xs.drop mid).drop hi = xs.take lo ++ (A ++ B) ++ xs.drop hi := by
  have hl : (xs.take lo ++ A).length = mid := by rw [List.length_append, List.length_take, hA]; omega
  have e1 : (xs.take lo ++ A ++ xs.drop mid).take mid = xs.take lo ++ A := by
    rw [List.take_append_of_le_length (Nat.le_of_eq hl.symm), List.take_of_length_le (Nat.le_of_eq hl)]
  have e2 : (xs.take lo ++ A ++ xs.drop mid).drop hi = xs.drop hi := by
    rw [List.drop_append, List.drop_eq_nil_of_le (by omega), hl, List.drop_drop, List.nil_append]
    congr 1; omega
  rw [e1, e2]; simp
theorem slice_split {α : Type} (xs : List α) (lo mid hi : Nat) (h1 : lo ≤ mid) (h2 : mid ≤ hi) : (xs.drop lo).take (hi - lo) = (xs.drop lo).take (mid - lo) ++ (xs.drop mid).take (hi - mid) := by
  rw [show hi - lo = (mid - lo) + (hi - mid) by omega, List.take_add, List.drop_drop, show lo + (mid - lo) = mid by omega]
theorem slice_one {α : Type} (xs : List α) (lo : Nat) (x : α) (h : xs[lo]? = some x) : (xs.drop lo).take 1 = [x] := by
  have hl := (List.getElem?_eq_some_iff.mp h).1
  rw [List.drop_eq_getElem_cons hl]
  have := (List.getElem?_eq_some_iff.mp h).2
  simp [this]
theorem val_slice {k : Nat} (xs : List Nat) (lo mid hi : Nat) (h1 : lo ≤ mid) (h2 : mid ≤ hi) (h3 : hi ≤ xs.length) :
    val k ((xs.drop lo).take (hi - lo)) = val k ((xs.drop mid).take (hi - mid)) * 2 ^ ((mid - lo) * k) + val k ((xs.drop lo).take (mid - lo)) := by
  rw [slice_split xs lo mid hi h1 h2, val_append]
  rw [show ((xs.drop lo).take (mid - lo)).length = mid - lo by rw [List.length_take, List.length_drop]; omega]
  rw [Nat.mul_comm k, Nat.mul_comm (2 ^ _), Nat.add_comm]
/-! numbers to octets and back -/
noncomputable def fs (r : Nat) : List Nat := if h : r = 0 then [] else (64 + r % 64) :: fs (r / 64)
termination_by r
decreasing_by omega
noncomputable def enc (x : Nat) : List Nat := (x % 64 :: fs (x / 64)).reverse
noncomputable def wfE : Nat → List Nat → Prop
  | b, [] => b < 64
  | b, c :: cs => 64 ≤ b ∧ b < 128 ∧ wfE c cs
noncomputable def dec (v : Nat) : List Nat → Nat
  | [] => v
  | c :: cs => dec (v * 64 + c % 64) cs
theorem fs_zero : fs 0 = [] := by unfold fs; simp
theorem fs_pos {r : Nat} (h : 0 < r) : fs r = (64 + r % 64) :: fs (r / 64) := by rw [fs, dif_neg (by omega)]
theorem enc_aux : ∀ (n r : Nat) (b : Nat) (cs : List Nat), r ≤ n → wfE b cs → ∃ b' cs', (fs r).reverse ++ b :: cs = b' :: cs' ∧ wfE b' cs' ∧ dec (b' % 64) cs' = dec (r * 64 + b % 64) cs
  | n, 0, b, cs, _, h => ⟨b, cs, by rw [fs_zero]; rfl, h, by simp⟩
  | 0, r + 1, b, cs, hn, h => absurd hn (by omega)
  | n + 1, r + 1, b, cs, hn, h => by
    obtain ⟨b', cs', e1, e2, e3⟩ := enc_aux n ((r + 1) / 64) (64 + (r + 1) % 64) (b :: cs) (by omega) ⟨by omega, by omega, h⟩
    refine ⟨b', cs', by rw [fs_pos (by omega)]; simpa using e1, e2, ?_⟩
    rw [e3]
    simp only [dec]
    congr 2
    omega
theorem enc_spec (x : Nat) : ∃ b cs, enc x = b :: cs ∧ wfE b cs ∧ dec (b % 64) cs = x := by
  obtain ⟨b, cs, e1, e2, e3⟩ := enc_aux (x / 64) (x / 64) (x % 64) [] (Nat.le_refl _) (Nat.mod_lt _ (by decide))
  refine ⟨b, cs, by unfold enc; simpa using e1, e2, ?_⟩
  rw [e3]; simp only [dec]; omega
theorem fs_len : ∀ (k r : Nat), r < 64 ^ k → (fs r).length ≤ k
  | 0, r, h => by simp at h; subst h; rw [fs_zero]; exact Nat.le_refl _
  | k + 1, r, h => by
    rcases Nat.eq_zero_or_pos r with q | q
    · subst q; rw [fs_zero]; exact Nat.zero_le _
    · rw [fs_pos q]
      have := fs_len k (r / 64) (by rw [Nat.pow_succ] at h; omega)
      simp; omega
theorem enc_len {x : Nat} (h : x < 64 ^ 4) : (enc x).length ≤ 4 := by
  have := fs_len 3 (x / 64) (by rw [Nat.pow_succ] at h; omega)
  unfold enc; simp; omega
theorem dec_le : ∀ (cs : List Nat) (v : Nat), v ≤ dec v cs
  | [], v => Nat.le_refl _
  | c :: cs, v => by
    have := dec_le cs (v * 64 + c % 64)
    simp only [dec]; omega
theorem wfE_lt : ∀ {b : Nat} {cs : List Nat}, wfE b cs → b < 128
  | b, [], h => by simp only [wfE] at h; omega
  | b, c :: cs, h => h.2.1
end
/-! Plain2 -/
section
open PySem
/-! the words of the law -/
noncomputable def row (w : List Nat) : List Nat := List.replicate w.length 46 ++ w
noncomputable def addAt (W : List (List Nat)) (p c : Nat) : List (List Nat) := W.set p (W[p]?.getD [] ++ [c])
noncomputable def grow (W : List (List Nat)) (x : Nat) : List (List Nat) :=
  let p := x % W.length
  let q := (p + 1) % W.length
  let c := 95 + W.length
  let V := addAt (addAt W p c) q c
  V.take (p + 1) ++ [c] :: V.drop (p + 1)
noncomputable def W0 : List (List Nat) := [[97], [97], [97]]
noncomputable def growAll (X : List Nat) : List (List Nat) := X.foldl grow W0
theorem growAll_succ {X : List Nat} {i x : Nat} (h : X[i]? = some x) : growAll (X.take (i + 1)) = grow (growAll (X.take i)) x := by
  unfold growAll
  rw [List.take_add_one, h, List.foldl_append]; rfl
theorem addAt_len (W : List (List Nat)) (p c : Nat) : (addAt W p c).length = W.length := by simp [addAt]
theorem grow_len (W : List (List Nat)) (x : Nat) (h : 0 < W.length) : (grow W x).length = W.length + 1 := by
  unfold grow
  have hp := Nat.mod_lt x h
  simp [addAt_len]
  omega
structure OkW (W : List (List Nat)) : Prop where
  len3 : 3 ≤ W.length
  len7 : W.length ≤ 7
  ne : ∀ w ∈ W, w ≠ []
  abc : ∀ w ∈ W, ∀ a ∈ w, 97 ≤ a ∧ a ≤ 101
  short : ∀ w ∈ W, w.length + 2 ≤ W.length
theorem okW0 : OkW W0 := ⟨by decide, by decide, by decide, by decide, by decide⟩
theorem addAt_mem {W : List (List Nat)} {p c : Nat} {w : List Nat} (h : w ∈ addAt W p c) : w ∈ W ∨ w = W[p]?.getD [] ++ [c] := by
  unfold addAt at h
  exact (List.mem_or_eq_of_mem_set h)
theorem getD_mem {W : List (List Nat)} {p : Nat} (h : p < W.length) : W[p]?.getD [] ∈ W := by
  rw [List.getElem?_eq_getElem h]; exact List.getElem_mem h
theorem addAt_get_ne {W : List (List Nat)} {p q c : Nat} (h : p ≠ q) : (addAt W p c)[q]?.getD [] = W[q]?.getD [] := by
  unfold addAt; rw [List.getElem?_set_ne h]
theorem nigh_ne {n p : Nat} (hn : 3 ≤ n) (hp : p < n) : p ≠ (p + 1) % n := by
  rcases Nat.lt_or_ge (p + 1) n with h | h
  · rw [Nat.mod_eq_of_lt h]; omega
  · have : p + 1 = n := by omega
    rw [this, Nat.mod_self]; omega
theorem okW_grow {W : List (List Nat)} (h : OkW W) (h6 : W.length ≤ 6) (x : Nat) : OkW (grow W x) := by
  have hl := grow_len W x (by have := h.len3; omega)
  have h3 := h.len3
  have hp := Nat.mod_lt x (show 0 < W.length by omega)
  have hq := Nat.mod_lt (x % W.length + 1) (show 0 < W.length by omega)
  have hne := nigh_ne h3 hp
  have mem : ∀ w ∈ grow W x, w ∈ W ∨ w = [95 + W.length] ∨ ∃ v ∈ W, w = v ++ [95 + W.length] := by
    intro w hw
    unfold grow at hw
    have hv : ∀ w ∈ addAt (addAt W (x % W.length) (95 + W.length)) ((x % W.length + 1) % W.length) (95 + W.length), w ∈ W ∨ ∃ v ∈ W, w = v ++ [95 + W.length] := by
      intro w hw
      rcases addAt_mem hw with hw | hw
      · rcases addAt_mem hw with hw | hw
        · exact .inl hw
        · exact .inr ⟨_, getD_mem hp, hw⟩
      · rw [addAt_get_ne hne] at hw; exact .inr ⟨_, getD_mem hq, hw⟩
    rcases List.mem_append.mp hw with hw | hw
    · rcases hv w (List.mem_of_mem_take hw) with h | h
      · exact .inl h
      · exact .inr (.inr h)
    · rcases List.mem_cons.mp hw with hw | hw
      · exact .inr (.inl hw)
      · rcases hv w (List.mem_of_mem_drop hw) with h | h
        · exact .inl h
        · exact .inr (.inr h)
  refine ⟨by omega, by omega, fun w hw => ?_, fun w hw a ha => ?_, fun w hw => ?_⟩
  · rcases mem w hw with h1 | h1 | ⟨v, hv, h1⟩
    · exact h.ne w h1
    · rw [h1]; simp
    · rw [h1]; simp
  · rcases mem w hw with h1 | h1 | ⟨v, hv, h1⟩
    · exact h.abc w h1 a ha
    · rw [h1] at ha; have := List.mem_singleton.mp ha; omega
    · rw [h1] at ha
      rcases List.mem_append.mp ha with ha | ha
      · exact h.abc v hv a ha
      · have := List.mem_singleton.mp ha; omega
  · rcases mem w hw with h1 | h1 | ⟨v, hv, h1⟩
    · have := h.short w h1; omega
    · rw [h1]; simp; omega
    · have := h.short v hv; rw [h1]; simp; omega
theorem okW_all {X : List Nat} (hX : X.length ≤ 4) : ∀ i, i ≤ X.length → OkW (growAll (X.take i)) ∧ (growAll (X.take i)).length = 3 + i
  | 0, _ => ⟨okW0, rfl⟩
  | i + 1, h => by
    obtain ⟨h1, h2⟩ := okW_all hX i (by omega)
    have hi : X[i]? = some X[i] := List.getElem?_eq_getElem (by omega)
    rw [growAll_succ hi]
    exact ⟨okW_grow h1 (by omega) _, by rw [grow_len _ _ (by omega), h2]; omega⟩
theorem row_snoc (w : List Nat) (c : Nat) : row (w ++ [c]) = 46 :: row w ++ [c] := by
  unfold row
  rw [List.length_append, List.length_singleton, List.replicate_succ]
  simp
/-- rows and words grow alike -/
theorem grow_rows {α : Type} (f : List Nat → α) (W : List (List Nat)) (p q c : Nat) (hp : p < W.length) (hq : q < W.length) (hpq : p ≠ q) :
    let L := ((W.map f).set p (f (W[p]?.getD [] ++ [c]))).set q (f (W[q]?.getD [] ++ [c]))
    L.take (p + 1) ++ f [c] :: L.drop (p + 1) = ((addAt (addAt W p c) q c).take (p + 1) ++ [c] :: (addAt (addAt W p c) q c).drop (p + 1)).map f := by
  intro L
  have e : L = (addAt (addAt W p c) q c).map f := by
    show ((W.map f).set p _).set q _ = _
    unfold addAt
    rw [List.map_set, List.map_set, List.getElem?_set_ne hpq]
  rw [e]; simp
theorem split_at {X : List Nat} {i x : Nat} (h : X[i]? = some x) : (X.flatMap enc).drop ((X.take i).flatMap enc).length = enc x ++ (X.drop (i + 1)).flatMap enc := by
  have hi := (List.getElem?_eq_some_iff.mp h).1
  have hx := (List.getElem?_eq_some_iff.mp h).2
  have e : X = X.take i ++ x :: X.drop (i + 1) := by
    rw [← hx, List.getElem_cons_drop, List.take_append_drop]
  conv => lhs; arg 2; rw [e]
  rw [List.flatMap_append, List.drop_left, List.flatMap_cons]
/-! the frieze -/
noncomputable def nx (l : List Nat) (k : Nat) : Nat := l[(k + 1) % l.length]?.getD 0
noncomputable def friNext (above line : List Nat) : List Nat := (List.range line.length).map fun k => (line[k]?.getD 0 * nx line k - 1) / nx above k
noncomputable def friOk (above line : List Nat) : Bool := (above.length == line.length) && (List.range line.length).all fun k =>
  decide (0 < nx above k) && decide (nx above k < 1000) && decide (line[k]?.getD 0 < 1000) && decide (nx line k < 1000) && decide (0 < line[k]?.getD 0 * nx line k) && ((line[k]?.getD 0 * nx line k - 1) % nx above k == 0)
noncomputable def friRun : Nat → List (List Nat) → List Nat → List Nat → Option (List (List Nat))
  | 0, acc, _, _ => some acc
  | j + 1, acc, above, line => if friOk above line then friRun j (acc ++ [friNext above line]) line (friNext above line) else none
noncomputable def frieze (dots : List Nat) : Option (List (List Nat)) :=
  friRun (dots.length - 3) [List.replicate dots.length 1, dots.drop 1 ++ dots.take 1] (List.replicate dots.length 1) (dots.drop 1 ++ dots.take 1)
theorem friNext_len (above line : List Nat) : (friNext above line).length = line.length := by simp [friNext]
theorem friNext_take {above line : List Nat} {i : Nat} (h : i < line.length) : (friNext above line).take (i + 1) = (friNext above line).take i ++ [(line[i]?.getD 0 * nx line i - 1) / nx above i] := by
  rw [List.take_add_one]
  congr 1
  unfold friNext
  rw [List.getElem?_map, List.getElem?_range h]; rfl
/-! the choices -/
noncomputable def chWays (corner : List Nat) (ways : List (List Nat)) : List (List Nat) := ways.flatMap fun wy => (corner.filter fun a => !decide (a ∈ wy)).map fun a => wy ++ [a]
noncomputable def chNext (meets : List (List Nat)) (ways : List (List (List Nat))) (span : Nat) : List (List (List Nat)) :=
  (List.range meets.length).map fun k => chWays (meets[(k + span) % meets.length]?.getD []) (ways[k]?.getD [])
noncomputable def chOk (ways : List (List (List Nat))) : Bool := ways.all fun ws => decide (ws.length ≤ 1000) && ws.all fun w => decide (w.length ≤ 100)
noncomputable def chRun (meets : List (List Nat)) : Nat → Nat → List (List Nat) → List (List (List Nat)) → Option (List (List Nat))
  | 0, _, lines, _ => some lines
  | j + 1, span, lines, ways => if chOk ways then chRun meets j (span + 1) (lines ++ [ways.map List.length]) (chNext meets ways span) else none
noncomputable def choices (meets : List (List Nat)) : Option (List (List Nat)) := chRun meets (meets.length - 1) 1 [] (List.replicate meets.length [[]])
theorem chWays_len (corner : List Nat) (h : corner.length ≤ 10) : ∀ ways : List (List Nat), (chWays corner ways).length ≤ ways.length * 10
  | [] => by simp [chWays]
  | wy :: ways => by
    have := chWays_len corner h ways
    unfold chWays at this ⊢
    rw [List.flatMap_cons, List.length_append, List.length_map, List.length_cons]
    have h2 := List.length_filter_le (fun a => !decide (a ∈ wy)) corner
    omega
theorem chWays_snoc (corner : List Nat) (ways : List (List Nat)) (i : Nat) (wy : List Nat) (h : ways[i]? = some wy) : chWays corner (ways.take (i + 1)) = chWays corner (ways.take i) ++ (corner.filter fun a => !decide (a ∈ wy)).map fun a => wy ++ [a] := by
  unfold chWays
  rw [List.take_add_one, h, List.flatMap_append]; simp
theorem filter_take {P : Nat → Bool} {l : List Nat} {j a : Nat} (h : l[j]? = some a) : (l.take (j + 1)).filter P = (l.take j).filter P ++ if P a then [a] else [] := by
  rw [List.take_add_one, h, List.filter_append]
  cases hp : P a <;> simp [hp]
theorem chNext_len (meets : List (List Nat)) (ways : List (List (List Nat))) (span : Nat) : (chNext meets ways span).length = meets.length := by simp [chNext]
theorem chNext_take {meets : List (List Nat)} {ways : List (List (List Nat))} {span k : Nat} (h : k < meets.length) :
    (chNext meets ways span).take (k + 1) = (chNext meets ways span).take k ++ [chWays (meets[(k + span) % meets.length]?.getD []) (ways[k]?.getD [])] := by
  rw [List.take_add_one]
  congr 1
  unfold chNext
  rw [List.getElem?_map, List.getElem?_range h]; rfl
end
/-! Plain3 -/
section
open PySem
/-! the finite law, in a form that the kernel computes fast: ways as sets of bits, rows turned round -/
noncomputable def rot {α : Type} (l : List α) : List α := l.drop 1 ++ l.take 1
theorem rot_len {α : Type} (l : List α) : (rot l).length = l.length := by simp [rot]; omega
theorem rot_get {α : Type} (l : List α) {k : Nat} (h : k < l.length) : (rot l)[k]? = l[(k + 1) % l.length]? := by
  unfold rot
  rcases Nat.lt_or_ge (k + 1) l.length with q | q
  · rw [List.getElem?_append_left (by rw [List.length_drop]; omega), List.getElem?_drop, Nat.mod_eq_of_lt q, Nat.add_comm]
  · have e : k + 1 = l.length := by omega
    rw [List.getElem?_append_right (by rw [List.length_drop]; omega), List.length_drop, e, Nat.mod_self, show k - (l.length - 1) = 0 by omega, List.getElem?_take]
    rw [if_pos (by decide)]
noncomputable def tb (m c : Nat) : Bool := Nat.beq (Nat.land 1 (Nat.shiftRight m c)) 1
theorem tb_eq (m c : Nat) : tb m c = m.testBit c := by
  have e : tb m c = Nat.beq (1 &&& (m >>> c)) 1 := rfl
  have e2 : m.testBit c = (1 &&& (m >>> c) != 0) := rfl
  rw [e, e2, Nat.one_and_eq_mod_two]
  have := Nat.mod_lt (m >>> c) (show 0 < 2 by decide)
  have h : m >>> c % 2 = 0 ∨ m >>> c % 2 = 1 := by omega
  rcases h with h | h <;> rw [h] <;> rfl
noncomputable def mW1 (m : Nat) (rest corner : List Nat) : List Nat :=
  List.rec (motive := fun _ => List Nat) rest (fun c _ ih => Bool.rec (motive := fun _ => List Nat) (Nat.lor m (Nat.pow 2 c) :: ih) ih (tb m c)) corner
noncomputable def mWays (corner ms : List Nat) : List Nat := List.rec (motive := fun _ => List Nat) [] (fun m _ ih => mW1 m ih corner) ms
noncomputable def RB (wy : List Nat) (m : Nat) : Prop := ∀ c, decide (c ∈ wy) = m.testBit c
theorem RB.nil : RB [] 0 := fun c => by rw [Nat.zero_testBit]; rfl
theorem RB.snoc {wy : List Nat} {m a : Nat} (h : RB wy m) : RB (wy ++ [a]) (m ||| 2 ^ a) := fun c => by
  rw [Nat.testBit_or, Nat.testBit_two_pow, ← h c]
  by_cases h1 : c ∈ wy <;> by_cases h2 : a = c <;> simp [h1, h2]
  exact fun z => h2 z.symm
inductive F2 {α β : Type} (R : α → β → Prop) : List α → List β → Prop
  | nil : F2 R [] []
  | cons {a b as bs} : R a b → F2 R as bs → F2 R (a :: as) (b :: bs)
theorem F2.app {α β : Type} {R : α → β → Prop} {as as' : List α} {bs bs' : List β} (h : F2 R as bs) (h' : F2 R as' bs') : F2 R (as ++ as') (bs ++ bs') := by
  induction h with
  | nil => exact h'
  | cons r _ ih => exact .cons r ih
theorem F2.len {α β : Type} {R : α → β → Prop} {as : List α} {bs : List β} (h : F2 R as bs) : as.length = bs.length := by
  induction h with
  | nil => rfl
  | cons r _ ih => simp [ih]
theorem mW1_rel {wy : List Nat} {m : Nat} (h : RB wy m) {rs : List (List Nat)} {rest : List Nat} (hr : F2 RB rs rest) : ∀ corner : List Nat, F2 RB (((corner.filter fun a => !decide (a ∈ wy)).map fun a => wy ++ [a]) ++ rs) (mW1 m rest corner)
  | [] => hr
  | c :: corner => by
    have ih := mW1_rel h hr corner
    have e : mW1 m rest (c :: corner) = Bool.rec (motive := fun _ => List Nat) ((m ||| 2 ^ c) :: mW1 m rest corner) (mW1 m rest corner) (tb m c) := rfl
    rw [e, tb_eq, ← h c]
    by_cases hc : c ∈ wy
    · rw [List.filter_cons_of_neg (by simp [hc]), decide_eq_true hc]; exact ih
    · rw [List.filter_cons_of_pos (by simp [hc]), decide_eq_false hc]; exact .cons h.snoc ih
theorem mWays_rel (corner : List Nat) {ws : List (List Nat)} {ms : List Nat} (h : F2 RB ws ms) : F2 RB (chWays corner ws) (mWays corner ms) := by
  induction h with
  | nil => exact .nil
  | cons r _ ih =>
    have e : ∀ (a : List Nat) (as : List (List Nat)), chWays corner (a :: as) = ((corner.filter fun c => !decide (c ∈ a)).map fun c => a ++ [c]) ++ chWays corner as := fun a as => by simp [chWays]
    rw [e]
    exact mW1_rel r ih corner
noncomputable def rotN (meets : List (List Nat)) (span : Nat) : List (List Nat) := (List.range meets.length).map fun k => meets[(k + span) % meets.length]?.getD []
theorem rotN_len (meets : List (List Nat)) (span : Nat) : (rotN meets span).length = meets.length := by simp [rotN]
theorem rotN_get {meets : List (List Nat)} {span k : Nat} (h : k < meets.length) : (rotN meets span)[k]? = some (meets[(k + span) % meets.length]?.getD []) := by
  unfold rotN; rw [List.getElem?_map, List.getElem?_range h]; rfl
theorem rot_rotN (meets : List (List Nat)) (span : Nat) : rot (rotN meets span) = rotN meets (span + 1) := by
  apply List.ext_getElem?
  intro k
  rcases Nat.lt_or_ge k meets.length with h | h
  · rw [rot_get _ (by rw [rotN_len]; exact h), rotN_len, rotN_get (Nat.mod_lt _ (by omega)), rotN_get h, Nat.mod_add_mod, Nat.add_assoc, Nat.add_comm 1 span]
  · rw [List.getElem?_eq_none (by rw [rot_len, rotN_len]; exact h), List.getElem?_eq_none (by rw [rotN_len]; exact h)]
theorem rot_rotN0 (meets : List (List Nat)) : rot meets = rotN meets 1 := by
  apply List.ext_getElem?
  intro k
  rcases Nat.lt_or_ge k meets.length with h | h
  · have h2 := Nat.mod_lt (k + 1) (show 0 < meets.length by omega)
    rw [rot_get _ h, rotN_get h, List.getElem?_eq_getElem h2]; rfl
  · rw [List.getElem?_eq_none (by rw [rot_len]; exact h), List.getElem?_eq_none (by rw [rotN_len]; exact h)]
theorem chNext_zip {meets : List (List Nat)} {ways : List (List (List Nat))} {span : Nat} (h : ways.length = meets.length) : chNext meets ways span = List.zipWith chWays (rotN meets span) ways := by
  apply List.ext_getElem?
  intro k
  rw [List.getElem?_zipWith]
  rcases Nat.lt_or_ge k meets.length with q | q
  · unfold chNext
    rw [List.getElem?_map, List.getElem?_range q, rotN_get q, List.getElem?_eq_getElem (show k < ways.length by omega)]
    show some (chWays _ (ways[k]?.getD [])) = some (chWays _ _)
    rw [List.getElem?_eq_getElem (show k < ways.length by omega)]; rfl
  · rw [List.getElem?_eq_none (by rw [chNext_len]; exact q), List.getElem?_eq_none (by rw [rotN_len]; exact q)]
theorem F2.zip {rm : List (List Nat)} {ways : List (List (List Nat))} {mw : List (List Nat)} (h : F2 (F2 RB) ways mw) : F2 (F2 RB) (List.zipWith chWays rm ways) (List.zipWith mWays rm mw) := by
  induction h generalizing rm with
  | nil => cases rm <;> exact .nil
  | cons r _ ih =>
    cases rm with
    | nil => exact .nil
    | cons c rm => exact .cons (mWays_rel c r) ih
theorem F2.lens {ways : List (List (List Nat))} {mw : List (List Nat)} (h : F2 (F2 RB) ways mw) : ways.map List.length = mw.map List.length := by
  induction h with
  | nil => rfl
  | cons r _ ih => simp [r.len, ih]
noncomputable def lenR (l : List Nat) : Nat := List.rec (motive := fun _ => Nat) 0 (fun _ _ ih => Nat.succ ih) l
theorem lenR_eq : ∀ l : List Nat, lenR l = l.length
  | [] => rfl
  | _ :: l => congrArg Nat.succ (lenR_eq l)
noncomputable def okLen (mw : List (List Nat)) : List Nat → Bool :=
  List.rec (motive := fun _ => List Nat → Bool) (fun bs => List.rec (motive := fun _ => Bool) true (fun _ _ _ => false) bs)
    (fun a _ ih bs => List.rec (motive := fun _ => Bool) false (fun b bs _ => Bool.rec (motive := fun _ => Bool) false (Bool.rec (motive := fun _ => Bool) false (ih bs) (Nat.ble b 1000)) (Nat.beq (lenR a) b)) bs) mw
theorem okLen_eq : ∀ {mw : List (List Nat)} {l : List Nat}, okLen mw l = true → mw.map List.length = l ∧ ∀ x ∈ l, x ≤ 1000
  | [], [], _ => ⟨rfl, fun _ h => nomatch h⟩
  | [], _ :: _, h => by cases h
  | _ :: _, [], h => by cases h
  | a :: as, b :: bs, h => by
    have e : okLen (a :: as) (b :: bs) = Bool.rec (motive := fun _ => Bool) false (Bool.rec (motive := fun _ => Bool) false (okLen as bs) (Nat.ble b 1000)) (Nat.beq (lenR a) b) := rfl
    rw [e] at h
    cases h1 : Nat.beq (lenR a) b with
    | false => rw [h1] at h; cases h
    | true =>
      cases h2 : Nat.ble b 1000 with
      | false => rw [h1, h2] at h; cases h
      | true =>
        rw [h1, h2] at h
        obtain ⟨q1, q2⟩ := okLen_eq h
        have q3 := Nat.eq_of_beq_eq_true h1
        rw [lenR_eq] at q3
        refine ⟨by rw [List.map_cons, q1, q3], fun x hx => ?_⟩
        rcases List.mem_cons.mp hx with rfl | hx
        · exact Nat.le_of_ble_eq_true h2
        · exact q2 x hx
noncomputable def zipM (rm : List (List Nat)) : List (List Nat) → List (List Nat) :=
  List.rec (motive := fun _ => List (List Nat) → List (List Nat)) (fun _ => []) (fun a _ ih bs => List.rec (motive := fun _ => List (List Nat)) [] (fun b bs _ => mWays a b :: ih bs) bs) rm
theorem zipM_eq : ∀ rm mw : List (List Nat), zipM rm mw = List.zipWith mWays rm mw
  | [], _ => by cases ‹List (List Nat)› <;> rfl
  | _ :: _, [] => rfl
  | a :: rm, b :: mw => by
    have e : zipM (a :: rm) (b :: mw) = mWays a b :: zipM rm mw := rfl
    rw [e, zipM_eq rm mw]; rfl
noncomputable def rotR (l : List (List Nat)) : List (List Nat) := List.rec (motive := fun _ => List (List Nat)) [] (fun a t _ => List.rec (motive := fun _ => List (List Nat)) [a] (fun b _ ih => b :: ih) t) l
theorem rotR_eq (l : List (List Nat)) : rotR l = rot l := by
  cases l with
  | nil => rfl
  | cons a t =>
    have e : ∀ t : List (List Nat), List.rec (motive := fun _ => List (List Nat)) [a] (fun b _ ih => b :: ih) t = t ++ [a] := fun t => by
      induction t with
      | nil => rfl
      | cons b t ih => exact congrArg (b :: ·) ih
    exact e t
noncomputable def cRun : Nat → List (List Nat) → List (List Nat) → List (List Nat) → Bool
  | 0, _, _, Ls => Ls.isEmpty
  | j + 1, rm, mw, Ls => match Ls with
    | [] => false
    | l :: Ls => Bool.rec (motive := fun _ => Bool) false (cRun j (rotR rm) (zipM rm mw) Ls) (okLen mw l)
theorem chWays_word {corner : List Nat} {ws : List (List Nat)} {w : List Nat} (h : w ∈ chWays corner ws) : ∃ v ∈ ws, w.length = v.length + 1 := by
  unfold chWays at h
  obtain ⟨v, hv, h⟩ := List.mem_flatMap.mp h
  obtain ⟨a, _, rfl⟩ := List.mem_map.mp h
  exact ⟨v, hv, by simp⟩
theorem zip_mem {α β γ : Type} {f : α → β → γ} {as : List α} {bs : List β} {c : γ} (h : c ∈ List.zipWith f as bs) : ∃ a b, b ∈ bs ∧ c = f a b := by
  induction as generalizing bs with
  | nil => simp at h
  | cons a as ih =>
    cases bs with
    | nil => simp at h
    | cons b bs =>
      rw [List.zipWith_cons_cons] at h
      rcases List.mem_cons.mp h with h | h
      · exact ⟨a, b, .head _, h⟩
      · obtain ⟨a, b, hb, e⟩ := ih h; exact ⟨a, b, .tail _ hb, e⟩
theorem cRun_sound {meets : List (List Nat)} : ∀ (j span : Nat) (lines : List (List Nat)) (ways : List (List (List Nat))) (mw Ls : List (List Nat)), F2 (F2 RB) ways mw → ways.length = meets.length → (∀ ws ∈ ways, ∀ w ∈ ws, w.length + 1 = span) → span + j ≤ 100 →
    cRun j (rotN meets span) mw Ls = true → chRun meets j span lines ways = some (lines ++ Ls)
  | 0, span, lines, ways, mw, Ls, _, _, _, _, h => by
    unfold cRun at h
    unfold chRun
    rw [List.isEmpty_iff.mp h, List.append_nil]
  | j + 1, span, lines, ways, mw, Ls, hF, hl, hw, hj, h => by
    unfold cRun at h
    match Ls, h with
    | l :: Ls, h =>
      have h3 : okLen mw l = true ∧ cRun j (rotR (rotN meets span)) (zipM (rotN meets span) mw) Ls = true := by
        cases hq : okLen mw l with
        | false => simp only [hq] at h; cases h
        | true => simp only [hq] at h; exact ⟨rfl, h⟩
      obtain ⟨h1, h3⟩ := h3
      rw [rotR_eq, zipM_eq] at h3
      obtain ⟨e1, h2⟩ := okLen_eq h1
      rw [← hF.lens] at e1
      have hok : chOk ways = true := by
        unfold chOk
        rw [List.all_eq_true]
        intro ws hws
        rw [Bool.and_eq_true, List.all_eq_true]
        refine ⟨decide_eq_true ?_, fun w hw' => decide_eq_true ?_⟩
        · exact h2 ws.length (by rw [← e1]; exact List.mem_map_of_mem hws)
        · have := hw ws hws w hw'; omega
      unfold chRun
      rw [if_pos hok, chNext_zip hl, e1]
      rw [rot_rotN] at h3
      have := cRun_sound j (span + 1) (lines ++ [l]) _ _ Ls (hF.zip (rm := rotN meets span)) (by rw [List.length_zipWith, rotN_len, hl, Nat.min_self]) (fun ws hws w hw' => by
        obtain ⟨c, ws', hm, rfl⟩ := zip_mem hws
        obtain ⟨v, hv, e⟩ := chWays_word hw'
        have := hw ws' hm v hv; omega) (by omega) h3
      rw [this, List.append_assoc]; rfl
theorem rep_rel : ∀ n : Nat, F2 (F2 RB) (List.replicate n [[]]) (List.replicate n [0])
  | 0 => .nil
  | n + 1 => .cons (.cons RB.nil .nil) (rep_rel n)
theorem choices_of {meets Ls : List (List Nat)} (hl : meets.length ≤ 99) (h : cRun (meets.length - 1) (rot meets) (List.replicate meets.length [0]) Ls = true) : choices meets = some Ls := by
  unfold choices
  rw [rot_rotN0] at h
  exact cRun_sound (meets.length - 1) 1 [] _ _ Ls (rep_rel _) (by simp) (fun ws hws w hw => by
    rw [(List.mem_replicate.mp hws).2] at hw
    rw [List.mem_singleton.mp hw]; rfl) (by omega) h
/-! the frieze -/
noncomputable def fNx (line rl ra : List Nat) : List Nat :=
  List.rec (motive := fun _ => List Nat → List Nat → List Nat) (fun _ _ => []) (fun a _ ih rl ra => List.rec (motive := fun _ => List Nat) [] (fun b rl _ => List.rec (motive := fun _ => List Nat) [] (fun c ra _ => Nat.div (Nat.sub (Nat.mul a b) 1) c :: ih rl ra) ra) rl) line rl ra
noncomputable def fOk (line rl ra : List Nat) : Bool :=
  List.rec (motive := fun _ => List Nat → List Nat → Bool) (fun _ _ => true) (fun a _ ih rl ra => List.rec (motive := fun _ => Bool) false (fun b rl _ => List.rec (motive := fun _ => Bool) false (fun c ra _ =>
    and (Nat.ble 1 c) (and (Nat.ble c 999) (and (Nat.ble a 999) (and (Nat.ble b 999) (and (Nat.ble 1 (Nat.mul a b)) (and (Nat.beq (Nat.mod (Nat.sub (Nat.mul a b) 1) c) 0) (ih rl ra))))))) ra) rl) line rl ra
theorem fNx_get : ∀ (line rl ra : List Nat) (k : Nat), rl.length = line.length → ra.length = line.length → k < line.length → (fNx line rl ra)[k]? = some ((line[k]?.getD 0 * rl[k]?.getD 0 - 1) / ra[k]?.getD 0)
  | a :: line, b :: rl, c :: ra, 0, _, _, _ => rfl
  | a :: line, b :: rl, c :: ra, k + 1, h1, h2, h => by
    have e : fNx (a :: line) (b :: rl) (c :: ra) = ((a * b - 1) / c) :: fNx line rl ra := rfl
    rw [e]
    simp only [List.getElem?_cons_succ]
    exact fNx_get line rl ra k (by simpa using h1) (by simpa using h2) (by simpa using h)
  | [], _, _, k, _, _, h => by simp at h
  | _ :: _, [], _, _, h1, _, _ => by simp at h1
  | _ :: _, _ :: _, [], _, _, h2, _ => by simp at h2
theorem fNx_len : ∀ (line rl ra : List Nat), rl.length = line.length → ra.length = line.length → (fNx line rl ra).length = line.length
  | a :: line, b :: rl, c :: ra, h1, h2 => by
    have e : fNx (a :: line) (b :: rl) (c :: ra) = ((a * b - 1) / c) :: fNx line rl ra := rfl
    rw [e, List.length_cons, List.length_cons, fNx_len line rl ra (by simpa using h1) (by simpa using h2)]
  | [], _, _, _, _ => rfl
  | _ :: _, [], _, h1, _ => by simp at h1
  | _ :: _, _ :: _, [], _, h2 => by simp at h2
theorem fOk_get : ∀ (line rl ra : List Nat) (k : Nat), fOk line rl ra = true → k < line.length → 1 ≤ ra[k]?.getD 0 ∧ ra[k]?.getD 0 ≤ 999 ∧ line[k]?.getD 0 ≤ 999 ∧ rl[k]?.getD 0 ≤ 999 ∧ 1 ≤ line[k]?.getD 0 * rl[k]?.getD 0 ∧ (line[k]?.getD 0 * rl[k]?.getD 0 - 1) % ra[k]?.getD 0 = 0
  | a :: line, b :: rl, c :: ra, k, h, hk => by
    have e : fOk (a :: line) (b :: rl) (c :: ra) = (Nat.ble 1 c && (Nat.ble c 999 && (Nat.ble a 999 && (Nat.ble b 999 && (Nat.ble 1 (a * b) && (Nat.beq ((a * b - 1) % c) 0 && fOk line rl ra)))))) := rfl
    rw [e] at h
    simp only [Bool.and_eq_true] at h
    obtain ⟨h1, h2, h3, h4, h5, h6, h7⟩ := h
    cases k with
    | zero => exact ⟨Nat.le_of_ble_eq_true h1, Nat.le_of_ble_eq_true h2, Nat.le_of_ble_eq_true h3, Nat.le_of_ble_eq_true h4, Nat.le_of_ble_eq_true h5, Nat.eq_of_beq_eq_true h6⟩
    | succ k =>
      simp only [List.getElem?_cons_succ]
      exact fOk_get line rl ra k h7 (by simpa using hk)
  | [], _, _, k, _, h => by simp at h
  | _ :: _, [], _, _, h, _ => by cases h
  | _ :: _, _ :: _, [], _, h, _ => by cases h
theorem nx_rot {l : List Nat} {k : Nat} (h : k < l.length) : nx l k = (rot l)[k]?.getD 0 := by unfold nx; rw [rot_get l h]
theorem friNext_of {above line : List Nat} (h : above.length = line.length) : friNext above line = fNx line (rot line) (rot above) := by
  apply List.ext_getElem?
  intro k
  rcases Nat.lt_or_ge k line.length with q | q
  · rw [fNx_get line _ _ k (rot_len _) (by rw [rot_len, h]) q]
    unfold friNext
    rw [List.getElem?_map, List.getElem?_range q]
    show some ((line[k]?.getD 0 * nx line k - 1) / nx above k) = some _
    rw [nx_rot q, nx_rot (by omega)]
  · rw [List.getElem?_eq_none (by rw [friNext_len]; exact q), List.getElem?_eq_none (by rw [fNx_len line _ _ (rot_len _) (by rw [rot_len, h])]; exact q)]
theorem friOk_of {above line : List Nat} (h : above.length = line.length) (hk : fOk line (rot line) (rot above) = true) : friOk above line = true := by
  unfold friOk
  rw [Bool.and_eq_true, List.all_eq_true]
  refine ⟨beq_iff_eq.mpr h, fun k hm => ?_⟩
  have q := List.mem_range.mp hm
  obtain ⟨h1, h2, h3, h4, h5, h6⟩ := fOk_get line _ _ k hk q
  rw [nx_rot q, nx_rot (show k < above.length by omega)]
  simp only [Bool.and_eq_true, decide_eq_true_eq, beq_iff_eq]
  exact ⟨⟨⟨⟨⟨by omega, by omega⟩, by omega⟩, by omega⟩, by omega⟩, h6⟩
noncomputable def fRun : Nat → List Nat → List Nat → Option (List (List Nat))
  | 0, _, _ => some []
  | j + 1, above, line => match fOk line (rot line) (rot above) with
    | true => match fRun j line (fNx line (rot line) (rot above)) with
      | some r => some (fNx line (rot line) (rot above) :: r)
      | none => none
    | false => none
theorem fRun_sound : ∀ (j : Nat) (acc : List (List Nat)) (above line : List Nat) (r : List (List Nat)), above.length = line.length → fRun j above line = some r → friRun j acc above line = some (acc ++ r)
  | 0, acc, above, line, r, _, h => by unfold fRun at h; cases h; unfold friRun; rw [List.append_nil]
  | j + 1, acc, above, line, r, hl, h => by
    unfold fRun at h
    split at h
    · rename_i hk
      split at h
      · rename_i r' hr
        cases h
        unfold friRun
        rw [if_pos (friOk_of hl hk), friNext_of hl, fRun_sound j _ _ _ r' (by rw [fNx_len line _ _ (rot_len _) (by rw [rot_len, hl])]) hr, List.append_assoc]; rfl
      · cases h
    · cases h
/-! all the polygons -/
noncomputable def growP (W : List (List Nat)) (p : Nat) : List (List Nat) :=
  let q := (p + 1) % W.length
  let c := 95 + W.length
  let V := addAt (addAt W p c) q c
  V.take (p + 1) ++ [c] :: V.drop (p + 1)
theorem grow_growP (W : List (List Nat)) (x : Nat) : grow W x = growP W (x % W.length) := rfl
noncomputable def lettersN (n : Nat) : List Nat := (List.range (n - 2)).map fun k => 97 + k
noncomputable def dotsOf (W : List (List Nat)) : List Nat := W.map List.length
noncomputable def meetsOf (W : List (List Nat)) : List (List Nat) := W.map fun w => (lettersN W.length).filter fun c => decide (c ∈ w)
noncomputable def chkW (W : List (List Nat)) : Bool := match fRun (W.length - 3) (List.replicate W.length 1) (rot (dotsOf W)) with
  | some r => cRun (W.length - 1) (rot (meetsOf W)) (List.replicate W.length [0]) (List.replicate W.length 1 :: rot (dotsOf W) :: r)
  | none => false
theorem law_of {W : List (List Nat)} (hW : W.length ≤ 99) (h : chkW W = true) : ∃ Ls, frieze (dotsOf W) = some Ls ∧ choices (meetsOf W) = some Ls := by
  unfold chkW at h
  split at h
  · rename_i r hr
    have ld : (dotsOf W).length = W.length := by simp [dotsOf]
    have lm : (meetsOf W).length = W.length := by simp [meetsOf]
    refine ⟨_, ?_, choices_of (by rw [lm]; exact hW) (by rw [lm]; exact h)⟩
    unfold frieze
    rw [ld]
    exact fRun_sound _ _ _ _ r (by rw [List.length_replicate]; exact (rot_len _ |>.trans ld).symm) hr
  · cases h
theorem growP_len (W : List (List Nat)) (p : Nat) (h : p < W.length) : (growP W p).length = W.length + 1 := by
  unfold growP
  simp [addAt_len]
  omega
theorem chk2 : ((List.range 3).all fun p1 => (List.range 4).all fun p2 => chkW (growP (growP W0 p1) p2)) = true := by decide +kernel
theorem chk3 : ((List.range 3).all fun p1 => (List.range 4).all fun p2 => (List.range 5).all fun p3 => chkW (growP (growP (growP W0 p1) p2) p3)) = true := by decide +kernel
theorem chk4a : ((List.range 4).all fun p2 => (List.range 5).all fun p3 => (List.range 6).all fun p4 => chkW (growP (growP (growP (growP W0 0) p2) p3) p4)) = true := by decide +kernel
theorem chk4b : ((List.range 4).all fun p2 => (List.range 5).all fun p3 => (List.range 6).all fun p4 => chkW (growP (growP (growP (growP W0 1) p2) p3) p4)) = true := by decide +kernel
theorem chk4c : ((List.range 4).all fun p2 => (List.range 5).all fun p3 => (List.range 6).all fun p4 => chkW (growP (growP (growP (growP W0 2) p2) p3) p4)) = true := by decide +kernel
theorem chk4 {p1 : Nat} (h : p1 < 3) : ((List.range 4).all fun p2 => (List.range 5).all fun p3 => (List.range 6).all fun p4 => chkW (growP (growP (growP (growP W0 p1) p2) p3) p4)) = true := by
  have : p1 = 0 ∨ p1 = 1 ∨ p1 = 2 := by omega
  rcases this with rfl | rfl | rfl
  · exact chk4a
  · exact chk4b
  · exact chk4c
theorem law_plain {X : List Nat} (h2 : 2 ≤ X.length) (h4 : X.length ≤ 4) : ∃ Ls, frieze (dotsOf (growAll X)) = some Ls ∧ choices (meetsOf (growAll X)) = some Ls := by
  have c2 := chk2
  have c3 := chk3
  simp only [List.all_eq_true, List.mem_range] at c2 c3
  have l0 : W0.length = 3 := rfl
  match X, h2, h4 with
  | [a, b], _, _ =>
    have h0 := Nat.mod_lt a (show 0 < 3 by decide)
    have h1 := Nat.mod_lt b (show 0 < 4 by decide)
    have l1 : (growP W0 (a % 3)).length = 4 := growP_len W0 (a % 3) h0
    have e : growAll [a, b] = growP (growP W0 (a % 3)) (b % 4) := by
      show grow (grow W0 a) b = _
      rw [grow_growP, grow_growP, l0, l1]
    rw [e]
    exact law_of (by rw [growP_len _ _ (by rw [l1]; exact h1), l1]; decide) (c2 _ h0 _ h1)
  | [a, b, c], _, _ =>
    have h0 := Nat.mod_lt a (show 0 < 3 by decide)
    have h1 := Nat.mod_lt b (show 0 < 4 by decide)
    have h2 := Nat.mod_lt c (show 0 < 5 by decide)
    have l1 : (growP W0 (a % 3)).length = 4 := growP_len W0 (a % 3) h0
    have l2 : (growP (growP W0 (a % 3)) (b % 4)).length = 5 := by rw [growP_len _ _ (by rw [l1]; exact h1), l1]
    have e : growAll [a, b, c] = growP (growP (growP W0 (a % 3)) (b % 4)) (c % 5) := by
      show grow (grow (grow W0 a) b) c = _
      rw [grow_growP, grow_growP, grow_growP, l0, l1, l2]
    rw [e]
    exact law_of (by rw [growP_len _ _ (by rw [l2]; exact h2), l2]; decide) (c3 _ h0 _ h1 _ h2)
  | [a, b, c, d], _, _ =>
    have h0 := Nat.mod_lt a (show 0 < 3 by decide)
    have h1 := Nat.mod_lt b (show 0 < 4 by decide)
    have h2 := Nat.mod_lt c (show 0 < 5 by decide)
    have h3 := Nat.mod_lt d (show 0 < 6 by decide)
    have c4 := chk4 h0
    simp only [List.all_eq_true, List.mem_range] at c4
    have l1 : (growP W0 (a % 3)).length = 4 := growP_len W0 (a % 3) h0
    have l2 : (growP (growP W0 (a % 3)) (b % 4)).length = 5 := by rw [growP_len _ _ (by rw [l1]; exact h1), l1]
    have l3 : (growP (growP (growP W0 (a % 3)) (b % 4)) (c % 5)).length = 6 := by rw [growP_len _ _ (by rw [l2]; exact h2), l2]
    have e : growAll [a, b, c, d] = growP (growP (growP (growP W0 (a % 3)) (b % 4)) (c % 5)) (d % 6) := by
      show grow (grow (grow (grow W0 a) b) c) d = _
      rw [grow_growP, grow_growP, grow_growP, grow_growP, l0, l1, l2, l3]
    rw [e]
    exact law_of (by rw [growP_len _ _ (by rw [l3]; exact h3), l3]; decide) (c4 _ h1 _ h2 _ h3)
end
/-! Sre1 -/
section
open PySem PySem.Sre
noncomputable def code1 : Array Nat := #[14, 4, 0, 1, 1, 6, 1, 16, 46, 1]
noncomputable def MT (code t : Array Nat) (p : Nat) (ma om : Bool) (pc pos handed wt : Nat) (fr : List Sre.Frame) (ans : Option Bool) (seen : Seen) : M :=
  { code := code, text := t, lim := t.size, start := p, lastStart := t.size, mustAdvance := ma, pc := pc, pos := pos, handed := handed, outermost := om, marks := #[], frames := fr, weight := wt, answer := ans, seen := seen }
noncomputable def F0 (pc p : Nat) (fst : Bool) : Sre.Frame := { wait := .nextStart, pc := pc, pos := p, outermost := fst }
noncomputable def FB (p k : Nat) (fst : Bool) : Sre.Frame := { wait := .nextBranch, pc := k, pos := p, outermost := fst, kept := {} }
noncomputable def FL (p : Nat) (fst : Bool) : Sre.Frame := { wait := .lookNot, pc := 26, pos := p, outermost := fst, kept := {} }
noncomputable def S1 (t : Array Nat) (seen : Seen) (fst : Bool) (s : Nat) (ma : Bool) : M := MT code1 t s ma fst 5 s s 1 [F0 5 s fst] none seen
theorem rf {n : Nat} {m m' : M} (ho : m.outcome = none) (e : m.step = m') : M.runFor (n + 1) m = M.runFor n m' := by
  show (if m.outcome.isSome then m else M.runFor n m.step) = _
  rw [ho, e]; rfl
/-- a literal -/
noncomputable def LitAt (code : Array Nat) (pc w : Nat) : Prop := ∀ (t : Array Nat) (p : Nat) (ma om : Bool) (pos hd wt : Nat) (fr : List Sre.Frame) (seen : Seen),
  M.step (MT code t p ma om pc pos hd wt fr none seen) = if pos ≥ t.size then MT code t p ma om pc pos hd wt fr (some false) (seen.add 16) else
    cond (t.getD pos 0 == w) (MT code t p ma om (pc + 2) (pos + 1) hd wt fr none (seen.add 16)) (MT code t p ma om pc pos hd wt fr (some false) (seen.add 16))
/-- the end of the code -/
noncomputable def EndAt (code : Array Nat) (pc : Nat) : Prop := ∀ (t : Array Nat) (p : Nat) (ma om : Bool) (pos hd wt : Nat) (fr : List Sre.Frame) (seen : Seen),
  M.step (MT code t p ma om pc pos hd wt fr none seen) = if (om && ((false && pos != t.size) || (ma && pos == p))) = true then MT code t p ma om pc pos hd wt fr (some false) (seen.add 1) else MT code t p ma om pc pos pos wt fr (some true) (seen.add 1)
section
variable {code t : Array Nat} {pc w p pos hd wt : Nat} {ma om : Bool} {fr : List Sre.Frame} {seen : Seen}
theorem lit_yes (h : LitAt code pc w) (hp : pos < t.size) (e : t.getD pos 0 = w) : M.step (MT code t p ma om pc pos hd wt fr none seen) = MT code t p ma om (pc + 2) (pos + 1) hd wt fr none (seen.add 16) := by
  rw [h, if_neg (Nat.not_le_of_lt hp), e, beq_self_eq_true]; rfl
theorem lit_no (h : LitAt code pc w) (e : (t.getD pos 0 == w) = false) : M.step (MT code t p ma om pc pos hd wt fr none seen) = MT code t p ma om pc pos hd wt fr (some false) (seen.add 16) := by
  rw [h, e]
  split <;> rfl
theorem end_yes (h : EndAt code pc) (e : (om && ((false && pos != t.size) || (ma && pos == p))) = false) : M.step (MT code t p ma om pc pos hd wt fr none seen) = MT code t p ma om pc pos pos wt fr (some true) (seen.add 1) := by
  rw [h, e]; rfl
theorem out_step (yes : Bool) : M.step (MT code t p ma om pc pos hd wt [] (some yes) seen) = { MT code t p ma om pc pos hd wt [] (some yes) seen with outcome := some (if yes then .matched else .failed) } := rfl
end
theorem lit7 : LitAt code1 7 46 := by intro t p ma om pos hd wt fr seen; kernel_rfl
theorem end9 : EndAt code1 9 := by intro t p ma om pos hd wt fr seen; kernel_rfl
theorem run_add : ∀ (a b : Nat) (m : M), M.runFor (a + b) m = M.runFor b (M.runFor a m)
  | 0, b, m => by rw [Nat.zero_add]; rfl
  | a + 1, b, m => by
    rw [show a + 1 + b = (a + b) + 1 by omega]
    show (if m.outcome.isSome then m else M.runFor (a + b) m.step) = M.runFor b (if m.outcome.isSome then m else M.runFor a m.step)
    split
    · rename_i h
      cases b with
      | zero => rfl
      | succ b => show _ = (if m.outcome.isSome then m else _); rw [if_pos h]
    · exact run_add a b m.step
section
variable (t : Array Nat) (seen : Seen) (fst : Bool) (s : Nat) (ma : Bool)
theorem s1_step : M.step (S1 t seen fst s ma) = if (s == 0 || t.getD (s - 1) 0 == 10) = true then MT code1 t s ma fst 7 s s 1 [F0 5 s fst] none ((seen.add 6).add 44) else MT code1 t s ma fst 5 s s 1 [F0 5 s fst] (some false) ((seen.add 6).add 44) := by kernel_rfl
theorem s1_stepF (h : (s == 0 || t.getD (s - 1) 0 == 10) = false) : M.step (S1 t seen fst s ma) = MT code1 t s ma fst 5 s s 1 [F0 5 s fst] (some false) ((seen.add 6).add 44) := by
  rw [s1_step, h]; rfl
theorem s1_stepT (h : (s == 0 || t.getD (s - 1) 0 == 10) = true) : M.step (S1 t seen fst s ma) = MT code1 t s ma fst 7 s s 1 [F0 5 s fst] none ((seen.add 6).add 44) := by
  rw [s1_step, h]; rfl
theorem s1_over (hd pos pc : Nat) (om : Bool) : M.step (MT code1 t s ma om pc pos hd 1 [F0 5 s fst] (some false) seen) = if s < t.size then S1 t seen false (s + 1) false else MT code1 t s ma fst 5 s hd 0 [] (some false) seen := by kernel_rfl
theorem s1_next (hs : s < t.size) (hd pos pc : Nat) (om : Bool) : M.step (MT code1 t s ma om pc pos hd 1 [F0 5 s fst] (some false) seen) = S1 t seen false (s + 1) false := by
  rw [s1_over, if_pos hs]
theorem s1_at (h : (s == 0 || t.getD (s - 1) 0 == 10) = false) (hs : s < t.size) :
    ∃ seen', M.runFor 2 (S1 t seen fst s ma) = S1 t seen' false (s + 1) false := by
  refine ⟨(seen.add 6).add 44, ?_⟩
  rw [rf rfl (s1_stepF t seen fst s ma h), rf rfl (s1_next t _ fst s ma hs _ _ _ _)]; rfl
theorem get_of (hs : s < t.size) : t.getD s 0 = t[s] := by rw [Array.getD_eq_getD_getElem?, Array.getElem?_eq_getElem hs]; rfl
theorem s1_lit (h : (s == 0 || t.getD (s - 1) 0 == 10) = true) (hs : s < t.size) (hl : (t[s] == 46) = false) :
    ∃ seen', M.runFor 3 (S1 t seen fst s ma) = S1 t seen' false (s + 1) false := by
  refine ⟨((seen.add 6).add 44).add 16, ?_⟩
  rw [rf rfl (s1_stepT t seen fst s ma h), rf rfl (lit_no lit7 (by rw [get_of t s hs]; exact hl)), rf rfl (s1_next t _ fst s ma hs _ _ _ _)]; rfl
theorem s1_yes (h : (s == 0 || t.getD (s - 1) 0 == 10) = true) (hs : s < t.size) (hl : (t[s] == 46) = true) :
    ∃ m, M.runFor 5 (S1 t seen fst s ma) = m ∧ m.outcome = some .matched ∧ m.start = s ∧ m.handed = s + 1 := by
  refine ⟨_, rfl, ?_⟩
  rw [rf rfl (s1_stepT t seen fst s ma h), rf rfl (lit_yes lit7 hs (by rw [get_of t s hs]; exact eq_of_beq hl)), rf rfl (end_yes end9 (by
    have e : (s + 1 == s) = false := beq_false_of_ne (by omega)
    rw [e]; cases fst <;> cases ma <;> rfl))]
  rw [rf (m' := MT code1 t s ma fst 5 s (s + 1) 0 [] (some true) ((((seen.add 6).add 44).add 16).add 1)) rfl (by kernel_rfl), rf rfl (out_step true)]
  exact ⟨rfl, rfl, rfl⟩
end
theorem s1_end (t : Array Nat) (seen : Seen) (fst : Bool) (ma : Bool) (h : (t.size == 0 || t.getD (t.size - 1) 0 == 10) = false) :
    ∃ m, M.runFor 3 (S1 t seen fst t.size ma) = m ∧ m.outcome = some .failed := by
  refine ⟨_, rfl, ?_⟩
  rw [rf rfl (s1_stepF t seen fst t.size ma h), rf (m' := MT code1 t t.size ma fst 5 t.size t.size 0 [] (some false) ((seen.add 6).add 44)) rfl (by rw [s1_over, if_neg (Nat.lt_irrefl _)]), rf rfl (out_step false)]
  rfl

/-- what a search finds -/
noncomputable def Finds (m0 : M) (r : Option (Nat × Nat)) : Prop := ∃ N m, N ≤ 2 ^ 64 ∧ M.runFor N m0 = m ∧ (match r with | some (s, e) => m.outcome = some .matched ∧ m.start = s ∧ m.handed = e | none => m.outcome = some .failed)
noncomputable def hit1 (t : Array Nat) (q : Nat) : Bool := (q == 0 || t.getD (q - 1) 0 == 10) && t.getD q 0 == 46
theorem s1_skip (t : Array Nat) : ∀ (k : Nat) (seen : Seen) (fst : Bool) (s : Nat) (ma : Bool), s + k ≤ t.size → (∀ q, s ≤ q → q < s + k → hit1 t q = false) → 0 < k →
    ∃ N seen', N ≤ 3 * k ∧ M.runFor N (S1 t seen fst s ma) = S1 t seen' false (s + k) false
  | 0, seen, fst, s, ma, hsz, h, h0 => absurd h0 (Nat.lt_irrefl _)
  | k + 1, seen, fst, s, ma, hsz, h, _ => by
    have one : ∃ N seen', N ≤ 3 ∧ M.runFor N (S1 t seen fst s ma) = S1 t seen' false (s + 1) false := by
      have hq := h s (Nat.le_refl _) (by omega)
      cases ha : (s == 0 || t.getD (s - 1) 0 == 10) with
      | false => obtain ⟨sn, e⟩ := s1_at t seen fst s ma ha (by omega); exact ⟨2, sn, by decide, e⟩
      | true =>
        unfold hit1 at hq
        rw [ha, Bool.true_and] at hq
        obtain ⟨sn, e⟩ := s1_lit t seen fst s ma ha (by omega) (by rw [Array.getD_eq_getD_getElem?, Array.getElem?_eq_getElem (show s < t.size by omega)] at hq; exact hq); exact ⟨3, sn, by decide, e⟩
    obtain ⟨N, sn, hN, e⟩ := one
    rcases Nat.eq_zero_or_pos k with q | q
    · subst q; exact ⟨N, sn, by omega, e⟩
    · obtain ⟨N2, sn2, hN2, e2⟩ := s1_skip t k sn false (s + 1) false (by omega) (fun q h1 h2 => h q (by omega) (by omega)) q
      refine ⟨N + N2, sn2, by omega, ?_⟩
      rw [run_add, e, e2, show s + 1 + k = s + (k + 1) by omega]
theorem forSearch_eq (code text : Array Nat) (groups pos lim : Nat) (ma : Bool) : forSearch code text groups pos lim ma =
    if pos > lim || lim - pos < (header code).1 then
      M.say { code, text, lim, start := pos, pc := (header code).2, pos, handed := pos, marks := Array.replicate (2 * groups) none, mustAdvance := ma, seen := (if (header code).2 == 0 then {} else ({} : Seen).add 14) } false
    else M.attemptFrom { code, text, lim, start := pos, pc := (header code).2, pos, handed := pos, marks := Array.replicate (2 * groups) none, mustAdvance := ma, seen := (if (header code).2 == 0 then {} else ({} : Seen).add 14), lastStart := if (header code).1 > 1 && !((header code).2 != 0 && code.getD 2 0 &&& 5 != 0) then max pos (lim - ((header code).1 - 1)) else lim } pos true := rfl
theorem hdr1 : header code1 = (1, 5) := by decide
theorem s1_search (t : Array Nat) (s : Nat) (ma : Bool) (hs : s < t.size) : ∃ seen, forSearch code1 t 0 s t.size ma = S1 t seen true s ma := by
  refine ⟨({} : Seen).add 14, ?_⟩
  rw [forSearch_eq, hdr1, if_neg (by simp; omega)]
  rfl
theorem s1_none (t : Array Nat) (s : Nat) (ma : Bool) (hs : t.size ≤ s) : ∃ m, forSearch code1 t 0 s t.size ma = m ∧ m.frames = [] ∧ m.answer = some false ∧ m.outcome = none := by
  refine ⟨_, rfl, ?_⟩
  rw [forSearch_eq, hdr1, if_pos (by simp; omega)]
  exact ⟨rfl, rfl, rfl⟩
theorem find1_some (t : Array Nat) (s p : Nat) (ma : Bool) (hp : s ≤ p) (hpt : p < t.size) (ht : t.size ≤ 1000000) (hq : ∀ q, s ≤ q → q < p → hit1 t q = false) (hh : hit1 t p = true) : Finds (forSearch code1 t 0 s t.size ma) (some (p, p + 1)) := by
  obtain ⟨seen, e⟩ := s1_search t s ma (by omega)
  rw [e]
  have fin : ∀ seen fst ma, ∃ m, M.runFor 5 (S1 t seen fst p ma) = m ∧ m.outcome = some .matched ∧ m.start = p ∧ m.handed = p + 1 := fun seen fst ma => by
    unfold hit1 at hh
    rw [Bool.and_eq_true] at hh
    refine s1_yes t seen fst p ma hh.1 hpt ?_
    have h2 := hh.2
    rw [Array.getD_eq_getD_getElem?, Array.getElem?_eq_getElem hpt] at h2
    exact h2
  rcases Nat.eq_or_lt_of_le hp with q | q
  · subst q
    obtain ⟨m, e1, e2⟩ := fin seen true ma
    exact ⟨5, m, by decide, e1, e2⟩
  · obtain ⟨N, sn, hN, e1⟩ := s1_skip t (p - s) seen true s ma (by omega) (fun q h1 h2 => hq q h1 (by omega)) (by omega)
    rw [show s + (p - s) = p by omega] at e1
    obtain ⟨m, e2, e3⟩ := fin sn false false
    exact ⟨N + 5, m, by omega, by rw [run_add, e1, e2], e3⟩
theorem find1_none (t : Array Nat) (s : Nat) (ma : Bool) (ht : t.size ≤ 1000000) (hq : ∀ q, s ≤ q → q < t.size → hit1 t q = false) (he : (t.size == 0 || t.getD (t.size - 1) 0 == 10) = false) : Finds (forSearch code1 t 0 s t.size ma) none := by
  rcases Nat.lt_or_ge s t.size with q | q
  · obtain ⟨seen, e⟩ := s1_search t s ma q
    obtain ⟨N, sn, hN, e1⟩ := s1_skip t (t.size - s) seen true s ma (by omega) (fun q h1 h2 => hq q h1 (by omega)) (by omega)
    rw [show s + (t.size - s) = t.size by omega] at e1
    obtain ⟨m, e2, e3⟩ := s1_end t sn false false he
    exact ⟨N + 3, m, by omega, by rw [e, run_add, e1, e2], e3⟩
  · obtain ⟨m, e, h1, h2, h3⟩ := s1_none t s ma q
    refine ⟨1, _, by decide, rfl, ?_⟩
    rw [e]
    show (M.runFor 1 m).outcome = _
    unfold M.runFor
    rw [h3, if_neg (by decide)]
    unfold M.runFor M.step
    rw [h3, h1, h2]
    rfl
end
/-! Sre2 -/
section
open PySem PySem.Sre
noncomputable def code2 : Array Nat := #[14, 9, 4, 1, 2, 16, 10, 16, 13, 0, 7, 7, 16, 13, 16, 10, 15, 18, 5, 16, 10, 15, 13, 11, 16, 13, 5, 5, 0, 16, 10, 1, 15, 2, 0, 1]
noncomputable abbrev T2 (t : Array Nat) (p : Nat) (fst : Bool) (om : Bool) (pc pos handed wt : Nat) (fr : List Sre.Frame) (ans : Option Bool) (seen : Seen) : M := MT code2 t p false om pc pos handed wt fr ans seen
theorem lit12 : LitAt code2 12 13 := by intro t p ma om pos hd wt fr seen; kernel_rfl
theorem lit14 : LitAt code2 14 10 := by intro t p ma om pos hd wt fr seen; kernel_rfl
theorem lit19 : LitAt code2 19 10 := by intro t p ma om pos hd wt fr seen; kernel_rfl
theorem lit24 : LitAt code2 24 13 := by intro t p ma om pos hd wt fr seen; kernel_rfl
theorem lit29 : LitAt code2 29 10 := by intro t p ma om pos hd wt fr seen; kernel_rfl
theorem end35 : EndAt code2 35 := by intro t p ma om pos hd wt fr seen; kernel_rfl
section
variable {t : Array Nat} {p pos hd wt : Nat} {fst om : Bool} {fr : List Sre.Frame} {seen : Seen}
theorem end2 : M.step (T2 t p fst om 35 pos hd wt fr none seen) = T2 t p fst om 35 pos pos wt fr (some true) (seen.add 1) := end_yes end35 (by cases om <;> rfl)
theorem jump (pc : Nat) (h : pc = 16 ∨ pc = 21 ∨ pc = 32) : M.step (T2 t p fst om pc pos hd wt fr none seen) = T2 t p fst om 35 pos hd wt fr none (seen.add 15) := by
  rcases h with rfl | rfl | rfl <;> kernel_rfl
theorem br : M.step (T2 t p fst fst 10 p p 1 [F0 10 p fst] none seen) = T2 t p fst fst 12 p p 2 [FB p 11 fst, F0 10 p fst] none (seen.add 7) := by kernel_rfl
theorem nb11 (pc : Nat) : M.step (T2 t p fst om pc pos hd 2 [FB p 11 fst, F0 10 p fst] (some false) seen) = T2 t p fst fst 19 p p 2 [FB p 18 fst, F0 10 p fst] none seen := by kernel_rfl
theorem nb18 (pc : Nat) : M.step (T2 t p fst om pc pos hd 2 [FB p 18 fst, F0 10 p fst] (some false) seen) = T2 t p fst fst 24 p p 2 [FB p 23 fst, F0 10 p fst] none seen := by kernel_rfl
theorem nbT (pc k : Nat) : M.step (T2 t p fst om pc pos hd 2 [FB p k fst, F0 10 p fst] (some true) seen) = T2 t p fst fst k p hd 1 [F0 10 p fst] (some true) seen := by kernel_rfl
theorem nsT (pc : Nat) : M.step (T2 t p fst om pc pos hd 1 [F0 10 p fst] (some true) seen) = T2 t p fst fst 10 p hd 0 [] (some true) seen := by kernel_rfl
theorem look26 : M.step (T2 t p fst fst 26 pos hd 2 fr none seen) = T2 t p fst false 29 pos pos 3 (FL pos fst :: fr) none (seen.add 5) := by kernel_rfl
theorem lookOut (pc q : Nat) : M.step (T2 t p fst om pc pos hd 3 (FL q fst :: fr) (some false) seen) = T2 t p fst fst 32 q hd 2 fr none seen := by kernel_rfl
/-- the last four steps -/
theorem tail2 (k n : Nat) : ∃ m, M.runFor (n + 4) (T2 t p fst fst 35 pos hd 2 [FB p k fst, F0 10 p fst] none seen) = m ∧ m.outcome = some .matched ∧ m.start = p ∧ m.handed = pos := by
  refine ⟨_, rfl, ?_⟩
  rw [rf rfl end2, rf rfl (nbT 35 k), rf rfl (nsT k)]
  show (M.runFor (n + 1) (MT code2 t p false fst 10 p pos 0 [] (some true) _)).outcome = _ ∧ (M.runFor (n + 1) (MT code2 t p false fst 10 p pos 0 [] (some true) _)).start = _ ∧ (M.runFor (n + 1) (MT code2 t p false fst 10 p pos 0 [] (some true) _)).handed = _
  rw [rf rfl (out_step true)]
  have e : ∀ (m : M) (n : Nat), m.outcome.isSome = true → M.runFor n m = m := fun m n h => by
    cases n with
    | zero => rfl
    | succ n => show (if m.outcome.isSome then m else _) = m; rw [if_pos h]
  rw [e _ _ rfl]
  exact ⟨rfl, rfl, rfl⟩
end
section
variable (t : Array Nat) (p : Nat) (fst : Bool) (seen : Seen)
theorem lf_run (h : p < t.size) (hc : t[p] = 10) : ∃ m, M.runFor 9 (T2 t p fst fst 10 p p 1 [F0 10 p fst] none seen) = m ∧ m.outcome = some .matched ∧ m.start = p ∧ m.handed = p + 1 := by
  have hg : t.getD p 0 = 10 := (get_of t p h).trans hc
  rw [rf rfl br, rf rfl (lit_no lit12 (by rw [hg]; rfl)), rf rfl (nb11 12), rf rfl (lit_yes lit19 h hg), rf rfl (jump 21 (by decide))]
  exact tail2 18 0
theorem crlf_run (h : p + 1 < t.size) (hc : t[p] = 13) (hd : t[p + 1] = 10) : ∃ m, M.runFor 8 (T2 t p fst fst 10 p p 1 [F0 10 p fst] none seen) = m ∧ m.outcome = some .matched ∧ m.start = p ∧ m.handed = p + 2 := by
  have h3 : p < t.size := by omega
  rw [rf rfl br, rf rfl (lit_yes lit12 h3 ((get_of t p h3).trans hc)), rf rfl (lit_yes lit14 h ((get_of t (p + 1) h).trans hd)), rf rfl (jump 16 (by decide))]
  exact tail2 11 0
theorem cr_run (h : p + 1 < t.size) (hc : t[p] = 13) (hd : (t[p + 1] == 10) = false) : ∃ m, M.runFor 15 (T2 t p fst fst 10 p p 1 [F0 10 p fst] none seen) = m ∧ m.outcome = some .matched ∧ m.start = p ∧ m.handed = p + 1 := by
  have h3 : p < t.size := by omega
  have hg : t.getD p 0 = 13 := (get_of t p h3).trans hc
  have hg2 : (t.getD (p + 1) 0 == 10) = false := by rw [get_of t (p + 1) h]; exact hd
  rw [rf rfl br, rf rfl (lit_yes lit12 h3 hg), rf rfl (lit_no lit14 hg2), rf rfl (nb11 14), rf rfl (lit_no lit19 (by rw [hg]; rfl)), rf rfl (nb18 19), rf rfl (lit_yes lit24 h3 hg), rf rfl look26, rf rfl (lit_no lit29 hg2), rf rfl (lookOut 29 (p + 1)), rf rfl (jump 32 (by decide))]
  exact tail2 23 0
end
noncomputable def nl2 (c : Nat) : Bool := c == 10 || c == 13
theorem inSet_eq (c : Nat) (seen : Seen) : inSet code2 c code2.size 5 true seen = if (c == 10) = true then .ok (true, seen.add 16) else if (c == 13) = true then .ok (true, (seen.add 16).add 16) else .ok (false, ((seen.add 16).add 16).add 0) := by kernel_rfl
theorem inSet2 (c : Nat) (seen : Seen) : ∃ seen', inSet code2 c code2.size 5 true seen = .ok (nl2 c, seen') := by
  rw [inSet_eq]
  unfold nl2
  cases c == 10 <;> cases c == 13 <;> exact ⟨_, rfl⟩
theorem adm_some (m : M) (p : Nat) (hm : m.code = code2) (hp : p < m.lim) (hh : nl2 (m.text.getD p 0) = true) : ∀ (fuel s : Nat) (seen : Seen), s ≤ p → p < s + fuel → (∀ q, s ≤ q → q < p → nl2 (m.text.getD q 0) = false) →
    ∃ seen', M.admitted m fuel s seen = .ok (some p, seen')
  | 0, s, seen, h1, h2, h3 => by omega
  | fuel + 1, s, seen, h1, h2, h3 => by
    obtain ⟨sn, e⟩ := inSet2 (m.text.getD s 0) seen
    unfold M.admitted
    rw [if_neg (by omega), hm, e]
    by_cases q : s = p
    · subst q; rw [hh]; exact ⟨sn, rfl⟩
    · rw [h3 s (Nat.le_refl _) (by omega)]
      exact adm_some m p hm hp hh fuel (s + 1) sn (by omega) (by omega) fun q h1 h2 => h3 q (by omega) h2
theorem adm_none (m : M) (hm : m.code = code2) : ∀ (fuel s : Nat) (seen : Seen), m.lim < s + fuel → (∀ q, s ≤ q → q < m.lim → nl2 (m.text.getD q 0) = false) → ∃ seen', M.admitted m fuel s seen = .ok (none, seen')
  | 0, s, seen, h2, h3 => ⟨seen, rfl⟩
  | fuel + 1, s, seen, h2, h3 => by
    unfold M.admitted
    by_cases q : s ≥ m.lim
    · rw [if_pos q]; exact ⟨seen, rfl⟩
    · obtain ⟨sn, e⟩ := inSet2 (m.text.getD s 0) seen
      rw [if_neg q, hm, e, h3 s (Nat.le_refl _) (by omega)]
      exact adm_none m hm fuel (s + 1) sn (by omega) fun q h1 h2 => h3 q (by omega) h2
theorem hdr2 : header code2 = (1, 10) := by decide
theorem hfs2 (m : M) (hm : m.code = code2) : m.hasFirstSet = true := by unfold M.hasFirstSet; rw [hm]; rfl
theorem s2_search (t : Array Nat) (s p : Nat) (ma : Bool) (hp : s ≤ p) (hpt : p < t.size) (hq : ∀ q, s ≤ q → q < p → nl2 (t.getD q 0) = false) (hh : nl2 (t.getD p 0) = true) :
    ∃ seen, forSearch code2 t 0 s t.size ma = T2 t p true true 10 p p 1 [F0 10 p true] none seen := by
  rw [forSearch_eq, hdr2, if_neg (by simp; omega)]
  unfold M.attemptFrom
  rw [if_neg (by rw [hfs2 _ rfl]; decide)]
  obtain ⟨sn, e⟩ := adm_some { code := code2, text := t, lim := t.size, start := s, pc := 10, pos := s, handed := s, marks := #[], mustAdvance := ma, seen := ({} : Seen).add 14, lastStart := t.size } p rfl hpt hh (t.size + 1 - s) s (({} : Seen).add 14) hp (by omega) hq
  refine ⟨sn, ?_⟩
  show (match M.admitted { code := code2, text := t, lim := t.size, start := s, pc := 10, pos := s, handed := s, marks := #[], mustAdvance := ma, seen := ({} : Seen).add 14, lastStart := t.size } (t.size + 1 - s) s (({} : Seen).add 14) with
    | .ok (some s, seen) => _
    | .ok (none, seen) => _
    | .error why => _) = _
  rw [e]
  rfl
theorem af_none (m : M) (s : Nat) (fst : Bool) (sn : Seen) (hm : m.code = code2) (h : m.admitted (m.lim + 1 - s) s m.seen = .ok (none, sn)) : m.attemptFrom s fst = M.say { m with seen := sn } false := by
  unfold M.attemptFrom
  rw [if_neg (by rw [hfs2 _ hm]; decide), h]
theorem s2_none (t : Array Nat) (s : Nat) (ma : Bool) (hq : ∀ q, s ≤ q → q < t.size → nl2 (t.getD q 0) = false) :
    ∃ m, forSearch code2 t 0 s t.size ma = m ∧ m.frames = [] ∧ m.answer = some false ∧ m.outcome = none := by
  by_cases hs : t.size ≤ s
  · refine ⟨_, rfl, ?_⟩
    rw [forSearch_eq, hdr2, if_pos (by simp; omega)]
    exact ⟨rfl, rfl, rfl⟩
  · obtain ⟨sn, e⟩ := adm_none { code := code2, text := t, lim := t.size, start := s, pc := 10, pos := s, handed := s, marks := #[], mustAdvance := ma, seen := ({} : Seen).add 14, lastStart := t.size } rfl (t.size + 1 - s) s (({} : Seen).add 14) (by show t.size < _; omega) hq
    refine ⟨_, (?_ : _ = M.say { code := code2, text := t, lim := t.size, start := s, pc := 10, pos := s, handed := s, marks := #[], mustAdvance := ma, seen := sn, lastStart := t.size } false), ?_⟩
    · rw [forSearch_eq, hdr2, if_neg (by simp; omega)]
      exact af_none _ s true sn rfl e
    · exact ⟨rfl, rfl, rfl⟩
theorem finds_none {m0 m : M} (e : m0 = m) (h1 : m.frames = []) (h2 : m.answer = some false) (h3 : m.outcome = none) : Finds m0 none := by
  refine ⟨1, _, by decide, rfl, ?_⟩
  rw [e]
  show (M.runFor 1 m).outcome = _
  unfold M.runFor
  rw [h3, if_neg (by decide)]
  unfold M.runFor M.step
  rw [h3, h1, h2]
  rfl
theorem find2_none (t : Array Nat) (s : Nat) (ma : Bool) (hq : ∀ q, s ≤ q → q < t.size → nl2 (t.getD q 0) = false) : Finds (forSearch code2 t 0 s t.size ma) none := by
  obtain ⟨m, e, h1, h2, h3⟩ := s2_none t s ma hq
  exact finds_none e h1 h2 h3
theorem find2_lf (t : Array Nat) (s p : Nat) (ma : Bool) (hp : s ≤ p) (hpt : p < t.size) (hq : ∀ q, s ≤ q → q < p → nl2 (t.getD q 0) = false) (hc : t[p] = 10) : Finds (forSearch code2 t 0 s t.size ma) (some (p, p + 1)) := by
  obtain ⟨seen, e⟩ := s2_search t s p ma hp hpt hq (by simp [hpt, hc, nl2])
  obtain ⟨m, e1, e2⟩ := lf_run t p true seen hpt hc
  exact ⟨9, m, by decide, by rw [e, e1], e2⟩
theorem find2_cr (t : Array Nat) (s p : Nat) (ma : Bool) (hp : s ≤ p) (hpt : p + 1 < t.size) (hq : ∀ q, s ≤ q → q < p → nl2 (t.getD q 0) = false) (hc : t[p] = 13) (hd : (t[p + 1] == 10) = false) : Finds (forSearch code2 t 0 s t.size ma) (some (p, p + 1)) := by
  obtain ⟨seen, e⟩ := s2_search t s p ma hp (by omega) hq (by simp [show p < t.size by omega, hc, nl2])
  obtain ⟨m, e1, e2⟩ := cr_run t p true seen hpt hc hd
  exact ⟨15, m, by decide, by rw [e, e1], e2⟩
theorem find2_crlf (t : Array Nat) (s p : Nat) (ma : Bool) (hp : s ≤ p) (hpt : p + 1 < t.size) (hq : ∀ q, s ≤ q → q < p → nl2 (t.getD q 0) = false) (hc : t[p] = 13) (hd : t[p + 1] = 10) : Finds (forSearch code2 t 0 s t.size ma) (some (p, p + 2)) := by
  obtain ⟨seen, e⟩ := s2_search t s p ma hp (by omega) hq (by simp [show p < t.size by omega, hc, nl2])
  obtain ⟨m, e1, e2⟩ := crlf_run t p true seen hpt hc hd
  exact ⟨8, m, by decide, by rw [e, e1], e2⟩
end
open PySem PySem.W PySem.Calls PyProof.Rows
set_option maxHeartbeats 8000000 in
open_top hd for PySem.Challenge.rw_ty0025_01
/-! Core1 -/
/-- abstract values: a value up to its token -/
inductive AV where
  | none | bool (b : Bool) | int (i : Int) | str (s : Str) | ref (a : Addr) | fn (id : String) | ty (name : String)

inductive VR : AV → Value → Prop
  | none : VR .none .none
  | bool (b : Bool) : VR (.bool b) (.bool b)
  | int (i : Int) (t : Tok) : VR (.int i) (.int i t)
  | str (s : Str) (t : Tok) : VR (.str s) (.str s t)
  | ref (a : Addr) : VR (.ref a) (.ref a)
  | fn (id : String) : VR (.fn id) (.builtin id)
  | ty (name : String) : VR (.ty name) (.type name)

inductive VRs : List AV → List Value → Prop
  | nil : VRs [] []
  | cons {a b as bs} : VR a b → VRs as bs → VRs (a :: as) (b :: bs)

noncomputable abbrev listO (ws : List Value) (n : Nat) : Obj := { cls := .type "list", dict := Option.none, data := .seq ws.toArray n, slots := #[] }
noncomputable abbrev tupO (ws : List Value) (n : Nat) : Obj := { cls := .type "tuple", dict := Option.none, data := .seq ws.toArray n, slots := #[] }
noncomputable abbrev litO (l : Addr) (i : Int) : Obj := { cls := .type "list_iterator", dict := Option.none, data := .fields #[.ref l, .int i 0], slots := #[] }

inductive AO where
  | list (vs : List AV) | tup (vs : List AV) | lit (l : Addr) (i : Nat) | cell (v : Option AV) | rng (a b : Int) | rit (l : Addr) (i : Int) | obj (o : Obj)

inductive OR : AO → Obj → Prop
  | list {vs ws} (n : Nat) : VRs vs ws → OR (.list vs) (listO ws n)
  | tup {vs ws} (n : Nat) : VRs vs ws → OR (.tup vs) (tupO ws n)
  | lit (l : Addr) (i : Nat) : OR (.lit l i) (litO l i)
  | cell0 {o} : o.data = .cell Option.none → OR (.cell Option.none) o
  | cell {v w o} : VR v w → o.data = .cell (some w) → OR (.cell (some v)) o
  | rng (a b : Int) (t u v : Tok) : OR (.rng a b) { cls := .type "range", dict := Option.none, data := .fields #[.int a t, .int b u, .int 1 v], slots := #[] }
  | rit {o} (l : Addr) (i : Int) : o.cls = .type "list_reverseiterator" → o.data = .fields #[.ref l, .int i 0] → OR (.rit l i) o
  | obj (o : Obj) : OR (.obj o) o

noncomputable abbrev Loc := Str → Option AV
noncomputable abbrev Sto := Addr → Option AO
noncomputable abbrev Frm := Addr → Option Obj
noncomputable def upL (m : Loc) (x : Str) (v : AV) : Loc := fun y => if y = x then some v else m y
noncomputable def upS (σ : Sto) (a : Addr) (o : AO) : Sto := fun b => if b = a then some o else σ b
noncomputable def noL : Loc := fun _ => Option.none

noncomputable abbrev KF (w : World) : Frag := hd.heap_39 w.params

structure BsAt (w : World) (b : Heap) (mg mb : Str → Option Value) : Prop where
  K : (KF w).In b
  T : ∃ p loose mean, Top p loose mean mg mb b
  C1 : CodeHd b 75 71
  C2 : CodeHd b 68 64
  n1 : b.get? 71 = Option.none
  n2 : b.get? 64 = Option.none

noncomputable def Bs (w : World) (g : Frm) : Prop := ∃ b mg mb, BsAt w b mg mb ∧ ∀ a o, b.get? a = some o → g a = some o

structure Rel (w : World) (g : Frm) (L : Addr) (m : Loc) (σ : Sto) (h : Heap) : Prop where
  base : Bs w g
  keep : ∀ a o, g a = some o → h.get? a = some o
  ns : ∃ mc, h.Ns L mc ∧ ∀ x v, m x = some v → ∃ c, mc x = some c ∧ VR v c
  gL : g L = Option.none
  sto : ∀ a ao, σ a = some ao → ∃ o, h.get? a = some o ∧ OR ao o
  apart : ∀ a ao, σ a = some ao → a ≠ L ∧ g a = Option.none

noncomputable def AOk (n : Nat) (A : Around) : Prop := A.handled = Option.none ∧ A.depth + n ≤ 990 ∧ A.units + 4 * n + 8 ≤ 9900

noncomputable abbrev NoE : Value → Shared → Prop := fun _ _ => False

noncomputable def Tr {α β : Type} (rel : β → α → Prop) (prog : Program) (w : World) (n : Nat) (L : Addr) (m : Loc) (σ : Sto) (t : Sem α) (P : β → Loc → Sto → Prop) : Prop :=
  ∀ (g : Frm) (A : Around) (s : Shared) (Q : α → Shared → Prop), AOk n A → Rel w g L m σ s.heap →
    (∀ b a m' σ' h' tk, P b m' σ' → rel b a → Rel w g L m' σ' h' → Q a { s with heap := h', toks := tk }) → wpAny (model prog w) A t Q NoE s

inductive AFl where
  | next | brk | cont | ret (v : AV)
inductive FR : AFl → Flow → Prop
  | next : FR .next .next
  | brk : FR .brk .brk
  | cont : FR .cont .cont
  | ret {v w} : VR v w → FR (.ret v) (.ret w)

noncomputable abbrev TE := @Tr Value AV VR
noncomputable abbrev TL := @Tr (List Value) (List AV) VRs
noncomputable abbrev TB := @Tr Bool Bool Eq
noncomputable abbrev TU := @Tr Unit Unit Eq
noncomputable abbrev TF := @Tr Flow AFl FR

section
variable {α β γ δ : Type} {rel : β → α → Prop} {rel' : δ → γ → Prop} {prog : Program} {w : World} {n : Nat} {L : Addr} {m : Loc} {σ : Sto}

theorem Tr.mono {t : Sem α} {P P' : β → Loc → Sto → Prop} (h : Tr rel prog w n L m σ t P) (hP : ∀ b m σ, P b m σ → P' b m σ) : Tr rel prog w n L m σ t P' :=
  fun g A s Q hA R k => h g A s Q hA R fun b a m' σ' h' tk p r R' => k b a m' σ' h' tk (hP _ _ _ p) r R'

theorem Tr.pure {a : α} {b : β} {P : β → Loc → Sto → Prop} (r : rel b a) (h : P b m σ) : Tr rel prog w n L m σ (pure a) P :=
  fun g A s Q hA R k => wpAny_pure (by have := k b a m σ s.heap s.toks h r R; exact this)

theorem Tr.bind {t : Sem α} {f : α → Sem γ} {P : δ → Loc → Sto → Prop}
    (h : Tr rel prog w n L m σ t (fun b m' σ' => ∀ a, rel b a → Tr rel' prog w n L m' σ' (f a) P)) : Tr rel' prog w n L m σ (t >>= f) P :=
  fun g A s Q hA R k => wpAny_bind (h g A s _ hA R fun b a m' σ' h' tk p r R' =>
    p a r g A _ Q hA R' fun b' a' m'' σ'' h'' tk' p' r' R'' => k b' a' m'' σ'' h'' tk' p' r' R'')

theorem AOk.le {n n' : Nat} {A : Around} (h : AOk n A) (hn : n' ≤ n) : AOk n' A := ⟨h.1, by have := h.2.1; omega, by have := h.2.2; omega⟩
theorem AOk.deeper {n : Nat} {A : Around} {env : Env} (h : AOk (n + 1) A) : AOk n (A.deeper env) := ⟨h.1, by have := h.2.1; show A.depth + 1 + n ≤ 990; omega, by have := h.2.2; show A.units + 3 + 4 * n + 8 ≤ 9900; omega⟩
theorem Tr.le {n' : Nat} {t : Sem α} {P : β → Loc → Sto → Prop} (h : Tr rel prog w n' L m σ t P) (hn : n' ≤ n) : Tr rel prog w n L m σ t P :=
  fun g A s Q hA R k => h g A s Q (hA.le hn) R k
end

theorem upL_eq {m : Loc} {x : Str} {v : AV} : upL m x v x = some v := if_pos rfl
theorem upL_ne {m : Loc} {x y : Str} {v : AV} {r : Option AV} (h : y ≠ x) (e : m y = r) : upL m x v y = r := (if_neg h).trans e
theorem upS_eq {σ : Sto} {a : Addr} {o : AO} : upS σ a o a = some o := if_pos rfl
theorem upS_ne {σ : Sto} {a b : Addr} {o : AO} {r : Option AO} (h : b ≠ a) (e : σ b = r) : upS σ a o b = r := (if_neg h).trans e
theorem upS_old {σ : Sto} {a b : Addr} {o o' : AO} (ha : σ a = Option.none) (e : σ b = some o') : upS σ a o b = some o' :=
  upS_ne (fun q => by rw [q, ha] at e; cases e) e

section
variable {w : World} {g : Frm} {L : Addr} {m : Loc} {σ : Sto} {h h' : Heap}

theorem Rel.sizeL (R : Rel w g L m σ h) : L < h.objs.size := let ⟨_, n, _⟩ := R.ns; n.lt
theorem Rel.weaken {m' : Loc} {σ' : Sto} (R : Rel w g L m σ h) (hm : ∀ x v, m' x = some v → m x = some v) (hs : ∀ a o, σ' a = some o → σ a = some o) : Rel w g L m' σ' h :=
  ⟨R.base, R.keep, let ⟨mc, n, k⟩ := R.ns; ⟨mc, n, fun x v e => k x v (hm x v e)⟩, R.gL, fun a ao e => R.sto a ao (hs a ao e), fun a ao e => R.apart a ao (hs a ao e)⟩
theorem Rel.keeps (R : Rel w g L m σ h) (k : ∀ a o, h.get? a = some o → h'.get? a = some o) : Rel w g L m σ h' :=
  ⟨R.base, fun a o e => k a o (R.keep a o e), let ⟨mc, n, q⟩ := R.ns; ⟨mc, n.keeps k, q⟩, R.gL, fun a ao e => let ⟨o, e1, e2⟩ := R.sto a ao e; ⟨o, k _ _ e1, e2⟩, R.apart⟩
/-- a new object -/
theorem Rel.push {o : Obj} {ao : AO} (R : Rel w g L m σ h) (r : OR ao o) (hf : o.isFreed = false) : Rel w g L m (upS σ h.objs.size ao) (h.push o) := by
  have hn : g h.objs.size = Option.none := by
    cases q : g h.objs.size with
    | none => rfl
    | some o' => exact absurd (Heap.lt_size (R.keep _ _ q)) (Nat.lt_irrefl _)
  have R' := R.keeps (h' := h.push o) fun a o' e => Heap.get?_push_of_some _ e
  refine ⟨R'.base, R'.keep, R'.ns, R'.gL, fun a ao' e => ?_, fun a ao' e => ?_⟩
  · unfold upS at e
    split at e
    · rename_i q; subst q; cases e; exact ⟨o, Heap.get?_push_size _ hf, r⟩
    · exact R'.sto a ao' e
  · unfold upS at e
    split at e
    · rename_i q; subst q; exact ⟨Nat.ne_of_gt R.sizeL, hn⟩
    · exact R'.apart a ao' e
theorem Rel.fresh (R : Rel w g L m σ h) : σ h.objs.size = Option.none := by
  cases q : σ h.objs.size with
  | none => rfl
  | some ao => obtain ⟨o, e, _⟩ := R.sto _ _ q; exact absurd (Heap.lt_size e) (Nat.lt_irrefl _)
/-- an object of the store is changed -/
theorem Rel.set {a : Addr} {ao ao' : AO} {o' : Obj} (R : Rel w g L m σ h) (ha : σ a = some ao) (hk : ∀ b o, b ≠ a → h.get? b = some o → h'.get? b = some o) (e : h'.get? a = some o') (r : OR ao' o') : Rel w g L m (upS σ a ao') h' := by
  have hap := R.apart a ao ha
  refine ⟨R.base, fun b o q => hk b o (fun z => by rw [z, hap.2] at q; cases q) (R.keep b o q), ?_, R.gL, fun b bo q => ?_, fun b bo q => ?_⟩
  · obtain ⟨mc, nn, q⟩ := R.ns
    exact ⟨mc, nn.at' fun o e => hk _ _ (Ne.symm hap.1) e, q⟩
  · unfold upS at q
    split at q
    · rename_i z; subst z; cases q; exact ⟨o', e, r⟩
    · rename_i z; obtain ⟨o, e1, e2⟩ := R.sto b bo q; exact ⟨o, hk b o z e1, e2⟩
  · unfold upS at q
    split at q
    · rename_i z; subst z; exact hap
    · exact R.apart b bo q
/-- a local name is stored -/
theorem Rel.store {x : Str} {v : AV} {c : Value} {mc : Str → Option Value} (R : Rel w g L m σ h) (hmc : ∀ x v, m x = some v → ∃ c, mc x = some c ∧ VR v c)
    (hn : h'.Ns L (fun y => if y = x then some c else mc y)) (hs : Heap.SameBut L h h') (r : VR v c) : Rel w g L (upL m x v) σ h' := by
  have hk : ∀ b o, b ≠ L → h.get? b = some o → h'.get? b = some o := fun b o z e => (hs.2 b z).trans e
  refine ⟨R.base, fun b o q => hk b o (fun z => by rw [z, R.gL] at q; cases q) (R.keep b o q), ⟨_, hn, fun y u e => ?_⟩, R.gL, fun b bo q => ?_, R.apart⟩
  · unfold upL at e
    split at e
    · rename_i z; cases e; exact ⟨c, if_pos z, r⟩
    · rename_i z; obtain ⟨d, e1, e2⟩ := hmc y u e; exact ⟨d, (if_neg z).trans e1, e2⟩
  · obtain ⟨o, e1, e2⟩ := R.sto b bo q; exact ⟨o, hk b o (R.apart b bo q).1 e1, e2⟩
/-- what the written part says -/
theorem Rel.world (R : Rel w g L m σ h) : ∃ mg mb, (KF w).In h ∧ (∃ p loose mean, Top p loose mean mg mb h) ∧ CodeHd h 75 71 ∧ CodeHd h 68 64 := by
  obtain ⟨b, mg, mb, B, k⟩ := R.base
  have kk : ∀ a o, b.get? a = some o → h.get? a = some o := fun a o e => R.keep a o (k a o e)
  obtain ⟨p, loose, mean, T⟩ := B.T
  exact ⟨mg, mb, B.K.keeps kk, ⟨p, loose, mean, T.keeps kk⟩, B.C1.keeps kk, B.C2.keeps kk⟩
end
/-! Core2 -/
section
variable {prog : Program} {w : World} {n : Nat} {L : Addr} {m : Loc} {σ : Sto} {env : Env}

-- ### the bones of statements
theorem s_nil {P : AFl → Loc → Sto → Prop} (h : P .next m σ) : TF prog w n L m σ (execs [] env) P :=
  fun g A s Q hA R k => wpAny_execs_nil (by have := k .next .next m σ s.heap s.toks h .next R; exact this)

noncomputable def Seq (P : AFl → Loc → Sto → Prop) (K : Loc → Sto → Prop) (f : AFl) (m : Loc) (σ : Sto) : Prop := match f with
  | .next => K m σ
  | f => P f m σ
theorem seqN {P : AFl → Loc → Sto → Prop} {K : Loc → Sto → Prop} (h : K m σ) : Seq P K .next m σ := h
theorem seqR {P : AFl → Loc → Sto → Prop} {K : Loc → Sto → Prop} {v : AV} (h : P (.ret v) m σ) : Seq P K (.ret v) m σ := h
theorem seqC {P : AFl → Loc → Sto → Prop} {K : Loc → Sto → Prop} (h : P .cont m σ) : Seq P K .cont m σ := h

theorem s_cons {st : Stmt} {rest : List Stmt} {P : AFl → Loc → Sto → Prop}
    (h : TF prog w n L m σ (exec st env) (Seq P fun m1 σ1 => TF prog w n L m1 σ1 (execs rest env) P)) : TF prog w n L m σ (execs (st :: rest) env) P :=
  fun g A s Q hA R k => wpAny_execs_cons (h g A s _ hA R fun f a m1 σ1 h1 t1 p1 r1 R1 => by
    cases r1 with
    | next => exact p1 g A _ _ hA R1 fun f2 a2 m2 σ2 h2 t2 p2 r2 R2 => k f2 a2 m2 σ2 h2 t2 p2 r2 R2
    | brk => exact k .brk _ m1 σ1 h1 t1 p1 .brk R1
    | cont => exact k .cont _ m1 σ1 h1 t1 p1 .cont R1
    | ret r => exact k (.ret _) _ m1 σ1 h1 t1 p1 (.ret r) R1)

theorem s_store {x : Str} {v : AV} {c : Value} {P : Unit → Loc → Sto → Prop} (r : VR v c) (h : P () (upL m x v) σ)
    (hL : env.locals = L := by rfl) (hk : env.scope.kind = .function := by rfl) (hx : env.kindOf x = some .local := by rfl) : TU prog w n L m σ (storeName env x c) P := by
  intro g A s Q hA R k
  subst hL
  obtain ⟨mc, hn, hm⟩ := R.ns
  exact wpAny_storeName_local hx hn (fun h' hn' hs => k () () _ σ h' _ h rfl (R.store hm hn' hs r)) (by rw [hk]; rfl)

theorem s_assign {x : Str} {pos' pos : Pos} {value : Expr} {P : AFl → Loc → Sto → Prop}
    (h : TE prog w n L m σ (eval value env) (fun v m1 σ1 => P .next (upL m1 x v) σ1))
    (hs : swapsWith value (some (.Name x pos')) pos.line env = pure false := by rfl)
    (hL : env.locals = L := by rfl) (hk : env.scope.kind = .function := by rfl) (hx : env.kindOf x = some .local := by rfl) : TF prog w n L m σ (exec (.Assign [.Name x pos'] value pos) env) P :=
  fun g A s Q hA R k => wpAny_Assign_Name (h g A s _ hA R fun v c m1 σ1 h1 t1 p1 r1 R1 =>
    s_store (P := fun _ m2 σ2 => P .next m2 σ2) r1 p1 hL hk hx g A _ _ hA R1 fun _ _ m2 σ2 h2 t2 p2 _ R2 => k .next .next m2 σ2 h2 t2 p2 .next R2) hs

theorem s_return {e : Expr} {pos : Pos} {P : AFl → Loc → Sto → Prop} (h : TE prog w n L m σ (eval e env) (fun v m1 σ1 => P (.ret v) m1 σ1)) : TF prog w n L m σ (exec (.Return (some e) pos) env) P :=
  fun g A s Q hA R k => wpAny_Return_some (h g A s _ hA R fun v c m1 σ1 h1 t1 p1 r1 R1 => k (.ret v) (.ret c) m1 σ1 h1 t1 p1 (.ret r1) R1)

theorem s_return0 {pos : Pos} {P : AFl → Loc → Sto → Prop} (h : P (.ret .none) m σ) : TF prog w n L m σ (exec (.Return none pos) env) P :=
  fun g A s Q hA R k => wpAny_Return_none (by have := k (.ret .none) (.ret .none) m σ s.heap s.toks h (.ret .none) R; exact this)

/-- an expression statement; its value is no object -/
theorem s_expr {e : Expr} {pos : Pos} {P : AFl → Loc → Sto → Prop} (h : TE prog w n L m σ (eval e env) (fun v m1 σ1 => (∀ a, v ≠ .ref a) ∧ P .next m1 σ1))
    (hi : interactive env = false := by rfl) (hs : swapsWith e none pos.line env = pure false := by rfl) : TF prog w n L m σ (exec (.Expr e pos) env) P :=
  fun g A s Q hA R k => wpAny_Expr (h g A s _ hA R fun v c m1 σ1 h1 t1 p1 r1 R1 => by
    cases r1 with
    | ref a => exact absurd rfl (p1.1 a)
    | _ => exact k .next .next m1 σ1 h1 t1 p1.2 .next R1) hi hs

theorem s_pass {pos : Pos} {P : AFl → Loc → Sto → Prop} (h : P .next m σ) : TF prog w n L m σ (exec (.Pass pos) env) P :=
  fun g A s Q hA R k => wpAny_Pass (by have := k .next .next m σ s.heap s.toks h .next R; exact this)

theorem s_if {test : Expr} {body orelse : List Stmt} {pos : Pos} {P : AFl → Loc → Sto → Prop}
    (h : TB prog w n L m σ (PySem.isTrue test env (eval test env)) (fun b m1 σ1 => (b = true → TF prog w n L m1 σ1 (execs body env) P) ∧ (b = false → TF prog w n L m1 σ1 (execs orelse env) P))) :
    TF prog w n L m σ (exec (.If test body orelse pos) env) P :=
  fun g A s Q hA R k => wpAny_If (h g A s _ hA R fun b a m1 σ1 h1 t1 p1 r1 R1 => by
    subst r1
    cases b with
    | true => exact p1.1 rfl g A _ _ hA R1 fun f2 a2 m2 σ2 h2 t2 p2 r2 R2 => k f2 a2 m2 σ2 h2 t2 p2 r2 R2
    | false => exact p1.2 rfl g A _ _ hA R1 fun f2 a2 m2 σ2 h2 t2 p2 r2 R2 => k f2 a2 m2 σ2 h2 t2 p2 r2 R2)

theorem s_assert {test : Expr} {pos : Pos} {P : AFl → Loc → Sto → Prop}
    (h : TB prog w n L m σ (PySem.isTrue test env (eval test env)) (fun b m1 σ1 => b = true ∧ P .next m1 σ1)) : TF prog w n L m σ (exec (.Assert test none pos) env) P :=
  fun g A s Q hA R k => wpAny_Assert_new hA.1 (h g A s _ hA R fun b a m1 σ1 h1 t1 p1 r1 R1 => by
    subst r1
    rw [if_pos p1.1]
    exact k .next .next m1 σ1 h1 t1 p1.2 .next R1)

theorem s_aug {x : Str} {pos' pos : Pos} {op : Operator} {value : Expr} {u : AV} {P : AFl → Loc → Sto → Prop} (hu : m x = some u)
    (h : TE prog w n L m σ (eval value env) (fun v m1 σ1 => ∀ a b, VR u a → VR v b → TE prog w n L m1 σ1 (inplaceOp op a b) (fun r m2 σ2 => P .next (upL m2 x r) σ2)))
    (hL : env.locals = L := by rfl) (hk : env.scope.kind = .function := by rfl) (hx : env.kindOf x = some .local := by rfl) : TF prog w n L m σ (exec (.AugAssign (.Name x pos') op value pos) env) P := by
  intro g A s Q hA R k
  subst hL
  obtain ⟨mc, hn, hm⟩ := R.ns
  obtain ⟨c, hc, r⟩ := hm x u hu
  refine wpAny_AugAssign_Name (wpAny_loadName_local hk hx hn hc ?_)
  refine h g A s _ hA R fun v d m1 σ1 h1 t1 p1 r1 R1 => ?_
  refine p1 c d r r1 g A _ _ hA R1 fun e z m2 σ2 h2 t2 p2 r2 R2 => ?_
  exact s_store (P := fun _ m2 σ2 => P .next m2 σ2) r2 p2 rfl hk hx g A _ _ hA R2 fun _ _ m3 σ3 h3 t3 p3 _ R3 => k .next .next m3 σ3 h3 t3 p3 .next R3

-- ### tests
theorem t_compare {l r : Expr} {op : CmpOp} {pos : Pos} {whole : Sem Value} {P : Bool → Loc → Sto → Prop}
    (h : TE prog w n L m σ (eval l env) (fun x m1 σ1 => TE prog w n L m1 σ1 (eval r env) (fun y m2 σ2 => ∀ a b, VR x a → VR y b → TE prog w n L m2 σ2 (compareOp op a b) (fun c m3 σ3 => ∃ d, c = .bool d ∧ P d m3 σ3))))
    (hb : behindInMarks op r = false := by rfl) : TB prog w n L m σ (PySem.isTrue (.Compare l [op] [r] pos) env whole) P :=
  fun g A s Q hA R k => wpAny_isTrue_Compare1 (h g A s _ hA R fun x a m1 σ1 h1 t1 p1 r1 R1 => p1 g A _ _ hA R1 fun y b m2 σ2 h2 t2 p2 r2 R2 =>
    p2 a b r1 r2 g A _ _ hA R2 fun c d m3 σ3 h3 t3 p3 r3 R3 => by
      obtain ⟨b', rfl, p⟩ := p3
      cases r3
      exact wpAny_truthy_bool (k b' b' m3 σ3 h3 t3 p rfl R3)) hb

theorem t_plain {e : Expr} {P : Bool → Loc → Sto → Prop}
    (h : TE prog w n L m σ (eval e env) (fun v m1 σ1 => ∀ a, VR v a → TB prog w n L m1 σ1 (truthy a) P))
    (hp : PySem.isTrue e env (eval e env) = (do let v ← eval e env; standAt e.pos; holding [v] (truthy v)) := by rfl) : TB prog w n L m σ (PySem.isTrue e env (eval e env)) P :=
  fun g A s Q hA R k => isTrue_plain (h g A s _ hA R fun x a m1 σ1 h1 t1 p1 r1 R1 => p1 a r1 g A _ _ hA R1 fun b c m2 σ2 h2 t2 p2 r2 R2 => k b c m2 σ2 h2 t2 p2 r2 R2) hp

-- ### expressions
theorem e_local {x : Str} {pos : Pos} {v : AV} {P : AV → Loc → Sto → Prop} (hv : m x = some v) (h : P v m σ)
    (hL : env.locals = L := by rfl) (hk : env.scope.kind = .function := by rfl) (hx : env.kindOf x = some .local := by rfl) (hd : (x == ("__debug__" : Str)) = false := by decide) :
    TE prog w n L m σ (eval (.Name x pos) env) P := by
  intro g A s Q hA R k
  subst hL
  obtain ⟨mc, hn, hm⟩ := R.ns
  obtain ⟨c, hc, r⟩ := hm x v hv
  exact wpAny_Name (wpAny_loadName_local hk hx hn hc (by have := k v c m σ s.heap s.toks h r R; exact this)) hd

theorem e_global {x : Str} {pos : Pos} {v : AV} {c : Value} {P : AV → Loc → Sto → Prop} (e : nsIn (KF w) mainGlobals x = some (some c)) (r : VR v c) (h : P v m σ)
    (hG : env.globals = mainGlobals := by rfl) (hk : env.scope.kind = .function := by rfl) (hx : env.kindOf x = some .globalImplicit := by rfl) (hd : (x == ("__debug__" : Str)) = false := by decide) :
    TE prog w n L m σ (eval (.Name x pos) env) P := by
  intro g A s Q hA R k
  obtain ⟨mg, mb, X, ⟨p, loose, mean, T⟩, _, _⟩ := R.world
  exact Name_function_global hk hx (loadGlobal_global (hG ▸ T.g) (mg_of X T.g e) (by have := k v c m σ s.heap s.toks h r R; exact this)) hd

theorem e_builtin {x : Str} {pos : Pos} {v : AV} {c : Value} {P : AV → Loc → Sto → Prop} (e : nsIn (KF w) mainGlobals x = some none) (hv : bootBuiltins x = some c) (r : VR v c) (h : P v m σ)
    (hG : env.globals = mainGlobals := by rfl) (hB : env.builtins = builtinsNs := by rfl) (hk : env.scope.kind = .function := by rfl) (hx : env.kindOf x = some .globalImplicit := by rfl)
    (hd : (x == ("__debug__" : Str)) = false := by decide) (hn : x ≠ "__name__" := by decide) : TE prog w n L m σ (eval (.Name x pos) env) P := by
  intro g A s Q hA R k
  obtain ⟨mg, mb, X, ⟨p, loose, mean, T⟩, _, _⟩ := R.world
  exact Name_function_global hk hx (loadGlobal_builtin (hG ▸ T.g) (mg_none_of X T.g e) (hB ▸ T.b) ((T.builtins x hn).trans hv) (by have := k v c m σ s.heap s.toks h r R; exact this)) hd

theorem e_int {i : Int} {k : Nat} {pos : Pos} {P : AV → Loc → Sto → Prop} (h : P (.int i) m σ) : TE prog w n L m σ (eval (.Constant (.int i) k pos) env) P :=
  fun g A s Q hA R k => wpAny_Constant_int (k _ _ m σ s.heap _ h (.int _ _) R)
theorem e_str {x : Str} {k : Nat} {pos : Pos} {P : AV → Loc → Sto → Prop} (h : P (.str x) m σ) : TE prog w n L m σ (eval (.Constant (.str x) k pos) env) P :=
  fun g A s Q hA R k => Constant_str (k _ _ m σ s.heap _ h (.str _ _) R)
theorem e_bool {b : Bool} {k : Nat} {pos : Pos} {P : AV → Loc → Sto → Prop} (h : P (.bool b) m σ) : TE prog w n L m σ (eval (.Constant (.bool b) k pos) env) P :=
  fun g A s Q hA R k => wpAny_Constant_bool (by have := k _ _ m σ s.heap s.toks h (.bool b) R; exact this)

theorem e_binop {l r : Expr} {op : Operator} {pos : Pos} {P : AV → Loc → Sto → Prop}
    (h : TE prog w n L m σ (eval l env) (fun x m1 σ1 => TE prog w n L m1 σ1 (eval r env) (fun y m2 σ2 => ∀ a b, VR x a → VR y b → TE prog w n L m2 σ2 (binaryOp op a b) P))) :
    TE prog w n L m σ (eval (.BinOp l op r pos) env) P :=
  fun g A s Q hA R k => wpAny_BinOp (h g A s _ hA R fun x a m1 σ1 h1 t1 p1 r1 R1 => p1 g A _ _ hA R1 fun y b m2 σ2 h2 t2 p2 r2 R2 =>
    p2 a b r1 r2 g A _ _ hA R2 fun c d m3 σ3 h3 t3 p3 r3 R3 => k c d m3 σ3 h3 t3 p3 r3 R3)

theorem e_compare {l r : Expr} {op : CmpOp} {pos : Pos} {P : AV → Loc → Sto → Prop}
    (h : TE prog w n L m σ (eval l env) (fun x m1 σ1 => TE prog w n L m1 σ1 (eval r env) (fun y m2 σ2 => ∀ a b, VR x a → VR y b → TE prog w n L m2 σ2 (compareOp op a b) P)))
    (hb : behindInMarks op r = false := by rfl) : TE prog w n L m σ (eval (.Compare l [op] [r] pos) env) P :=
  fun g A s Q hA R k => wpAny_Compare1 (h g A s _ hA R fun x a m1 σ1 h1 t1 p1 r1 R1 => p1 g A _ _ hA R1 fun y b m2 σ2 h2 t2 p2 r2 R2 =>
    p2 a b r1 r2 g A _ _ hA R2 fun c d m3 σ3 h3 t3 p3 r3 R3 => k c d m3 σ3 h3 t3 p3 r3 R3) hb

theorem e_ifexp {test body orelse : Expr} {pos : Pos} {P : AV → Loc → Sto → Prop}
    (h : TB prog w n L m σ (PySem.isTrue test env (eval test env)) (fun b m1 σ1 => (b = true → TE prog w n L m1 σ1 (eval body env) P) ∧ (b = false → TE prog w n L m1 σ1 (eval orelse env) P))) :
    TE prog w n L m σ (eval (.IfExp test body orelse pos) env) P :=
  fun g A s Q hA R k => wpAny_IfExp (h g A s _ hA R fun b a m1 σ1 h1 t1 p1 r1 R1 => by
    subst r1
    cases b with
    | true => exact p1.1 rfl g A _ _ hA R1 fun f2 a2 m2 σ2 h2 t2 p2 r2 R2 => k f2 a2 m2 σ2 h2 t2 p2 r2 R2
    | false => exact p1.2 rfl g A _ _ hA R1 fun f2 a2 m2 σ2 h2 t2 p2 r2 R2 => k f2 a2 m2 σ2 h2 t2 p2 r2 R2)

-- ### arguments
theorem l_nil {pos : Pos} {P : List AV → Loc → Sto → Prop} (h : P [] m σ) : TL prog w n L m σ (spliced (backTo pos (starEach [] env))) P :=
  fun g A s Q hA R k => (wpAny_pure (by have := k [] [] m σ s.heap s.toks h .nil R; exact this) : wpAny _ A (pure []) Q NoE s)
theorem l_cons {pos : Pos} {e : Expr} {rest : List Expr} {P : List AV → Loc → Sto → Prop}
    (h : TE prog w n L m σ (eval e env) (fun v m1 σ1 => TL prog w n L m1 σ1 (spliced (backTo pos (starEach rest env))) (fun vs m2 σ2 => P (v :: vs) m2 σ2)))
    (he : starEach (e :: rest) env = (false, eval e env) :: starEach rest env := by rfl) : TL prog w n L m σ (spliced (backTo pos (starEach (e :: rest) env))) P := by
  intro g A s Q hA R k
  rw [he]
  show wpAny _ A (spliced ((false, eval e env) :: backTo pos (starEach rest env))) Q NoE s
  exact spliced_cons (h g A s _ hA R fun x a m1 σ1 h1 t1 p1 r1 R1 => p1 g A _ _ hA R1 fun y b m2 σ2 h2 t2 p2 r2 R2 => k (x :: y) (a :: b) m2 σ2 h2 t2 p2 (.cons r1 r2) R2)

theorem e_call {func : Expr} {args : List Expr} {pos : Pos} {P : AV → Loc → Sto → Prop}
    (h : TE prog w n L m σ (eval func env) (fun f m1 σ1 => ∀ c, VR f c → TE prog w n L m1 σ1 (callWith pos c [] (backTo pos (starEach args env)) []) P))
    (he : eval (.Call func args [] pos) env = (do callWith pos (← eval func env) [] (backTo pos (starEach args env)) (backToKw pos (keywordEach [] env))) := by rfl) :
    TE prog w n L m σ (eval (.Call func args [] pos) env) P :=
  fun g A s Q hA R k => Call_ (h g A s _ hA R fun x a m1 σ1 h1 t1 p1 r1 R1 => p1 a r1 g A _ _ hA R1 fun y b m2 σ2 h2 t2 p2 r2 R2 => k y b m2 σ2 h2 t2 p2 r2 R2) he

theorem c_def {f : Addr} {e : Expr} {rest : List Expr} {pos : Pos} {P : AV → Loc → Sto → Prop} (hk : keepIn (KF w) (.ref f) = true)
    (h : TL prog w n L m σ (spliced (backTo pos (starEach (e :: rest) env))) (fun vs m1 σ1 => ∀ ws, VRs vs ws → TE prog w n L m1 σ1 (call (.ref f) ws) P))
    (he : starEach (e :: rest) env = (false, eval e env) :: starEach rest env := by rfl) (hplain : (backTo pos (starEach rest env)).any (·.1) = false := by rfl) :
    ∀ c, VR (.ref f) c → TE prog w n L m σ (callWith pos c [] (backTo pos (starEach (e :: rest) env)) []) P := by
  intro c hc g A s Q hA R k
  cases hc
  obtain ⟨mg, mb, X, _⟩ := R.world
  refine callWith_K X hk (h g A s _ hA R fun x a m1 σ1 h1 t1 p1 r1 R1 => ?_) he hplain
  obtain ⟨mg, mb, X1, _⟩ := R1.world
  exact ⟨X1, p1 a r1 g A _ _ hA R1 fun y b m2 σ2 h2 t2 p2 r2 R2 => k y b m2 σ2 h2 t2 p2 r2 R2⟩

theorem c_builtin {id : String} {e : Expr} {rest : List Expr} {pos : Pos} {P : AV → Loc → Sto → Prop}
    (h : TL prog w n L m σ (spliced (backTo pos (starEach (e :: rest) env))) (fun vs m1 σ1 => ∀ ws, VRs vs ws → TE prog w n L m1 σ1 (call (.builtin id) ws) P))
    (he : starEach (e :: rest) env = (false, eval e env) :: starEach rest env := by rfl) (hplain : (backTo pos (starEach rest env)).any (·.1) = false := by rfl) :
    ∀ c, VR (.fn id) c → TE prog w n L m σ (callWith pos c [] (backTo pos (starEach (e :: rest) env)) []) P := by
  intro c hc g A s Q hA R k
  cases hc
  exact PyProof.Rows.callWith_builtin1 (h g A s _ hA R fun x a m1 σ1 h1 t1 p1 r1 R1 => p1 a r1 g A _ _ hA R1 fun y b m2 σ2 h2 t2 p2 r2 R2 => k y b m2 σ2 h2 t2 p2 r2 R2) he hplain

/-- a method of a value of a built-in type -/
noncomputable def Meth (ov : AV) (name : Str) (id : String) (w : World) (σ : Sto) : Prop :=
  ∀ (M : Model) (A : Around) (g : Frm) (L : Addr) (m : Loc) (s : Shared) (c : Value) (pl : Sem Bool) (Q : Value × List Value → Shared → Prop),
    VR ov c → Rel w g L m σ s.heap → Q (.builtin id, [c]) s → wpAny M A (getMethod c name pl) Q NoE s

theorem e_meth {o : Expr} {name : Str} {apos pos : Pos} {e : Expr} {rest : List Expr} {id : String} {P : AV → Loc → Sto → Prop}
    (h : TE prog w n L m σ (eval o env) (fun ov m1 σ1 => Meth ov name id w σ1 ∧ TL prog w n L m1 σ1 (spliced (backTo pos (starEach (e :: rest) env))) (fun vs m2 σ2 => ∀ c ws, VR ov c → VRs vs ws → TE prog w n L m2 σ2 (call (.builtin id) (c :: ws)) P)))
    {pl : Sem Bool}
    (he : eval (.Call (.Attribute o name apos) (e :: rest) [] pos) env = (do
          let ov ← eval o env
          standAt apos.atName
          let x ← holding [ov] (getMethod ov name pl)
          match x with
            | (f, first) => callWith pos f first (backTo pos (starEach (e :: rest) env)) []) := by rfl)
    (hs : starEach (e :: rest) env = (false, eval e env) :: starEach rest env := by rfl) (hplain : (backTo pos (starEach rest env)).any (·.1) = false := by rfl) :
    TE prog w n L m σ (eval (.Call (.Attribute o name apos) (e :: rest) [] pos) env) P :=
  fun g A s Q hA R k => MethodCall_ (h g A s _ hA R fun x a m1 σ1 h1 t1 p1 r1 R1 => p1.1 _ A g L m1 _ a pl _ r1 R1
    (callWith_method1 (p1.2 g A _ _ hA R1 fun y b m2 σ2 h2 t2 p2 r2 R2 => p2 a b r1 r2 g A _ _ hA R2 fun z d m3 σ3 h3 t3 p3 r3 R3 => k z d m3 σ3 h3 t3 p3 r3 R3) hs hplain)) he

theorem e_meth0 {o : Expr} {name : Str} {apos pos : Pos} {id : String} {P : AV → Loc → Sto → Prop}
    (h : TE prog w n L m σ (eval o env) (fun ov m1 σ1 => Meth ov name id w σ1 ∧ ∀ c, VR ov c → TE prog w n L m1 σ1 (call (.builtin id) [c]) P))
    {pl : Sem Bool}
    (he : eval (.Call (.Attribute o name apos) [] [] pos) env = (do
          let ov ← eval o env
          standAt apos.atName
          let x ← holding [ov] (getMethod ov name pl)
          match x with
            | (f, first) => callWith pos f first (backTo pos (starEach [] env)) []) := by rfl) :
    TE prog w n L m σ (eval (.Call (.Attribute o name apos) [] [] pos) env) P :=
  fun g A s Q hA R k => MethodCall_ (h g A s _ hA R fun x a m1 σ1 h1 t1 p1 r1 R1 => p1.1 _ A g L m1 _ a pl _ r1 R1
    (callWith_method0 (p1.2 a r1 g A _ _ hA R1 fun z d m3 σ3 h3 t3 p3 r3 R3 => k z d m3 σ3 h3 t3 p3 r3 R3))) he

-- ### operations on ints
section
variable {i j : Int} {P : AV → Loc → Sto → Prop}
theorem o_add (h : P (.int (i + j)) m σ) : ∀ a b, VR (.int i) a → VR (.int j) b → TE prog w n L m σ (binaryOp .Add a b) P := by
  intro a b ha hb g A s Q hA R k; cases ha; cases hb; exact add_int (k _ _ m σ s.heap _ h (.int _ _) R)
theorem o_sub (h : P (.int (i - j)) m σ) : ∀ a b, VR (.int i) a → VR (.int j) b → TE prog w n L m σ (binaryOp .Sub a b) P := by
  intro a b ha hb g A s Q hA R k; cases ha; cases hb; exact sub_int (k _ _ m σ s.heap _ h (.int _ _) R)
theorem o_mul (hm : IntMulOk i j) (h : P (.int (i * j)) m σ) : ∀ a b, VR (.int i) a → VR (.int j) b → TE prog w n L m σ (binaryOp .Mult a b) P := by
  intro a b ha hb g A s Q hA R k; cases ha; cases hb; exact mul_int (k _ _ m σ s.heap _ h (.int _ _) R) hm
theorem o_fdiv (hj : j ≠ 0) (hs : j.natAbs < 1073741824) (h : P (.int (i.fdiv j)) m σ) : ∀ a b, VR (.int i) a → VR (.int j) b → TE prog w n L m σ (binaryOp .FloorDiv a b) P := by
  intro a b ha hb g A s Q hA R k; cases ha; cases hb; exact floordiv_int hj (k _ _ m σ s.heap _ h (.int _ _) R) (.inl (PyProof.noPylong_small hs))
theorem o_fmod (hj : j ≠ 0) (h : P (.int (i.fmod j)) m σ) : ∀ a b, VR (.int i) a → VR (.int j) b → TE prog w n L m σ (binaryOp .Mod a b) P := by
  intro a b ha hb g A s Q hA R k; cases ha; cases hb; exact mod_int' hj (k _ _ m σ s.heap _ h (.int _ _) R)
theorem o_shl (h0 : 0 ≤ j) (h1 : j ≤ 1000000) (h2 : i.natAbs < 2 ^ 64) (h : P (.int (i * 2 ^ j.toNat)) m σ) : ∀ a b, VR (.int i) a → VR (.int j) b → TE prog w n L m σ (binaryOp .LShift a b) P := by
  intro a b ha hb g A s Q hA R k; cases ha; cases hb; exact lshift_int_small h0 h1 h2 (k _ _ m σ s.heap _ h (.int _ _) R)
theorem o_shr (h0 : 0 ≤ j) (h : P (.int (i.fdiv (2 ^ j.toNat))) m σ) : ∀ a b, VR (.int i) a → VR (.int j) b → TE prog w n L m σ (binaryOp .RShift a b) P := by
  intro a b ha hb g A s Q hA R k; cases ha; cases hb; exact rshift_int h0 (k _ _ m σ s.heap _ h (.int _ _) R)
theorem o_and (h : P (.int (Builtin.bitAnd i j)) m σ) : ∀ a b, VR (.int i) a → VR (.int j) b → TE prog w n L m σ (binaryOp .BitAnd a b) P := by
  intro a b ha hb g A s Q hA R k; cases ha; cases hb; exact and_int (k _ _ m σ s.heap _ h (.int _ _) R)
theorem o_or (h : P (.int (Builtin.bitOr i j)) m σ) : ∀ a b, VR (.int i) a → VR (.int j) b → TE prog w n L m σ (binaryOp .BitOr a b) P := by
  intro a b ha hb g A s Q hA R k; cases ha; cases hb; exact or_int (k _ _ m σ s.heap _ h (.int _ _) R)
theorem o_xor (h : P (.int (Builtin.bitXor i j)) m σ) : ∀ a b, VR (.int i) a → VR (.int j) b → TE prog w n L m σ (binaryOp .BitXor a b) P := by
  intro a b ha hb g A s Q hA R k; cases ha; cases hb; exact xor_int (k _ _ m σ s.heap _ h (.int _ _) R)
theorem q_le {P : Bool → Loc → Sto → Prop} (h : P (decide (i ≤ j)) m σ) : ∀ a b, VR (.int i) a → VR (.int j) b → TE prog w n L m σ (compareOp .LtE a b) (fun c m σ => ∃ d, c = .bool d ∧ P d m σ) := by
  intro a b ha hb g A s Q hA R k; cases ha; cases hb; exact le_int (by have := k (.bool _) _ m σ s.heap s.toks ⟨_, rfl, h⟩ (.bool _) R; exact this)
theorem q_lt {P : Bool → Loc → Sto → Prop} (h : P (decide (i < j)) m σ) : ∀ a b, VR (.int i) a → VR (.int j) b → TE prog w n L m σ (compareOp .Lt a b) (fun c m σ => ∃ d, c = .bool d ∧ P d m σ) := by
  intro a b ha hb g A s Q hA R k; cases ha; cases hb; exact lt_int (by have := k (.bool _) _ m σ s.heap s.toks ⟨_, rfl, h⟩ (.bool _) R; exact this)
theorem q_gt {P : Bool → Loc → Sto → Prop} (h : P (decide (i > j)) m σ) : ∀ a b, VR (.int i) a → VR (.int j) b → TE prog w n L m σ (compareOp .Gt a b) (fun c m σ => ∃ d, c = .bool d ∧ P d m σ) := by
  intro a b ha hb g A s Q hA R k; cases ha; cases hb; exact gt_int (by have := k (.bool _) _ m σ s.heap s.toks ⟨_, rfl, h⟩ (.bool _) R; exact this)
theorem q_ge {P : Bool → Loc → Sto → Prop} (h : P (decide (i ≥ j)) m σ) : ∀ a b, VR (.int i) a → VR (.int j) b → TE prog w n L m σ (compareOp .GtE a b) (fun c m σ => ∃ d, c = .bool d ∧ P d m σ) := by
  intro a b ha hb g A s Q hA R k; cases ha; cases hb; exact ge_int (by have := k (.bool _) _ m σ s.heap s.toks ⟨_, rfl, h⟩ (.bool _) R; exact this)
theorem q_eq {P : Bool → Loc → Sto → Prop} (h : P (i == j) m σ) : ∀ a b, VR (.int i) a → VR (.int j) b → TE prog w n L m σ (compareOp .Eq a b) (fun c m σ => ∃ d, c = .bool d ∧ P d m σ) := by
  intro a b ha hb g A s Q hA R k; cases ha; cases hb; exact eq_int (by have := k (.bool _) _ m σ s.heap s.toks ⟨_, rfl, h⟩ (.bool _) R; exact this)
theorem q_ne {P : Bool → Loc → Sto → Prop} (h : P (i != j) m σ) : ∀ a b, VR (.int i) a → VR (.int j) b → TE prog w n L m σ (compareOp .NotEq a b) (fun c m σ => ∃ d, c = .bool d ∧ P d m σ) := by
  intro a b ha hb g A s Q hA R k; cases ha; cases hb; exact ne_int (by have := k (.bool _) _ m σ s.heap s.toks ⟨_, rfl, h⟩ (.bool _) R; exact this)
theorem y_int {P : Bool → Loc → Sto → Prop} (h : P (i != 0) m σ) : ∀ a, VR (.int i) a → TB prog w n L m σ (truthy a) P := by
  intro a ha g A s Q hA R k; cases ha; exact truthy_int (by have := k _ _ m σ s.heap s.toks h rfl R; exact this)
theorem y_bool {b : Bool} {P : Bool → Loc → Sto → Prop} (h : P b m σ) : ∀ a, VR (.bool b) a → TB prog w n L m σ (truthy a) P := by
  intro a ha g A s Q hA R k; cases ha; exact wpAny_truthy_bool (by have := k _ _ m σ s.heap s.toks h rfl R; exact this)
end
end
/-! Core3 -/
noncomputable def bnd : List Str → List AV → Loc → Loc
  | x :: xs, v :: vs, m => bnd xs vs (upL m x v)
  | _, _, m => m
noncomputable def retOf : AFl → AV
  | .ret v => v
  | _ => .none
theorem retOf_rel {f : AFl} {c : Flow} (r : FR f c) : VR (retOf f) (match c with | .ret v => v | _ => .none) := by
  cases r with
  | ret r => exact r
  | _ => exact .none

theorem bnd_rel : ∀ (xs : List Str) (vs : List AV) (ws : List Value) (pre : List (Str × Value)) (m : Loc), VRs vs ws →
    (∀ y v, m y = some v → ∃ c, pre.reverse.lookup y = some c ∧ VR v c) → ∀ y v, bnd xs vs m y = some v → ∃ c, (pre ++ xs.zip ws).reverse.lookup y = some c ∧ VR v c
  | [], _, _, pre, m, _, h, y, v, e => by simpa [bnd] using h y v (by simpa [bnd] using e)
  | x :: xs, [], _, pre, m, .nil, h, y, v, e => by simpa [bnd] using h y v (by simpa [bnd] using e)
  | x :: xs, u :: vs, _ :: ws, pre, m, .cons (b := b) r rs, h, y, v, e => by
    have := bnd_rel xs vs ws (pre ++ [(x, b)]) (upL m x u) rs (fun y v e => by
      rw [List.reverse_append]
      show ∃ c, List.lookup y ((x, b) :: pre.reverse) = some c ∧ VR v c
      rw [List.lookup_cons]
      unfold upL at e
      by_cases q : y = x
      · rw [if_pos q] at e; cases e; rw [q]; simp; exact r
      · rw [if_neg q] at e
        rw [show (y == x) = false from beq_false_of_ne q]
        exact h y v e) y v e
    simpa using this

/-- the frame of a call: all that the store does not own -/
noncomputable def frmOf (σ : Sto) (h : Heap) : Frm := fun a => match σ a with
  | some _ => Option.none
  | Option.none => h.get? a
theorem frmOf_some {σ : Sto} {h : Heap} {a : Addr} {o : Obj} (e : frmOf σ h a = some o) : σ a = Option.none ∧ h.get? a = some o := by
  unfold frmOf at e
  split at e
  · cases e
  · exact ⟨by assumption, e⟩
theorem frmOf_none {σ : Sto} {h : Heap} {a : Addr} (e : σ a = Option.none) : frmOf σ h a = h.get? a := by unfold frmOf; rw [e]

section
variable {w : World} {g : Frm} {L L' : Addr} {m m₀ : Loc} {σ σ' : Sto} {h h' h₁ : Heap}
theorem Rel.frm (R : Rel w g L m σ h) {a : Addr} {o : Obj} (e : g a = some o) : frmOf σ h a = some o := by
  have hn : σ a = Option.none := by
    cases q : σ a with
    | none => rfl
    | some ao => have := (R.apart a ao q).2; rw [e] at this; cases this
  rw [frmOf_none hn]; exact R.keep a o e
theorem Rel.base_frm (R : Rel w g L m σ h) : Bs w (frmOf σ h) := let ⟨b, mg, mb, B, k⟩ := R.base; ⟨b, mg, mb, B, fun a o e => R.frm (k a o e)⟩
/-- into a call: a new frame at L', which is no object of h -/
theorem Rel.enter (R : Rel w g L m σ h) (hk : ∀ a o, h.get? a = some o → h₁.get? a = some o) (hL' : h.get? L' = Option.none) {mc : Str → Option Value} (hn : h₁.Ns L' mc) (hm : ∀ x v, m₀ x = some v → ∃ c, mc x = some c ∧ VR v c) :
    Rel w (frmOf σ h) L' m₀ σ h₁ := by
  refine ⟨R.base_frm, fun a o e => hk a o (frmOf_some e).2, ⟨mc, hn, hm⟩, ?_, fun a ao e => let ⟨o, e1, e2⟩ := R.sto a ao e; ⟨o, hk _ _ e1, e2⟩, fun a ao e => ⟨fun q => ?_, ?_⟩⟩
  · unfold frmOf; split
    · rfl
    · exact hL'
  · obtain ⟨o, e1, _⟩ := R.sto a ao e; rw [q, hL'] at e1; cases e1
  · unfold frmOf; rw [e]
/-- and back -/
theorem Rel.leave {m' : Loc} (R : Rel w g L m σ h) (R' : Rel w (frmOf σ h) L' m' σ' h') : Rel w g L m σ' h' := by
  have hLn : σ L = Option.none := by
    cases q : σ L with
    | none => rfl
    | some ao => exact absurd rfl (R.apart L ao q).1
  obtain ⟨mc, hn, hm⟩ := R.ns
  obtain ⟨oL, es, ep, hL, r⟩ := id hn
  have gL' : frmOf σ h L = some oL := by rw [frmOf_none hLn]; exact hL
  refine ⟨R.base, fun a o e => R'.keep a o (R.frm e), ⟨mc, ⟨oL, es, ep, R'.keep _ _ gL', r⟩, hm⟩, R.gL, R'.sto, fun a ao e => ⟨fun q => ?_, ?_⟩⟩
  · have := (R'.apart a ao e).2; rw [q, gL'] at this; cases this
  · cases q : g a with
    | none => rfl
    | some o => have := (R'.apart a ao e).2; rw [R.frm q] at this; cases this
end

section
variable {prog : Program} {w : World} {n : Nat} {L : Addr} {m : Loc} {σ : Sto} {env : Env}

/-- a call of a def of the text -/
theorem call_def {f : Addr} {name qual : Str} {params : Arguments} {body : List Stmt} {scope : Scope} {dV kV doc pm cdv ct oc : Value} {an od : Option Addr} {osl : Array (Option Value)} {xs : List Str} {vs : List AV} {P : AV → Loc → Sto → Prop}
    (ho : (KF w).lookup f = some ⟨oc, od, .func (fnOf name qual params body scope dV kV doc pm an cdv ct), osl⟩) (hcd : codeIn (KF w) cdv qual = true)
    (hbind : ∀ ws, VRs vs ws → bindArgs (fnOf name qual params body scope dV kV doc pm an cdv ct) ⟨ws, []⟩ = pure (xs.zip ws))
    (hloc : ∀ x ∈ xs, scope.names.lookup x = some .local) (hcell : ∀ x ∈ scope.names, x.2 ≠ .cell)
    (h : ∀ L', TF prog w n L' (bnd xs vs noL) σ (execs body (envX qual scope L' f cdv [])) (fun fl _ σ' => P (retOf fl) m σ'))
    (hco : scope.isCoroutine = false := by rfl) (hgen : scope.isGenerator = false := by rfl) (hk : scope.kind = .function := by rfl) :
    ∀ ws, VRs vs ws → TE prog w (n + 1) L m σ (call (.ref f) ws) P := by
  intro ws hws g A s Q hA R k
  obtain ⟨mg, mb, X, ⟨p, loose, mean, T⟩, _, _⟩ := R.world
  refine wpAny_call (codeAny_call_def (fd := fnOf name qual params body scope dV kV doc pm an cdv ct) (body := body) (binds := xs.zip ws) (by show A.depth < 1000; have := hA.2.1; omega) (X _ _ ho) rfl T.nolimit (codeRec_of X hcd) rfl
    (.of_eq (hbind ws hws)) hcell (fun y hy => hloc y.1 (List.of_mem_zip hy).1) (fun h₀ hn hk₀ => ?_) hco hgen hk)
  have R' : Rel w (frmOf σ s.heap) s.heap.objs.size (bnd xs vs noL) σ h₀ := R.enter hk₀ (Heap.get?_none_of_le (Nat.le_refl _)) hn
    (fun y v e => by simpa using bnd_rel xs vs ws [] noL hws (fun y v e => by cases e) y v e)
  refine wpAny_mono (h s.heap.objs.size (frmOf σ s.heap) (A.deeper _) { s with heap := h₀, toks := _ } (fun fl s' => Q (match fl with | .ret v => v | _ => .none) s') hA.deeper R' fun fl c m' σ' h' tk p r Rr => ?_) (fun _ _ x => x) (fun _ _ x => x.elim)
  have := retOf_rel r
  cases r <;> exact k (retOf _) _ m σ' h' tk p this (R.leave Rr)
end

-- ### the bridge to the library's ledgers
noncomputable def allOf (h : Heap) (L : Addr) : List (Addr × Obj) := (List.range h.objs.size).filterMap fun a => if a = L then Option.none else (h.get? a).map fun o => (a, o)
theorem mem_allOf {h : Heap} {L a : Addr} {o : Obj} : (a, o) ∈ allOf h L ↔ a ≠ L ∧ h.get? a = some o := by
  unfold allOf
  rw [List.mem_filterMap]
  constructor
  · rintro ⟨b, _, e⟩
    split at e
    · cases e
    · obtain ⟨o', e1, e2⟩ := Option.map_eq_some_iff.mp e
      cases e2
      exact ⟨by assumption, e1⟩
  · rintro ⟨h1, h2⟩
    exact ⟨a, List.mem_range.mpr (Heap.lt_size h2), by rw [if_neg h1, h2]; rfl⟩
theorem allOf_news {h : Heap} {L : Addr} : News {} L h (allOf h L) := fun p hp => by
  obtain ⟨h1, h2⟩ := mem_allOf.mp hp
  exact ⟨h2, h1, Heap.get?_none_of_le (Nat.zero_le _)⟩
theorem fr_of {h : Heap} {L : Addr} {mc : Str → Option Value} (hn : h.Ns L mc) : Fr {} L h mc := by
  refine ⟨hn, fun b o e => ?_, Nat.zero_le _⟩
  rw [Heap.get?_none_of_le (h := {}) (Nat.zero_le _)] at e
  exact nomatch e

section
variable {w : World} {g : Frm} {L : Addr} {m : Loc} {σ : Sto} {h h' : Heap}
theorem Rel.after {mc : Str → Option Value} (R : Rel w g L m σ h) (hmc : ∀ x v, m x = some v → ∃ c, mc x = some c ∧ VR v c) (hn : h'.Ns L mc) (hk : ∀ a o, a ≠ L → h.get? a = some o → h'.get? a = some o) : Rel w g L m σ h' :=
  ⟨R.base, fun a o e => hk a o (fun q => by rw [q, R.gL] at e; cases e) (R.keep a o e), ⟨mc, hn, hmc⟩, R.gL, fun a ao e => let ⟨o, e1, e2⟩ := R.sto a ao e; ⟨o, hk _ _ (R.apart a ao e).1 e1, e2⟩, R.apart⟩
theorem Rel.news {mc : Str → Option Value} {extra : List (Addr × Obj)} (R : Rel w g L m σ h) (hmc : ∀ x v, m x = some v → ∃ c, mc x = some c ∧ VR v c) (F : Fr {} L h' mc) (N : News {} L h' (extra ++ allOf h L)) : Rel w g L m σ h' :=
  R.after hmc F.ns fun a o q e => (N (a, o) (List.mem_append_right _ (mem_allOf.mpr ⟨q, e⟩))).1
theorem Rel.add {a : Addr} {o : Obj} {ao : AO} (R : Rel w g L m σ h) (e : h.get? a = some o) (r : OR ao o) (hL : a ≠ L) (hg : g a = Option.none) : Rel w g L m (upS σ a ao) h := by
  refine ⟨R.base, R.keep, R.ns, R.gL, fun b bo q => ?_, fun b bo q => ?_⟩
  · unfold upS at q
    split at q
    · rename_i z; subst z; cases q; exact ⟨o, e, r⟩
    · exact R.sto b bo q
  · unfold upS at q
    split at q
    · rename_i z; subst z; exact ⟨hL, hg⟩
    · exact R.apart b bo q
theorem Rel.noneAt {a : Addr} (R : Rel w g L m σ h) (e : h.get? a = Option.none) : g a = Option.none ∧ σ a = Option.none ∧ a ≠ L := by
  refine ⟨?_, ?_, fun q => ?_⟩
  · cases q : g a with
    | none => rfl
    | some o => have := R.keep a o q; rw [e] at this; cases this
  · cases q : σ a with
    | none => rfl
    | some o => obtain ⟨x, e1, _⟩ := R.sto a o q; rw [e] at e1; cases e1
  · obtain ⟨mc, ⟨o, es, ep, hL, _⟩, _⟩ := R.ns
    rw [q, hL] at e; cases e
/-- a new object that the library's ledger names -/
theorem Rel.newsAdd {mc : Str → Option Value} {a : Addr} {o : Obj} {ao : AO} {extra : List (Addr × Obj)} (R : Rel w g L m σ h) (hmc : ∀ x v, m x = some v → ∃ c, mc x = some c ∧ VR v c) (F : Fr {} L h' mc) (N : News {} L h' ((a, o) :: extra ++ allOf h L)) (r : OR ao o) (e : h.get? a = Option.none) :
    Rel w g L m (upS σ a ao) h' ∧ σ a = Option.none :=
  let ⟨h1, h2, h3⟩ := R.noneAt e
  ⟨(R.news hmc F N).add (N (a, o) (.head _)).1 r h3 h1, h2⟩
theorem size_none {h : Heap} : h.get? h.objs.size = Option.none := Heap.get?_none_of_le (Nat.le_refl _)
end

section
variable {prog : Program} {w : World} {n : Nat} {L : Addr} {m : Loc} {σ : Sto} {env : Env} {P : AV → Loc → Sto → Prop}
theorem b_divmod {i j : Int} (hj : j ≠ 0) (hs : j.natAbs < 1073741824) (h : ∀ a, σ a = Option.none → P (.ref a) m (upS σ a (.tup [.int (i.fdiv j), .int (i.fmod j)]))) :
    ∀ ws, VRs [.int i, .int j] ws → TE prog w n L m σ (call (.builtin "divmod") ws) P := by
  rintro _ (_ | ⟨ha, _ | ⟨hb, _ | _⟩⟩) g A s Q hA R k
  cases ha; cases hb
  obtain ⟨mc, hn, hm⟩ := R.ns
  refine divmod_N (fr_of hn) allOf_news hj (fun h' F N => ?_) (.inl (PyProof.noPylong_small hs))
  obtain ⟨R', ha⟩ := R.newsAdd (extra := []) hm F N (.tup 0 (.cons (.int _ _) (.cons (.int _ _) .nil))) size_none
  exact k _ _ _ _ _ _ (h _ ha) (.ref _) R'
theorem b_bits {i : Int} (h : P (.int (Builtin.Int.intBits i)) m σ) : ∀ c, VR (.int i) c → TE prog w n L m σ (call (.builtin "int.bit_length") [c]) P := by
  intro c hc g A s Q hA R k; cases hc; exact call_int_bit_length (k _ _ m σ s.heap _ h (.int _ _) R)
theorem meth_bits {i : Int} : Meth (.int i) "bit_length" "int.bit_length" w σ := by
  intro M A g L m s c pl Q hc R h; cases hc; exact getMethod_int_bit_length h
end

-- the globals' values
section
variable {w : World}
theorem g_lim : nsIn (KF w) mainGlobals (Str.ofString "_DIV_LIMIT") = some (some (.int 4000 353)) := by rfl
theorem g_divmod : nsIn (KF w) mainGlobals (Str.ofString "divmod") = some Option.none := by rfl
end
/-! Core4 -/
theorem VRs.length {vs ws} (h : VRs vs ws) : vs.length = ws.length := by
  induction h with
  | nil => rfl
  | cons _ _ ih => simp [ih]
theorem VRs.get {vs ws} (h : VRs vs ws) : ∀ {i : Nat} {v : AV}, vs[i]? = some v → ∃ c, ws[i]? = some c ∧ VR v c := by
  induction h with
  | nil => intro i v e; simp at e
  | @cons a b as bs r rs ih =>
    intro i v e
    cases i with
    | zero => simp at e; subst e; exact ⟨b, by simp, r⟩
    | succ i => simp at e; obtain ⟨c, h1, h2⟩ := ih e; exact ⟨c, by simpa using h1, h2⟩
theorem VRs.append {vs ws vs' ws'} (h : VRs vs ws) (h' : VRs vs' ws') : VRs (vs ++ vs') (ws ++ ws') := by
  induction h with
  | nil => exact h'
  | cons r _ ih => exact .cons r ih
theorem VRs.reverse {vs ws} (h : VRs vs ws) : VRs vs.reverse ws.reverse := by
  induction h with
  | nil => exact .nil
  | cons r _ ih => simp only [List.reverse_cons]; exact ih.append (.cons r .nil)
theorem VRs.set {vs ws} (h : VRs vs ws) {v c} (r : VR v c) : ∀ i : Nat, VRs (vs.set i v) (ws.set i c) := by
  induction h with
  | nil => intro i; exact .nil
  | cons r' rs ih =>
    intro i
    cases i with
    | zero => exact .cons r rs
    | succ i => exact .cons r' (ih i)
theorem VRs.take {vs ws} (h : VRs vs ws) : ∀ i : Nat, VRs (vs.take i) (ws.take i) := by
  induction h with
  | nil => intro i; simp; exact .nil
  | cons r' rs ih =>
    intro i
    cases i with
    | zero => exact .nil
    | succ i => exact .cons r' (ih i)
theorem VRs.drop {vs ws} (h : VRs vs ws) : ∀ i : Nat, VRs (vs.drop i) (ws.drop i) := by
  induction h with
  | nil => intro i; simp; exact .nil
  | cons r' rs ih =>
    intro i
    cases i with
    | zero => exact .cons r' rs
    | succ i => exact ih i
theorem VRs.erase {vs ws} (h : VRs vs ws) : ∀ i : Nat, VRs (vs.eraseIdx i) (ws.eraseIdx i) := by
  induction h with
  | nil => intro i; simp; exact .nil
  | cons r' rs ih =>
    intro i
    cases i with
    | zero => exact rs
    | succ i => exact .cons r' (ih i)
theorem VRs.replicate {v c} (r : VR v c) : ∀ n : Nat, VRs (List.replicate n v) (List.replicate n c)
  | 0 => .nil
  | n + 1 => .cons r (VRs.replicate r n)

section
variable {w : World} {g : Frm} {L : Addr} {m : Loc} {σ : Sto} {h : Heap}
theorem Rel.list {l : Addr} {vs : List AV} (R : Rel w g L m σ h) (e : σ l = some (.list vs)) : ∃ ws n, h.get? l = some (listO ws n) ∧ VRs vs ws ∧ h.IsList l ws.toArray := by
  obtain ⟨o, e1, e2⟩ := R.sto l _ e
  cases e2 with
  | list n r => exact ⟨_, n, e1, r, PySem.IsL.isList (n := n) e1⟩
theorem Rel.tup {l : Addr} {vs : List AV} (R : Rel w g L m σ h) (e : σ l = some (.tup vs)) : ∃ ws n, h.get? l = some (tupO ws n) ∧ VRs vs ws ∧ h.IsTuple l ws.toArray := by
  obtain ⟨o, e1, e2⟩ := R.sto l _ e
  cases e2 with
  | tup n r => exact ⟨_, n, e1, r, ⟨_, e1, rfl, n, rfl⟩⟩
/-- a list is turned by f -/
theorem Rel.turn {l : Addr} {vs vs' : List AV} {ws ws' : List Value} {n : Nat} (R : Rel w g L m σ h) (e : σ l = some (.list vs)) (el : h.get? l = some (listO ws n)) (f : Array Value → Array Value) (hf : f ws.toArray = ws'.toArray) (r : VRs vs' ws') :
    Rel w g L m (upS σ l (.list vs')) (h.update l (Obj.mapSeq f)) := by
  have q := PySem.IsL.update (n := n) el f
  rw [hf] at q
  exact R.set e (fun b o hb e' => ((Heap.SameBut.update ..).2 b hb).trans e') q (.list _ r)
end

section
variable {prog : Program} {w : World} {n : Nat} {L : Addr} {m : Loc} {σ : Sto} {env : Env} {P : AV → Loc → Sto → Prop}

theorem e_list {elts : List Expr} {pos : Pos} (h : TL prog w n L m σ (spliced (backTo pos (starEach elts env))) (fun vs m1 σ1 => vs.length ≤ sizeLine ∧ ∀ a, σ1 a = Option.none → P (.ref a) m1 (upS σ1 a (.list vs)))) :
    TE prog w n L m σ (eval (.List elts pos) env) P :=
  fun g A s Q hA R k => List_ (h g A s _ hA R fun vs ws m1 σ1 h1 t1 p1 r1 R1 =>
    wpAny_newObj_type (k _ _ _ _ _ _ (p1.2 _ R1.fresh) (.ref _) (R1.push (.list 0 r1) rfl)) (by show ws.toArray.size ≤ sizeLine; rw [List.size_toArray, ← r1.length]; exact p1.1))
theorem e_tuple {elts : List Expr} {c : Nat} {pos : Pos} (h : TL prog w n L m σ (spliced (backTo pos (starEach elts env))) (fun vs m1 σ1 => vs.length ≤ sizeLine ∧ ∀ a, σ1 a = Option.none → P (.ref a) m1 (upS σ1 a (.tup vs)))) :
    TE prog w n L m σ (eval (.Tuple elts c pos) env) P :=
  fun g A s Q hA R k => Tuple_ (h g A s _ hA R fun vs ws m1 σ1 h1 t1 p1 r1 R1 =>
    wpAny_newObj_type (k _ _ _ _ _ _ (p1.2 _ R1.fresh) (.ref _) (R1.push (.tup 0 r1) rfl)) (by show ws.toArray.size ≤ sizeLine; rw [List.size_toArray, ← r1.length]; exact p1.1))

/-- o[i] -/
theorem e_sub {value slice : Expr} {pos : Pos} (h : TE prog w n L m σ (eval value env) (fun o m1 σ1 => TE prog w n L m1 σ1 (eval slice env) (fun i m2 σ2 => ∀ a b, VR o a → VR i b → TE prog w n L m2 σ2 (subscriptTail value slice a b) P))) :
    TE prog w n L m σ (eval (.Subscript value slice pos) env) P :=
  fun g A s Q hA R k => Subscript_ (h g A s _ hA R fun x a m1 σ1 h1 t1 p1 r1 R1 => p1 g A _ _ hA R1 fun y b m2 σ2 h2 t2 p2 r2 R2 =>
    p2 a b r1 r2 g A _ _ hA R2 fun c d m3 σ3 h3 t3 p3 r3 R3 => k c d m3 σ3 h3 t3 p3 r3 R3)
theorem x_item {value slice : Expr} {l : Addr} {vs : List AV} {i : Int} {v : AV} (e : σ l = some (.list vs)) (h0 : 0 ≤ i) (h1 : i < 2 ^ 63) (hv : vs[i.toNat]? = some v) (h : P v m σ)
    (hs : ∀ u, subscripted slice false (.ref l) (.int i u) = operate [.ref l, .int i u] (getItem (.ref l) (.int i u)) := by intro _; with_unfolding_all rfl) (hg : ∀ r, letTemporaryGo value (.ref l) r = pure () := by intro _; with_unfolding_all rfl) :
    ∀ a b, VR (.ref l) a → VR (.int i) b → TE prog w n L m σ (subscriptTail value slice a b) P := by
  intro a b ha hb g A s Q hA R k
  cases ha; cases hb
  obtain ⟨ws, n, e1, r, hl⟩ := R.list e
  obtain ⟨c, hc, rc⟩ := r.get hv
  exact item_listL hl h0 h1 hc (by have := k v c m σ s.heap s.toks h rc R; exact this) (hs _) hg
theorem x_back {value slice : Expr} {l : Addr} {vs : List AV} {i : Int} {v : AV} (e : σ l = some (.list vs)) (h0 : i < 0) (h1 : -(vs.length : Int) ≤ i) (hf : -(2 ^ 63) ≤ i) (hv : vs[(i + vs.length).toNat]? = some v) (h : P v m σ)
    (hs : ∀ u, subscripted slice false (.ref l) (.int i u) = operate [.ref l, .int i u] (getItem (.ref l) (.int i u)) := by intro _; with_unfolding_all rfl) (hg : ∀ r, letTemporaryGo value (.ref l) r = pure () := by intro _; with_unfolding_all rfl) :
    ∀ a b, VR (.ref l) a → VR (.int i) b → TE prog w n L m σ (subscriptTail value slice a b) P := by
  intro a b ha hb g A s Q hA R k
  cases ha; cases hb
  obtain ⟨ws, n, e1, r, hl⟩ := R.list e
  obtain ⟨c, hc, rc⟩ := r.get hv
  have hlen := r.length
  exact subscriptTail_builtin hl.typeIs slot_list_getitem.lookup (wpAny_getItem_list_neg hl h0 (by rw [List.size_toArray, ← hlen]; exact h1) hf (by rw [List.size_toArray, ← hlen]; simpa using hc) (by have := k v c m σ s.heap s.toks h rc R; exact this)) (hs _) hg

-- slices
noncomputable def PtOk (lo : Option AV) : Prop := ∀ v, lo = some v → ∃ i, v = .int i
theorem e_sliceTo {value upper : Expr} {p pos : Pos} (h : TE prog w n L m σ (eval value env) (fun o m1 σ1 => TE prog w n L m1 σ1 (eval upper env) (fun i m2 σ2 => ∃ l vs b, o = .ref l ∧ i = .int (b : Nat) ∧ σ2 l = some (.list vs) ∧ vs.length ≤ sizeLine ∧
      ∀ a, σ2 a = Option.none → P (.ref a) m2 (upS σ2 a (.list (vs.take b)))))) (ht : ∀ o r, letTemporaryGo value o r = pure () := by intro _ _; rfl) :
    TE prog w n L m σ (eval (.Subscript value (.Slice Option.none (some upper) Option.none p) pos) env) P := by
  intro g A s Q hA R k
  refine wpAny_Subscript_list_slice (h g A s _ hA R fun x a m1 σ1 h1 t1 p1 r1 R1 => evalPart_none_step (evalPart_some_step (p1 g A _ _ hA R1 fun y c m2 σ2 h2 t2 p2 r2 R2 => ?_))) ht
  obtain ⟨l, vs, b, rfl, rfl, e, hz, hP⟩ := p2
  cases r1
  cases r2
  rename_i u
  obtain ⟨ws, n, e1, r, hl⟩ := R2.list e
  refine ⟨l, _, Option.none, some (b : Int), rfl, hl, by rw [List.size_toArray, ← r.length]; exact hz, .none, .int _ _, ?_⟩
  rw [slicePick_upto']
  have R3 : Rel w g L m2 σ2 (h2.push { cls := .type "slice", data := .fields #[.none, .int b u, .none] }) := R2.keeps fun a o e => Heap.get?_push_of_some _ e
  have R4 := R3.push (o := listO (ws.take b) 0) (.list 0 (r.take b)) rfl
  have hf := R3.fresh
  rw [Heap.size_push] at R4 hf
  exact k _ _ _ _ _ _ (hP _ hf) (.ref _) R4
theorem e_sliceFrom {value lower : Expr} {p pos : Pos} (h : TE prog w n L m σ (eval value env) (fun o m1 σ1 => TE prog w n L m1 σ1 (eval lower env) (fun i m2 σ2 => ∃ l vs b, o = .ref l ∧ i = .int (b : Nat) ∧ σ2 l = some (.list vs) ∧ vs.length ≤ sizeLine ∧
      ∀ a, σ2 a = Option.none → P (.ref a) m2 (upS σ2 a (.list (vs.drop b)))))) (ht : ∀ o r, letTemporaryGo value o r = pure () := by intro _ _; rfl) :
    TE prog w n L m σ (eval (.Subscript value (.Slice (some lower) Option.none Option.none p) pos) env) P := by
  intro g A s Q hA R k
  refine wpAny_Subscript_list_slice (h g A s _ hA R fun x a m1 σ1 h1 t1 p1 r1 R1 => evalPart_some_step (p1 g A _ _ hA R1 fun y c m2 σ2 h2 t2 p2 r2 R2 => evalPart_none_step ?_)) ht
  obtain ⟨l, vs, b, rfl, rfl, e, hz, hP⟩ := p2
  cases r1
  cases r2
  rename_i u
  obtain ⟨ws, n, e1, r, hl⟩ := R2.list e
  refine ⟨l, _, some (b : Int), Option.none, rfl, hl, by rw [List.size_toArray, ← r.length]; exact hz, .int _ _, .none, ?_⟩
  rw [slicePick_from']
  have R3 : Rel w g L m2 σ2 (h2.push { cls := .type "slice", data := .fields #[.int b u, .none, .none] }) := R2.keeps fun a o e => Heap.get?_push_of_some _ e
  have R4 := R3.push (o := listO (ws.drop b) 0) (.list 0 (r.drop b)) rfl
  have hf := R3.fresh
  rw [Heap.size_push] at R4 hf
  exact k _ _ _ _ _ _ (hP _ hf) (.ref _) R4

-- ### list methods
theorem meth_list {l : Addr} {vs : List AV} {name : Str} {id : String} (slot : Slot "list" name id) (hty : typeOf (.builtin id) = pure (.type "method_descriptor")) (e : σ l = some (.list vs)) : Meth (.ref l) name id w σ := by
  intro M A g L m s c pl Q hc R h
  cases hc
  obtain ⟨ws, n, e1, r, hl⟩ := R.list e
  exact getMethod_builtin hl.typeIs PySem.F.plainAttrs_list slot hty (fun a ea => by cases ea; exact ⟨_, e1, rfl⟩) h
theorem m_append {l : Addr} {vs : List AV} {v : AV} (e : σ l = some (.list vs)) (hz : vs.length ≤ sizeLine) (h : P .none m (upS σ l (.list (vs ++ [v])))) :
    ∀ c ws, VR (.ref l) c → VRs [v] ws → TE prog w n L m σ (call (.builtin "list.append") (c :: ws)) P := by
  rintro c _ hc (_ | ⟨hv, _ | _⟩) g A s Q hA R k
  cases hc
  obtain ⟨ws, n, e1, r, hl⟩ := R.list e
  refine call_meets PySem.F.slot_list_append ⟨_, e1, rfl⟩ PySem.F.entry_list_append (PySem.F.args_list_append_2 _ _) (AutoListH.list_append_list_val_0 l ws.toArray n _ (by rw [List.size_toArray, ← r.length]; exact hz)) ⟨e1, ?_⟩
  exact k _ _ _ _ _ _ h .none (R.turn e e1 _ (ws' := ws ++ [_]) (by simp) (r.append (.cons hv .nil)))
theorem m_reverse {l : Addr} {vs : List AV} (e : σ l = some (.list vs)) (hz : vs.length ≤ sizeLine) (h : P .none m (upS σ l (.list vs.reverse))) :
    ∀ c, VR (.ref l) c → TE prog w n L m σ (call (.builtin "list.reverse") [c]) P := by
  rintro c hc g A s Q hA R k
  cases hc
  obtain ⟨ws, n, e1, r, hl⟩ := R.list e
  refine call_meets PySem.F.slot_list_reverse ⟨_, e1, rfl⟩ PySem.F.entry_list_reverse (PySem.F.args_list_reverse_1 _) (AutoListH.list_reverse_list_0 l ws.toArray n (by rw [List.size_toArray, ← r.length]; exact hz)) ⟨e1, ?_⟩
  exact k _ _ _ _ _ _ h .none (R.turn e e1 _ (ws' := ws.reverse) (by simp) r.reverse)
theorem m_extend {l l2 : Addr} {vs vs2 : List AV} (e : σ l = some (.list vs)) (e2 : σ l2 = some (.list vs2)) (hz : vs.length + vs2.length ≤ 1000000) (h : P .none m (upS σ l (.list (vs ++ vs2)))) :
    ∀ c ws, VR (.ref l) c → VRs [.ref l2] ws → TE prog w n L m σ (call (.builtin "list.extend") (c :: ws)) P := by
  rintro c _ hc (_ | ⟨hv, _ | _⟩) g A s Q hA R k
  cases hc; cases hv
  obtain ⟨ws, n, e1, r, hl⟩ := R.list e
  obtain ⟨ws2, n2, e12, r2, hl2⟩ := R.list e2
  have h1 := r.length
  have h2 := r2.length
  refine call_meets PySem.F.slot_list_extend ⟨_, e1, rfl⟩ PySem.F.entry_list_extend (PySem.F.args_list_extend_2 _ _) (PySem.AutoSeq1.list_extend_list_list_0 l ws.toArray n l2 ws2.toArray n2 ?_ ?_ ?_) ⟨e1, e12, ?_⟩
  · simp only [Builtin.List.listTooLong, sizeLine_eq, List.size_toArray, Bool.and_eq_true, decide_eq_true_eq, not_and]
    intro _; omega
  · rw [List.size_toArray, sizeLine_eq]; omega
  · rw [List.size_toArray, List.size_toArray, sizeLine_eq]; omega
  · exact k _ _ _ _ _ _ h .none (R.turn e e1 _ (ws' := ws ++ ws2) (by simp) (r.append r2))
theorem m_insert {l : Addr} {vs : List AV} {v : AV} {x : Int} (e : σ l = some (.list vs)) (hz : vs.length ≤ 1000000) (h0 : 0 ≤ x) (hi : x ≤ vs.length) (h : P .none m (upS σ l (.list (vs.take x.toNat ++ v :: vs.drop x.toNat)))) :
    ∀ c ws, VR (.ref l) c → VRs [.int x, v] ws → TE prog w n L m σ (call (.builtin "list.insert") (c :: ws)) P := by
  rintro c _ hc (_ | @⟨_, c0, _, _, hv0, _ | @⟨_, c1, _, _, hv, _ | _⟩⟩) g A s Q hA R k
  cases hc
  cases hv0
  rename_i u
  obtain ⟨ws, n, e1, r, hl⟩ := R.list e
  have h1 := r.length
  have hfit : Builtin.List.listFitsIndex x = true := by
    simp only [Builtin.List.listFitsIndex, Bool.and_eq_true, decide_eq_true_eq]; omega
  have hz0 : ws.toArray.size ≤ sizeLine := by rw [List.size_toArray, sizeLine_eq]; omega
  refine call_meets PySem.F.slot_list_insert ⟨_, e1, rfl⟩ PySem.F.entry_list_insert (PySem.F.args_list_insert_3 _ _ _) (PySem.AutoSeq1.list_insert_list_int_val_1 l ws.toArray n x u c1 (by simp [hfit]) hz0) ⟨e1, ?_⟩
  refine k _ _ _ _ _ _ h .none (R.turn e e1 _ (ws' := ws.take x.toNat ++ c1 :: ws.drop x.toNat) ?_ ((r.take x.toNat).append (.cons hv (r.drop x.toNat))))
  show (ws.toArray.extract 0 (if x < 0 then (x + (ws.toArray.size : Int)).toNat else min x.toNat ws.toArray.size)).push _ ++ ws.toArray.extract (if x < 0 then (x + (ws.toArray.size : Int)).toNat else min x.toNat ws.toArray.size) = _
  rw [kl_ins_eq, if_neg (by omega), List.size_toArray, Nat.min_eq_left (by omega)]
-- ### stores
theorem s_assignSub {o i value : Expr} {pos' pos : Pos} {P : AFl → Loc → Sto → Prop}
    (h : TE prog w n L m σ (eval value env) (fun v m1 σ1 => TE prog w n L m1 σ1 (eval o env) (fun ov m2 σ2 => TE prog w n L m2 σ2 (eval i env) (fun iv m3 σ3 =>
      ∃ (l : Addr) (vs : List AV) (k : Nat), ov = .ref l ∧ iv = .int k ∧ σ3 l = some (.list vs) ∧ k < vs.length ∧ vs.length ≤ 1000000 ∧ P .next m3 (upS σ3 l (.list (vs.set k v)))))))
    (hs : swapsWith value (some (.Subscript o i pos')) pos.line env = pure false := by rfl) : TF prog w n L m σ (exec (.Assign [.Subscript o i pos'] value pos) env) P := by
  intro g A s Q hA R k
  refine wpAny_Assign_Subscript (h g A s _ hA R fun v c m1 σ1 h1 t1 p1 r1 R1 => p1 g A _ _ hA R1 fun ov oc m2 σ2 h2 t2 p2 r2 R2 => p2 g A _ _ hA R2 fun iv ic m3 σ3 h3 t3 p3 r3 R3 => ?_) hs
  obtain ⟨l, vs, i, rfl, rfl, e, hi, hz, hP⟩ := p3
  cases r2; cases r3
  obtain ⟨ws, n, e1, r, hl⟩ := R3.list e
  have hlen := r.length
  refine ki_setAt e1 (by omega) (by omega) (by rw [List.size_toArray]; omega) (k _ _ _ _ _ _ hP .next (R3.turn e e1 _ (ws' := ws.set i c) (by simp) (r.set r1 i)))
-- ### + and * of lists
theorem o_catL {l l2 : Addr} {vs vs2 : List AV} (e : σ l = some (.list vs)) (e2 : σ l2 = some (.list vs2)) (hz : vs.length + vs2.length ≤ 1000000) (h : ∀ a, σ a = Option.none → P (.ref a) m (upS σ a (.list (vs ++ vs2)))) :
    ∀ a b, VR (.ref l) a → VR (.ref l2) b → TE prog w n L m σ (binaryOp .Add a b) P := by
  intro a b ha hb g A s Q hA R k
  cases ha; cases hb
  obtain ⟨ws, n, e1, r, hl⟩ := R.list e
  obtain ⟨ws2, n2, e12, r2, hl2⟩ := R.list e2
  obtain ⟨mc, hn, hm⟩ := R.ns
  have h1 := r.length
  have h2 := r2.length
  refine add_arrays (fr_of hn) allOf_news hl hl2 (fun h' F N => ?_) (by simp only [List.size_toArray, sizeLine_eq]; omega)
  obtain ⟨R', ha⟩ := R.newsAdd (extra := []) (o := listO (ws ++ ws2) 0) hm F (by simpa using N) (.list 0 (r.append r2)) size_none
  exact k _ _ _ _ _ _ (h _ ha) (.ref _) R'
theorem foldl_rep {α : Type} (x : α) : ∀ (k : Nat) (acc : List α), (List.foldl (fun x1 x2 => x1 ++ x2) acc.toArray (List.replicate k #[x])) = (acc ++ List.replicate k x).toArray
  | 0, acc => by simp
  | k + 1, acc => by
    rw [List.replicate_succ, List.foldl_cons]
    have : acc.toArray ++ #[x] = (acc ++ [x]).toArray := by simp
    rw [this, foldl_rep x k]
    simp [List.replicate_succ]
theorem o_repL {l : Addr} {v : AV} {k : Nat} (e : σ l = some (.list [v])) (hk : k ≤ 1000000) (h : ∀ a, σ a = Option.none → P (.ref a) m (upS σ a (.list (List.replicate k v)))) :
    ∀ a b, VR (.ref l) a → VR (.int k) b → TE prog w n L m σ (binaryOp .Mult a b) P := by
  intro a b ha hb g A s Q hA R kk
  cases ha; cases hb
  obtain ⟨ws, n, e1, r, hl⟩ := R.list e
  rcases r with _ | @⟨_, c0, _, _, rv, _ | _⟩
  obtain ⟨mc, hn, hm⟩ := R.ns
  refine mul_list (k := n) (items := #[c0]) (fr_of hn) allOf_news e1 (by omega) (by omega) (by simp; omega) (fun h' F N => ?_)
  obtain ⟨R', ha⟩ := R.newsAdd (extra := []) (o := listO (List.replicate k c0) 0) hm F (by
    have q := foldl_rep c0 k []
    simp at N q
    rw [show listO (List.replicate k c0) 0 = { cls := Value.type "list", data := Data.seq (Array.replicate k c0) } from by simp [listO, List.toArray_replicate]]
    simpa [q] using N) (.list 0 (VRs.replicate rv k)) size_none
  exact kk _ _ _ _ _ _ (h _ ha) (.ref _) R'
-- ### len
theorem b_lenL {l : Addr} {vs : List AV} (e : σ l = some (.list vs)) (hz : vs.length ≤ 1000000) (h : P (.int vs.length) m σ) : ∀ ws, VRs [.ref l] ws → TE prog w n L m σ (call (.builtin "len") ws) P := by
  rintro _ (_ | ⟨hv, _ | _⟩) g A s Q hA R k
  cases hv
  obtain ⟨ws, n, e1, r, hl⟩ := R.list e
  have hlen := r.length
  refine len_list hl (by rw [List.size_toArray]; omega) ?_
  rw [List.size_toArray, ← hlen]
  exact k _ _ _ _ _ _ h (.int _ _) R
theorem b_lenS {x : Str} (hz : (x.length : Int) < 2 ^ 63) (h : P (.int x.length) m σ) : ∀ ws, VRs [.str x] ws → TE prog w n L m σ (call (.builtin "len") ws) P := by
  rintro _ (_ | ⟨hv, _ | _⟩) g A s Q hA R k
  cases hv
  exact len_str (by omega) (k _ _ _ _ _ _ h (.int _ _) R)
-- ### assignment to a tuple of two names
theorem s_assign2 {x y : Str} {p1 p2 tp pos : Pos} {c : Nat} {value : Expr} {P : AFl → Loc → Sto → Prop}
    (h : TE prog w n L m σ (eval value env) (fun v m1 σ1 => ∃ t a b, v = .ref t ∧ σ1 t = some (.tup [a, b]) ∧ P .next (upL (upL m1 x a) y b) σ1))
    (h1 : swapsWithSole [.Tuple [.Name x p1, .Name y p2] c tp] value pos.line env = pure false := by rfl)
    (h2 : swappedStores [.Tuple [.Name x p1, .Name y p2] c tp] value env = pure Option.none := by rfl)
    (hL : env.locals = L := by rfl) (hk : env.scope.kind = .function := by rfl) (hx : env.kindOf x = some .local := by rfl) (hy : env.kindOf y = some .local := by rfl) :
    TF prog w n L m σ (exec (.Assign [.Tuple [.Name x p1, .Name y p2] c tp] value pos) env) P := by
  intro g A s Q hA R k
  refine Assign_Tuple (h g A s _ hA R fun v d m1 σ1 h1 t1 p1 r1 R1 => ?_) h1 h2
  obtain ⟨t, a, b, rfl, e, hP⟩ := p1
  cases r1
  obtain ⟨ws, nn, e1, r, ht⟩ := R1.tup e
  rcases r with _ | ⟨ra, _ | ⟨rb, _ | _⟩⟩
  refine wpAny_assign_Tuple hA.1 ht (by rfl) (by rfl) fun h2 he => ?_
  have R2 : Rel w g L m1 σ1 h2 := R1.keeps fun b o e => he b o (Nat.ne_of_lt (Heap.lt_size e)) e
  show wpAny _ _ (assignInOrder [_, _] [_, _]) _ _ _
  refine wpAny_bind (wpAny_holding (wpAny_assign_Name ?_))
  refine s_store (P := fun _ m2 σ2 => P .next (upL m2 y b) σ2) ra hP hL hk hx g A _ _ hA R2 fun _ _ m3 σ3 h3 t3 p3 _ R3 => ?_
  refine wpAny_bind (wpAny_holding (wpAny_assign_Name ?_))
  refine s_store (P := fun _ m2 σ2 => P .next m2 σ2) rb p3 hL hk hy g A _ _ hA R3 fun _ _ m4 σ4 h4 t4 p4 _ R4 => ?_
  exact wpAny_pure (by have := k _ _ _ _ _ t4 p4 .next R4; exact this)
end
/-! Core5 -/
structure Iter (prog : Program) (w : World) (I : Addr) (vs : List AV) (need : Sto → Prop) (is : Nat → Obj → Prop) : Prop where
  item : ∀ (A : Around) (s : Shared) (g : Frm) (L : Addr) (m : Loc) (σ : Sto) (Q : Option Value → Shared → Prop) (i : Nat) (v : AV) (o : Obj), A.handled = Option.none → Rel w g L m σ s.heap → need σ →
    s.heap.get? I = some o → is i o → vs[i]? = some v →
    (∀ c h' tk o', VR v c → (∀ b ob, b ≠ I → s.heap.get? b = some ob → h'.get? b = some ob) → h'.get? I = some o' → is (i + 1) o' → Q (some c) { s with heap := h', toks := tk }) → wpAny (model prog w) A (pyNext (.ref I)) Q NoE s
  done : ∀ (A : Around) (s : Shared) (g : Frm) (L : Addr) (m : Loc) (σ : Sto) (Q : Option Value → Shared → Prop) (o : Obj), A.handled = Option.none → Rel w g L m σ s.heap → need σ →
    s.heap.get? I = some o → is vs.length o → (∀ h' tk, (∀ b ob, b ≠ I → s.heap.get? b = some ob → h'.get? b = some ob) → Q Option.none { s with heap := h', toks := tk }) → wpAny (model prog w) A (pyNext (.ref I)) Q NoE s
  self : ∀ (A : Around) (s : Shared) (Q : Value → Shared → Prop) (i : Nat) (o : Obj), A.handled = Option.none → s.heap.get? I = some o → is i o → Q (.ref I) s → wpAny (model prog w) A (pyIter (.ref I)) Q NoE s

noncomputable def Iterable (prog : Program) (w : World) (v : AV) (vs : List AV) (σ σ' : Sto) (need : Sto → Prop) : Prop :=
  ∀ (A : Around) (s : Shared) (g : Frm) (L : Addr) (m : Loc) (Q : Value → Shared → Prop) (c : Value), A.handled = Option.none → VR v c → Rel w g L m σ s.heap →
    (∀ I is h' tk o, Iter prog w I vs need is → Rel w g L m σ' h' → σ' I = Option.none → g I = Option.none → I ≠ L → h'.get? I = some o → is 0 o → (∀ b ob, b ≠ I → s.heap.get? b = some ob → h'.get? b = some ob) → Q (.ref I) { s with heap := h', toks := tk }) →
    wpAny (model prog w) A (pyIter c) Q NoE s

noncomputable def insF (g : Frm) (I : Addr) (o : Obj) : Frm := fun a => if a = I then some o else g a
section
variable {w : World} {g : Frm} {L I : Addr} {m : Loc} {σ : Sto} {h h' : Heap} {o o' : Obj}
theorem Bs.ins (b : Bs w g) (hg : g I = Option.none) : Bs w (insF g I o) := by
  obtain ⟨b, mg, mb, B, k⟩ := b
  exact ⟨b, mg, mb, B, fun a ob e => (if_neg (fun q => by have := k a ob e; rw [q, hg] at this; cases this)).trans (k a ob e)⟩
theorem Rel.ins (R : Rel w g L m σ h) (e : h.get? I = some o) (hs : σ I = Option.none) (hg : g I = Option.none) (hL : I ≠ L) : Rel w (insF g I o) L m σ h := by
  refine ⟨R.base.ins hg, fun a ob q => ?_, R.ns, (if_neg (Ne.symm hL)).trans R.gL, R.sto, fun a ao q => ⟨(R.apart a ao q).1, (if_neg (fun z => by rw [z, hs] at q; cases q)).trans (R.apart a ao q).2⟩⟩
  unfold insF at q
  split at q
  · rename_i z; subst z; cases q; exact e
  · exact R.keep a ob q
theorem Rel.insAt (R : Rel w (insF g I o) L m σ h) : h.get? I = some o := R.keep I o (if_pos rfl)
theorem Rel.insL (R : Rel w (insF g I o) L m σ h) : I ≠ L := fun q => by have := R.gL; rw [q] at this; unfold insF at this; rw [if_pos rfl] at this; cases this
theorem Rel.insS (R : Rel w (insF g I o) L m σ h) : σ I = Option.none := by
  cases q : σ I with
  | none => rfl
  | some ao => have := (R.apart I ao q).2; unfold insF at this; rw [if_pos rfl] at this; cases this
theorem Rel.del (R : Rel w (insF g I o) L m σ h) (b : Bs w g) (hg : g I = Option.none) : Rel w g L m σ h := by
  have gg : ∀ a, a ≠ I → insF g I o a = g a := fun a q => if_neg q
  refine ⟨b, fun a ob q => R.keep a ob ((gg a fun z => by rw [z, hg] at q; cases q).trans q), R.ns, (gg L (Ne.symm R.insL)) ▸ R.gL, R.sto, fun a ao q => ⟨(R.apart a ao q).1, ?_⟩⟩
  rw [← gg a fun z => by rw [z, R.insS] at q; cases q]
  exact (R.apart a ao q).2
theorem Rel.butI (R : Rel w g L m σ h) (hk : ∀ b ob, b ≠ I → h.get? b = some ob → h'.get? b = some ob) (hg : g I = Option.none) (hs : σ I = Option.none) (hL : I ≠ L) : Rel w g L m σ h' := by
  refine ⟨R.base, fun a ob q => hk a ob (fun z => by rw [z, hg] at q; cases q) (R.keep a ob q), ?_, R.gL, fun a ao q => ?_, R.apart⟩
  · obtain ⟨mc, n, q⟩ := R.ns
    exact ⟨mc, n.at' fun o e => hk _ _ (Ne.symm hL) e, q⟩
  · obtain ⟨ob, e1, e2⟩ := R.sto a ao q
    exact ⟨ob, hk _ _ (fun z => by rw [z, hs] at q; cases q) e1, e2⟩
end

section
variable {prog : Program} {w : World} {n : Nat} {L : Addr} {m : Loc} {σ : Sto} {env : Env}

noncomputable def LoopP (P : AFl → Loc → Sto → Prop) (K : Loc → Sto → Prop) (f : AFl) (m : Loc) (σ : Sto) : Prop := match f with
  | .next => K m σ
  | .cont => K m σ
  | .brk => P .next m σ
  | .ret v => P (.ret v) m σ

theorem loopN {P : AFl → Loc → Sto → Prop} {K : Loc → Sto → Prop} (h : K m σ) : LoopP P K .next m σ := h
theorem loopR {P : AFl → Loc → Sto → Prop} {K : Loc → Sto → Prop} {v : AV} (h : P (.ret v) m σ) : LoopP P K (.ret v) m σ := h

theorem s_for {x : Str} {px pos : Pos} {iter : Expr} {body : List Stmt} {P : AFl → Loc → Sto → Prop}
    (h : TE prog w n L m σ (eval iter env) (fun v m1 σ1 => ∃ (vs : List AV) (need : Sto → Prop) (σ2 : Sto) (Inv : Nat → Loc → Sto → Prop), Iterable prog w v vs σ1 σ2 need ∧ Inv 0 m1 σ2 ∧ (∀ i m σ, Inv i m σ → need σ) ∧
      (∀ i u m σ, vs[i]? = some u → Inv i m σ → TF prog w n L (upL m x u) σ (execs body env) (LoopP P (Inv (i + 1)))) ∧ (∀ m σ, Inv vs.length m σ → P .next m σ)))
    (hs : ∀ x, foldedSetIterable iter env x = pure x := by intro _; rfl)
    (hL : env.locals = L := by rfl) (hk : env.scope.kind = .function := by rfl) (hx : env.kindOf x = some .local := by rfl) : TF prog w n L m σ (exec (.For (.Name x px) iter body [] pos) env) P := by
  intro g A s Q hA R k
  refine wpAny_For (h g A s _ hA R fun v c m1 σ1 h1 t1 p1 r1 R1 => ?_) hs
  obtain ⟨vs, need, σ2, Inv, hit, h0, hneed, turn, fin⟩ := p1
  refine hit A _ g L m1 _ c hA.1 r1 R1 fun I is h2 t2 o IT R2 hsI hgI hLI eI is0 _ => ?_
  refine codeAny_forLoop (fun j s' => ∃ i m' σ' o' h' tk, s' = { s with heap := h', toks := tk } ∧ j + i = vs.length ∧ Rel w (insF g I o') L m' σ' h' ∧ is i o' ∧ Inv i m' σ') ?_ vs.length
    ⟨0, m1, σ2, o, h2, t2, rfl, rfl, R2.ins eI hsI hgI hLI, is0, h0⟩
  rintro j s' ⟨i, m', σ', o', h', tk, rfl, hj, R', hi, hI⟩
  by_cases hlt : i < vs.length
  · obtain ⟨u, hu⟩ : ∃ u, vs[i]? = some u := ⟨vs[i], by simp [hlt]⟩
    refine wpAny_noRaise (IT.item A _ _ L m' σ' _ i u o' hA.1 R' (hneed _ _ _ hI) R'.insAt hi hu fun c h3 t3 o3 rc hk3 e3 hi3 => ?_)
    have R3 : Rel w (insF g I o3) L m' σ' h3 := ((R'.del R.base hgI).butI hk3 hgI R'.insS R'.insL).ins e3 R'.insS hgI R'.insL
    refine wpAny_assign_Name (wpAny_noRaise ?_)
    refine s_store (P := fun _ m2 σ2 => m2 = upL m' x u ∧ σ2 = σ') rc ⟨rfl, rfl⟩ hL hk hx _ A _ _ hA R3 fun _ _ m4 σ4 h4 t4 p4 _ R4 => ?_
    obtain ⟨rfl, rfl⟩ := p4
    refine wpAny_noRaise (turn i u m' σ4 hu hI _ A _ _ hA R4 fun f c m5 σ5 h5 t5 p5 r5 R5 => ?_)
    have nx : Inv (i + 1) m5 σ5 → ∃ m_1, m_1 < j ∧ ∃ i m' σ' o' h' tk, ({ s with heap := h5, toks := t5 } : Shared) = { s with heap := h', toks := tk } ∧ m_1 + i = vs.length ∧ Rel w (insF g I o') L m' σ' h' ∧ is i o' ∧ Inv i m' σ' :=
      fun q => ⟨j - 1, by omega, i + 1, m5, σ5, o3, h5, t5, rfl, by omega, R5, hi3, q⟩
    cases r5 with
    | next => exact nx p5
    | cont => exact nx p5
    | brk => exact k .next .next m5 σ5 h5 t5 p5 .next (R5.del R.base hgI)
    | ret r => exact k (.ret _) _ m5 σ5 h5 t5 p5 (.ret r) (R5.del R.base hgI)
  · have hlen : i = vs.length := by omega
    subst hlen
    refine wpAny_noRaise (IT.done A _ _ L m' σ' _ o' hA.1 R' (hneed _ _ _ hI) R'.insAt hi fun h3 t3 hk3 => ?_)
    exact wpAny_execs_nil (k .next .next m' σ' h3 t3 (fin _ _ hI) .next ((R'.del R.base hgI).butI hk3 hgI R'.insS R'.insL))

theorem s_while {test : Expr} {body : List Stmt} {pos : Pos} {P : AFl → Loc → Sto → Prop} (Inv : Nat → Loc → Sto → Prop) (j : Nat) (h0 : Inv j m σ)
    (turn : ∀ j m σ, Inv j m σ → TB prog w n L m σ (PySem.isTrue test env (eval test env)) (fun b m1 σ1 => (b = true → TF prog w n L m1 σ1 (execs body env) (LoopP P fun m σ => ∃ j', j' < j ∧ Inv j' m σ)) ∧ (b = false → P .next m1 σ1))) :
    TF prog w n L m σ (exec (.While test body [] pos) env) P := by
  intro g A s Q hA R k
  refine wpAny_While (codeAny_whileLoop (fun j s' => ∃ m' σ' h' tk, s' = { s with heap := h', toks := tk } ∧ Rel w g L m' σ' h' ∧ Inv j m' σ') ?_ j ⟨m, σ, s.heap, s.toks, rfl, R, h0⟩)
  rintro j s' ⟨m', σ', h', tk, rfl, R', hI⟩
  refine wpAny_noRaise (turn j m' σ' hI g A _ _ hA R' fun b a m1 σ1 h1 t1 p1 r1 R1 => ?_)
  subst r1
  cases b with
  | true =>
    rw [if_pos rfl]
    refine wpAny_noRaise (p1.1 rfl g A _ _ hA R1 fun f c m2 σ2 h2 t2 p2 r2 R2 => ?_)
    cases r2 with
    | next => obtain ⟨j', hj, q⟩ := p2; exact ⟨j', hj, m2, σ2, h2, t2, rfl, R2, q⟩
    | cont => obtain ⟨j', hj, q⟩ := p2; exact ⟨j', hj, m2, σ2, h2, t2, rfl, R2, q⟩
    | brk => exact k .next .next m2 σ2 h2 t2 p2 .next R2
    | ret r => exact k (.ret _) _ m2 σ2 h2 t2 p2 (.ret r) R2
  | false =>
    rw [if_neg Bool.false_ne_true]
    exact wpAny_execs_nil (k .next .next m1 σ1 h1 t1 (p1.2 rfl) .next R1)

-- ### what can be looped over
theorem it_list {l : Addr} {vs : List AV} (e : σ l = some (.list vs)) : Iterable prog w (.ref l) vs σ σ (fun σ => σ l = some (.list vs)) := by
  intro A s g L m Q c hh hc R k
  cases hc
  obtain ⟨ws, n, e1, r, hl⟩ := R.list e
  refine wpAny_pyIter_list hl ?_
  have hne : l ≠ s.heap.objs.size := Nat.ne_of_lt (Heap.lt_size e1)
  have R' := R.keeps (h' := s.heap.push { cls := .type "list_iterator", data := .fields #[.ref l, .int 0 0] }) fun a o e => Heap.get?_push_of_some _ e
  have hn := R.noneAt (size_none (h := s.heap))
  refine k s.heap.objs.size (fun i o => o.cls = .type "list_iterator" ∧ o.data = .fields #[.ref l, .int i 0]) _ _ _ ⟨?_, ?_, ?_⟩ R' hn.2.1 hn.1 hn.2.2 (Heap.get?_push_size _ rfl) ⟨rfl, rfl⟩ (fun b ob _ e => Heap.get?_push_of_some _ e)
  · intro A s' g L m σ' Q i v o hh R hneed eI hi hv k
    obtain ⟨ws, n, e1, r, hl⟩ := R.list hneed
    obtain ⟨c, hc, rc⟩ := r.get hv
    refine wpAny_pyNext_list_item (i := i) ⟨o, eI, hi.1, hi.2⟩ hl (by simpa using hc) fun h' hit hs => ?_
    obtain ⟨o', e', c', d'⟩ := hit
    exact k c h' _ o' rc (fun b ob hb e => (hs.2 b hb).trans e) e' ⟨c', d'⟩
  · intro A s' g L m σ' Q o hh R hneed eI hi k
    obtain ⟨ws, n, e1, r, hl⟩ := R.list hneed
    have hlen := r.length
    exact wpAny_pyNext_list_end hh (i := vs.length) ⟨o, eI, hi.1, hi.2⟩ hl (by simp; omega) fun h' hk => k h' _ fun b ob hb e => hk b ob hb e
  · intro A s' Q i o hh eI hi k
    exact wpAny_pyIter_listiter (i := i) ⟨o, eI, hi.1, hi.2⟩ k

noncomputable def rngL (a : Int) (n : Nat) : List AV := (List.range n).map fun (i : Nat) => AV.int (a + (i : Int))
theorem rngL_len {a : Int} {n : Nat} : (rngL a n).length = n := by simp [rngL]
theorem rngL_get {a : Int} {n i : Nat} {v : AV} (h : (rngL a n)[i]? = some v) : i < n ∧ v = .int (a + i) := by
  unfold rngL at h
  rw [List.getElem?_map] at h
  by_cases hi : i < n
  · rw [List.getElem?_range hi] at h; cases h; exact ⟨hi, rfl⟩
  · rw [List.getElem?_eq_none (by simpa using hi)] at h; cases h

theorem it_range {r : Addr} {a : Int} {n : Nat} (e : σ r = some (.rng a (a + n))) (ha : 0 ≤ a) (hb : a + n ≤ 1000000) : Iterable prog w (.ref r) (rngL a n) σ σ (fun _ => True) := by
  intro A s g L m Q c hh hc R k
  cases hc
  obtain ⟨o, e1, e2⟩ := R.sto r _ e
  cases e2 with
  | rng _ _ t u v =>
  have hsm : Builtin.Range.small a (a + n) 1 = true := small_one (by omega) (by omega) (by omega) (by omega)
  refine wpAny_pyIter_range (c := 1) e1 hsm ?_
  have hsz : Builtin.Range.rangeSize a (a + n) 1 = (n : Int) := by rw [rangeSize_one]; split <;> omega
  rw [hsz]
  have R' := R.keeps (h' := s.heap.push { cls := .type "range_iterator", data := .fields #[rawInt a, rawInt n, rawInt 1] }) fun a o e => Heap.get?_push_of_some _ e
  have hn := R.noneAt (size_none (h := s.heap))
  refine k s.heap.objs.size (fun i o => o = { cls := .type "range_iterator", data := .fields #[rawInt (a + i), rawInt (n - i), rawInt 1] }) _ _ _ ⟨?_, ?_, ?_⟩ R' hn.2.1 hn.1 hn.2.2 (Heap.get?_push_size _ rfl) (by simp) (fun b ob _ e => Heap.get?_push_of_some _ e)
  · intro A s' g L m σ' Q i v o hh R _ eI hi hv k
    obtain ⟨hlt, rfl⟩ := rngL_get hv
    subst hi
    refine wpAny_pyNext_range_item eI (by omega) fun h' hit hs => ?_
    refine k _ h' _ _ (.int _ _) (fun b ob hb e => (hs.2 b hb).trans e) hit ?_
    have q1 : a + (i : Int) + 1 = a + ((i + 1 : Nat) : Int) := by omega
    have q2 : (n : Int) - (i : Int) - 1 = (n : Int) - ((i + 1 : Nat) : Int) := by omega
    rw [q1, q2]
  · intro A s' g L m σ' Q o hh R _ eI hi k
    subst hi
    rw [rngL_len] at eI
    exact wpAny_pyNext_range_end hh eI (by omega) fun h' hk => k h' _ fun b ob hb e => hk b ob hb e
  · intro A s' Q i o hh eI hi k
    subst hi
    exact (Walks.range (prog := prog) (w := w) (A := A) (I := s.heap.objs.size) (a := a) (c := 1) (n := n) hh).self i s' _ _ (by simpa using eI) k
end
/-! Core6 -/
section
variable {prog : Program} {w : World} {n : Nat} {L : Addr} {m : Loc} {σ : Sto} {env : Env}

theorem c_type {T : String} {e : Expr} {rest : List Expr} {pos : Pos} {P : AV → Loc → Sto → Prop}
    (h : TL prog w n L m σ (spliced (backTo pos (starEach (e :: rest) env))) (fun vs m1 σ1 => ∀ ws, VRs vs ws → TE prog w n L m1 σ1 (call (.type T) ws) P))
    (he : starEach (e :: rest) env = (false, eval e env) :: starEach rest env := by rfl) (hplain : (backTo pos (starEach rest env)).any (·.1) = false := by rfl) :
    ∀ c, VR (.ty T) c → TE prog w n L m σ (callWith pos c [] (backTo pos (starEach (e :: rest) env)) []) P := by
  intro c hc g A s Q hA R k
  cases hc
  exact PyProof.Rows.callWith_type1 (h g A s _ hA R fun x a m1 σ1 h1 t1 p1 r1 R1 => p1 a r1 g A _ _ hA R1 fun y b m2 σ2 h2 t2 p2 r2 R2 => k y b m2 σ2 h2 t2 p2 r2 R2) he hplain

variable {P : AV → Loc → Sto → Prop}
theorem b_range1 {b : Int} (h : ∀ a, σ a = Option.none → P (.ref a) m (upS σ a (.rng 0 b))) : ∀ ws, VRs [.int b] ws → TE prog w n L m σ (call (.type "range") ws) P := by
  rintro _ (_ | ⟨hv, _ | _⟩) g A s Q hA R k
  cases hv
  exact call_range_1 (k _ _ _ _ _ _ (h _ R.fresh) (.ref _) (R.push (.rng 0 b _ _ _) rfl))
theorem b_range2 {a b : Int} (h : ∀ r, σ r = Option.none → P (.ref r) m (upS σ r (.rng a b))) : ∀ ws, VRs [.int a, .int b] ws → TE prog w n L m σ (call (.type "range") ws) P := by
  rintro _ (_ | ⟨hu, _ | ⟨hv, _ | _⟩⟩) g A s Q hA R k
  cases hu; cases hv
  exact call_range_2 (k _ _ _ _ _ _ (h _ R.fresh) (.ref _) (R.push (.rng a b _ _ _) rfl))
theorem b_reversed {l : Addr} {vs : List AV} (e : σ l = some (.list vs)) (h : ∀ r, σ r = Option.none → P (.ref r) m (upS σ r (.rit l ((vs.length : Int) - 1)))) : ∀ ws, VRs [.ref l] ws → TE prog w n L m σ (call (.type "reversed") ws) P := by
  rintro _ (_ | ⟨hv, _ | _⟩) g A s Q hA R k
  cases hv
  obtain ⟨ws, n, e1, r, hl⟩ := R.list e
  have hlen := r.length
  refine call_reversed_list hl ?_
  have q : ((ws.toArray.size : Nat) : Int) = (vs.length : Int) := by rw [List.size_toArray, hlen]
  rw [q]
  exact k _ _ _ _ _ _ (h _ R.fresh) (.ref _) (R.push (.rit l _ rfl rfl) rfl)

noncomputable def dropS (σ : Sto) (I : Addr) : Sto := fun a => if a = I then Option.none else σ a
theorem it_reversed {I l : Addr} {vs : List AV} (eI : σ I = some (.rit l ((vs.length : Int) - 1))) (el : σ l = some (.list vs)) : Iterable prog w (.ref I) vs.reverse σ (dropS σ I) (fun σ => σ l = some (.list vs)) := by
  intro A s g L m Q c hh hc R k
  cases hc
  obtain ⟨o, e1, e2⟩ := R.sto I _ eI
  cases e2 with
  | rit _ _ hc hd =>
  refine wpAny_pyIter_revIter ⟨o, e1, hc, hd⟩ ?_
  have hap := R.apart I _ eI
  have R' : Rel w g L m (dropS σ I) s.heap := R.weaken (fun _ _ e => e) fun a ao e => by
    unfold dropS at e
    split at e
    · cases e
    · exact e
  refine k I (fun i o => o.cls = .type "list_reverseiterator" ∧ o.data = .fields #[.ref l, .int ((vs.length : Int) - 1 - i) 0]) _ _ o ⟨?_, ?_, ?_⟩ R' (if_pos rfl) hap.2 hap.1 e1 ⟨hc, by simpa using hd⟩ (fun b ob _ e => e)
  · intro A s' g L m σ' Q i v o hh R hneed eI hi hv k
    obtain ⟨ws, n, e1, r, hl⟩ := R.list hneed
    have hlen := r.length
    have hlt : i < vs.length := by
      have := (List.getElem?_eq_some_iff.mp hv).1; simpa using this
    rw [List.getElem?_reverse hlt] at hv
    obtain ⟨c, hc, rc⟩ := r.get hv
    have q : (vs.length : Int) - 1 - (i : Int) = ((vs.length - 1 - i : Nat) : Int) := by omega
    refine wpAny_pyNext_rev_item (i := vs.length - 1 - i) ⟨o, eI, hi.1, by rw [hi.2, q]; rfl⟩ hl (by simpa using hc) fun h' hit hs => ?_
    obtain ⟨o', e', c', d'⟩ := hit
    refine k c h' _ o' rc (fun b ob hb e => (hs.2 b hb).trans e) e' ⟨c', ?_⟩
    rw [d']
    have q2 : ((vs.length - 1 - i : Nat) : Int) - 1 = (vs.length : Int) - 1 - ((i + 1 : Nat) : Int) := by omega
    rw [q2]; rfl
  · intro A s' g L m σ' Q o hh R hneed eI hi k
    refine wpAny_pyNext_rev_end (l := l) hh ⟨o, eI, hi.1, ?_⟩ fun h' hk => k h' _ fun b ob hb e => hk b ob hb e
    rw [hi.2, List.length_reverse, show (vs.length : Int) - 1 - (vs.length : Int) = -1 by omega]; rfl
  · intro A s' Q i o hh eI hi k
    exact wpAny_pyIter_revIter ⟨o, eI, hi.1, hi.2⟩ k
end

-- ### comprehensions
section
variable {w : World} {g f : Frm} {L L' : Addr} {m m₀ : Loc} {σ σ' : Sto} {h h' h₁ : Heap}
theorem Rel.enterF (R : Rel w g L m σ h) (hf : ∀ a o, f a = some o → h.get? a = some o ∧ σ a = Option.none) (hg : ∀ a o, g a = some o → f a = some o) (hk : ∀ a o, h.get? a = some o → h₁.get? a = some o) (hL' : h.get? L' = Option.none)
    {mc : Str → Option Value} (hn : h₁.Ns L' mc) (hm : ∀ x v, m₀ x = some v → ∃ c, mc x = some c ∧ VR v c) : Rel w f L' m₀ σ h₁ := by
  refine ⟨let ⟨b, mg, mb, B, k⟩ := R.base; ⟨b, mg, mb, B, fun a o e => hg a o (k a o e)⟩, fun a o e => hk a o (hf a o e).1, ⟨mc, hn, hm⟩, ?_, fun a ao e => let ⟨o, e1, e2⟩ := R.sto a ao e; ⟨o, hk _ _ e1, e2⟩, fun a ao e => ⟨fun q => ?_, ?_⟩⟩
  · cases q : f L' with
    | none => rfl
    | some o => have := (hf L' o q).1; rw [hL'] at this; cases this
  · obtain ⟨o, e1, _⟩ := R.sto a ao e; rw [q, hL'] at e1; cases e1
  · cases q : f a with
    | none => rfl
    | some o => have := (hf a o q).2; rw [e] at this; cases this
theorem Rel.leaveF {m' : Loc} (R : Rel w g L m σ h) (hg : ∀ a o, g a = some o → f a = some o) (hL : ∀ o, h.get? L = some o → f L = some o) (R' : Rel w f L' m' σ' h') : Rel w g L m σ' h' := by
  obtain ⟨mc, hn, hm⟩ := R.ns
  obtain ⟨oL, es, ep, eL, r⟩ := id hn
  refine ⟨R.base, fun a o e => R'.keep a o (hg a o e), ⟨mc, ⟨oL, es, ep, R'.keep _ _ (hL _ eL), r⟩, hm⟩, R.gL, R'.sto, fun a ao e => ⟨fun q => ?_, ?_⟩⟩
  · have := (R'.apart a ao e).2; rw [q, hL _ eL] at this; cases this
  · cases q : g a with
    | none => rfl
    | some o => have := (R'.apart a ao e).2; rw [hg a o q] at this; cases this
end
noncomputable def frmBut (σ : Sto) (h : Heap) (I : Addr) : Frm := fun a => if a = I then Option.none else frmOf σ h a

section
variable {prog : Program} {w : World} {n : Nat} {L : Addr} {m : Loc} {σ : Sto} {env : Env}
theorem comp_body {elt iter : Expr} {x : Str} {px pos : Pos} {scope : Scope} {cl : List (Str × Addr)} {g : Frm} {A : Around} {s : Shared} {I : Addr} {is : Nat → Obj → Prop} {o : Obj} {vs : List AV} {need : Sto → Prop} {Inv : Addr → Nat → List AV → Sto → Prop}
    {RR : Value → Addr → Result → Shared → Prop}
    (hA : AOk n A) (R : Rel w g L m σ s.heap) (IT : Iter prog w I vs need is) (eI : s.heap.get? I = some o) (hi : is 0 o) (hsI : σ I = Option.none) (hgI : g I = Option.none) (hIL : I ≠ L)
    (hcell : ∀ y ∈ scope.names, y.2 ≠ .cell) (hkind : scope.kind = .function) (hx : (relabel scope env).names.lookup x = some .local) (hz : vs.length ≤ 1000000)
    (h0 : ∀ D, σ D = Option.none → Inv D 0 [] (upS σ D (.list []))) (hneed : ∀ D i acc σ, Inv D i acc σ → need σ)
    (turn : ∀ C D i u acc σ, vs[i]? = some u → Inv D i acc σ → σ D = some (.list acc) → TE prog w n C (upL noL x u) σ (eval elt (compEnvC scope cl C env)) (fun y _ σ' => σ' D = some (.list acc) ∧ Inv D (i + 1) (acc ++ [y]) (upS σ' D (.list (acc ++ [y])))))
    (fin : ∀ D C acc σ' h' tk, Inv D vs.length acc σ' → σ' D = some (.list acc) → Rel w g L m σ' h' → (∃ mc, h'.Ns C mc) → g C = Option.none → σ' C = Option.none → C ≠ L → RR (.ref D) C (.ok .next) { s with heap := h', toks := tk }) :
    wpAny (model prog w) A (newList []) (fun acc s₃ => wpAny (model prog w) A (newFunctionEnv scope env.globals cl [] env.qual Option.none .none (some env)) (fun cenv s₄ =>
      codeAny (model prog w) A (.compStart (.ListComp elt [⟨.Name x px, iter, [], 0⟩] scope pos) 0 (.ref I) acc { cenv with scope := relabel scope env }) (RR acc cenv.locals) s₄) NoE s₃) NoE s := by
  refine wpAny_newObj_type ?_
  have R1 := R.push (o := listO [] 0) (.list 0 .nil) rfl
  have hDn := R.fresh
  generalize hD : s.heap.objs.size = D at R1 hDn ⊢
  generalize hH1 : s.heap.push (listO [] 0) = H1 at R1
  have eI1 : H1.get? I = some o := hH1 ▸ Heap.get?_push_of_some _ eI
  have hID : I ≠ D := fun q => by rw [q, ← hD, size_none] at eI; cases eI
  have hsI1 : upS σ D (.list []) I = Option.none := upS_ne hID hsI
  refine wpAny_newFunctionEnv hcell (by intro y hy; simp at hy) (fun h₁ hns hsb => ?_) hkind
  dsimp only at hns hsb ⊢
  generalize hC : H1.objs.size = C at hns hsb ⊢
  have hCn : H1.get? C = Option.none := hC ▸ size_none
  have hk₁ : ∀ a ob, H1.get? a = some ob → h₁.get? a = some ob := fun a ob e => (hsb.2 a (fun q => by rw [q, hCn] at e; cases e)).trans (Heap.get?_push_of_some _ e)
  let f := frmBut (upS σ D (.list [])) H1 I
  have hf : ∀ a ob, f a = some ob → H1.get? a = some ob ∧ upS σ D (.list []) a = Option.none := fun a ob e => by
    show _ ∧ _
    change (if a = I then Option.none else frmOf (upS σ D (.list [])) H1 a) = some ob at e
    split at e
    · cases e
    · exact ⟨(frmOf_some e).2, (frmOf_some e).1⟩
  have hg : ∀ a ob, g a = some ob → f a = some ob := fun a ob e => by
    show (if a = I then Option.none else frmOf (upS σ D (.list [])) H1 a) = some ob
    rw [if_neg (fun q => by rw [q, hgI] at e; cases e)]
    exact R1.frm e
  have hfL : ∀ ob, H1.get? L = some ob → f L = some ob := fun ob e => by
    show (if L = I then Option.none else frmOf (upS σ D (.list [])) H1 L) = some ob
    rw [if_neg (Ne.symm hIL)]
    rw [frmOf_none]
    · exact e
    · cases q : upS σ D (.list []) L with
      | none => rfl
      | some ao => exact absurd rfl (R1.apart L ao q).1
  have hfI : f I = Option.none := if_pos rfl
  have R2 : Rel w f C noL (upS σ D (.list [])) h₁ := R1.enterF hf hg hk₁ hCn hns (fun y v e => by cases e)
  have hIC : I ≠ C := fun q => by rw [q, hCn] at eI1; cases eI1
  obtain ⟨hgC, hsC, hCL⟩ := R1.noneAt hCn
  have loop : ∀ s₃ : Shared, s₃ = { s with heap := h₁, toks := s.toks + ([] : List (Str × Value)).length } →
      codeAny (model prog w) A (.compLoop (.ListComp elt [⟨.Name x px, iter, [], 0⟩] scope pos) 0 (.ref I) (.ref D) (compEnvC scope cl C env)) (RR (.ref D) C) s₃ := by
    rintro s₃ rfl
    refine codeAny_compLoop_list (fun j s' => ∃ i acc mC σ' o' h' tk, s' = { s with heap := h', toks := tk } ∧ j + i = vs.length ∧ acc.length ≤ i ∧ Rel w (insF f I o') C mC σ' h' ∧ is i o' ∧ σ' D = some (.list acc) ∧ Inv D i acc σ') ?_ vs.length
      ⟨0, [], noL, upS σ D (.list []), o, h₁, _, rfl, rfl, Nat.le_refl _, R2.ins (hk₁ _ _ eI1) hsI1 hfI hIC, hi, upS_eq, h0 D hDn⟩
    rintro j s' ⟨i, acc, mC, σ', o', h', tk, rfl, hj, hacc, R', hi', eD, hI⟩
    by_cases hlt : i < vs.length
    · obtain ⟨u, hu⟩ : ∃ u, vs[i]? = some u := ⟨vs[i], by simp [hlt]⟩
      refine wpAny_noRaise (IT.item A _ _ C mC σ' _ i u o' hA.1 R' (hneed _ _ _ _ hI) R'.insAt hi' hu fun c h3 t3 o3 rc hk3 e3 hi3 => ?_)
      have R3 : Rel w (insF f I o3) C mC σ' h3 := ((R'.del R2.base hfI).butI hk3 hfI R'.insS R'.insL).ins e3 R'.insS hfI R'.insL
      refine wpAny_assign_Name (wpAny_noRaise ?_)
      refine s_store (env := compEnvC scope cl C env) (P := fun _ m2 σ2 => m2 = upL mC x u ∧ σ2 = σ') rc ⟨rfl, rfl⟩ rfl hkind hx _ A _ _ hA R3 fun _ _ m4 σ4 h4 t4 p4 _ R4 => ?_
      obtain ⟨rfl, rfl⟩ := p4
      have R4' : Rel w (insF f I o3) C (upL noL x u) σ4 h4 := R4.weaken (fun y v e => by
        unfold upL at e ⊢
        split at e
        · rename_i q; rw [if_pos q]; exact e
        · cases e) fun _ _ e => e
      refine wpAny_noRaise (turn C D i u acc σ4 hu hI eD _ A _ _ hA R4' fun y c m5 σ5 h5 t5 p5 r5 R5 => ?_)
      obtain ⟨eD5, hI5⟩ := p5
      refine wpAny_noRaise (m_append (P := fun v m6 σ6 => v = .none ∧ σ6 = upS σ5 D (.list (acc ++ [y]))) eD5 (by rw [sizeLine_eq]; omega) ⟨rfl, rfl⟩ (.ref D) [c] (.ref D) (.cons r5 .nil) _ A _ _ hA R5 fun v6 c6 m6 σ6 h6 t6 p6 r6 R6 => ?_)
      obtain ⟨rfl, rfl⟩ := p6
      exact ⟨j - 1, by omega, i + 1, acc ++ [y], m6, _, o3, h6, t6, rfl, by omega, by simp; omega, R6, hi3, upS_eq, hI5⟩
    · have hlen : i = vs.length := by omega
      subst hlen
      refine wpAny_noRaise (IT.done A _ _ C mC σ' _ o' hA.1 R' (hneed _ _ _ _ hI) R'.insAt hi' fun h3 t3 hk3 => ?_)
      have R3 : Rel w f C mC σ' h3 := (R'.del R2.base hfI).butI hk3 hfI R'.insS R'.insL
      obtain ⟨mc, hn3, _⟩ := R3.ns
      refine fin D C acc σ' h3 t3 hI eD (R1.leaveF hg hfL R3) ⟨mc, hn3⟩ hgC ?_ hCL
      cases q : σ' C with
      | none => rfl
      | some ao => exact absurd rfl (R3.apart C ao q).1
  exact codeAny_compStart_list (loop _ rfl) (wpAny_noRaise (IT.self A _ _ 0 o hA.1 (hk₁ _ _ eI1) hi (loop _ rfl)))

/-- a list comprehension of one clause, no test -/
theorem e_comp {elt iter : Expr} {x : Str} {px pos : Pos} {scope : Scope} {cl : List (Str × Addr)} {P : AV → Loc → Sto → Prop}
    (h : TE prog w n L m σ (eval iter env) (fun v m1 σ1 => ∃ (vs : List AV) (need : Sto → Prop) (σ2 : Sto) (Inv : Addr → Nat → List AV → Sto → Prop), Iterable prog w v vs σ1 σ2 need ∧ vs.length ≤ 1000000 ∧ (∀ D, σ2 D = Option.none → Inv D 0 [] (upS σ2 D (.list []))) ∧ (∀ D i acc σ, Inv D i acc σ → need σ) ∧
      (∀ C D i u acc σ, vs[i]? = some u → Inv D i acc σ → σ D = some (.list acc) → TE prog w n C (upL noL x u) σ (eval elt (compEnvC scope cl C env)) (fun y _ σ' => σ' D = some (.list acc) ∧ Inv D (i + 1) (acc ++ [y]) (upS σ' D (.list (acc ++ [y]))))) ∧
      (∀ D acc σ', Inv D vs.length acc σ' → σ' D = some (.list acc) → P (.ref D) m1 σ')))
    (hs : ∀ x, foldedSetIterable iter env x = pure x := by intro _; rfl) (hcl : closureFor scope env = pure cl := by rfl)
    (hcell : ∀ y ∈ scope.names, y.2 ≠ .cell := by decide) (hkind : scope.kind = .function := by rfl) (hx : (relabel scope env).names.lookup x = some .local := by rfl)
    (hnames : ∀ x ∈ scope.names, x.2 = .local → scope.names.lookup x.1 = some .local := by decide) :
    TE prog w n L m σ (eval (.ListComp elt [⟨.Name x px, iter, [], 0⟩] scope pos) env) P := by
  intro g A s Q hA R k
  rw [eval_ListComp]
  refine wpAny_comprehension_free (use := Option.none) rfl hs hcl hkind hnames (h g A s _ hA R fun v c m1 σ1 h1 t1 p1 r1 R1 => ?_)
  obtain ⟨vs, need, σ2, Inv, hit, hz, h0, hneed, turn, fin⟩ := p1
  refine hit A _ g L m1 _ c hA.1 r1 R1 fun I is h2 t2 o IT R2 hsI hgI hLI eI is0 _ => ?_
  refine comp_body (RR := fun acc C r s' => compPost (model prog w) A NoE Option.none Q acc C r s') hA R2 IT eI is0 hsI hgI hLI hcell hkind hx hz h0 hneed turn ?_
  intro D C acc σ' h' tk hI eD R' hn hgC hsC hCL
  obtain ⟨mc, hn⟩ := hn
  refine ⟨mc, hn, fun h'' hs'' => ?_⟩
  exact k _ _ _ _ _ _ (fin D acc σ' hI eD) (.ref D) (R'.butI (fun b ob hb e => (hs''.2 b hb).trans e) hgC hsC hCL)

theorem s_assignComp {y : Str} {py spos : Pos} {elt iter : Expr} {x : Str} {px pos : Pos} {scope : Scope} {cl : List (Str × Addr)} {P : AFl → Loc → Sto → Prop}
    (h : TE prog w n L m σ (eval iter env) (fun v m1 σ1 => ∃ (vs : List AV) (need : Sto → Prop) (σ2 : Sto) (Inv : Addr → Nat → List AV → Sto → Prop), Iterable prog w v vs σ1 σ2 need ∧ vs.length ≤ 1000000 ∧ (∀ D, σ2 D = Option.none → Inv D 0 [] (upS σ2 D (.list []))) ∧ (∀ D i acc σ, Inv D i acc σ → need σ) ∧
      (∀ C D i u acc σ, vs[i]? = some u → Inv D i acc σ → σ D = some (.list acc) → TE prog w n C (upL noL x u) σ (eval elt (compEnvC scope cl C env)) (fun y _ σ' => σ' D = some (.list acc) ∧ Inv D (i + 1) (acc ++ [y]) (upS σ' D (.list (acc ++ [y]))))) ∧
      (∀ D acc σ', Inv D vs.length acc σ' → σ' D = some (.list acc) → P .next (upL m1 y (.ref D)) σ')))
    (hsw : swapsWith (.ListComp elt [⟨.Name x px, iter, [], 0⟩] scope pos) (some (.Name y py)) spos.line env = pure true := by rfl)
    (hs : ∀ x, foldedSetIterable iter env x = pure x := by intro _; rfl) (hcl : closureFor scope env = pure cl := by rfl)
    (hcell : ∀ y ∈ scope.names, y.2 ≠ .cell := by decide) (hkind : scope.kind = .function := by rfl) (hx : (relabel scope env).names.lookup x = some .local := by rfl)
    (hnames : ∀ x ∈ scope.names, x.2 = .local → scope.names.lookup x.1 = some .local := by decide)
    (hL : env.locals = L := by rfl) (hk : env.scope.kind = .function := by rfl) (hy : env.kindOf y = some .local := by rfl) :
    TF prog w n L m σ (exec (.Assign [.Name y py] (.ListComp elt [⟨.Name x px, iter, [], 0⟩] scope pos) spos) env) P := by
  intro g A s Q hA R k
  rw [exec_Assign_Name_used _ _ _ _ hsw]
  refine wpAny_bind (wpAny_standAt (wpAny_bind ?_))
  show wpAny _ A (do let _ ← comprehension (.ListComp elt [⟨.Name x px, iter, [], 0⟩] scope pos) scope env _ (newList []) false (eval iter env) (some (assign (.Name y py) env))) _ _ s
  refine wpAny_bind (wpAny_mono (wpAny_comprehension_free (use := some (assign (.Name y py) env)) (Q := fun _ s' => Q .next s') rfl hs hcl hkind hnames (h g A s _ hA R fun v c m1 σ1 h1 t1 p1 r1 R1 => ?_))
    (fun _ s' hq => wpAny_pure (wpAny_pure hq)) fun _ _ e => e)
  obtain ⟨vs, need, σ2, Inv, hit, hz, h0, hneed, turn, fin⟩ := p1
  refine hit A _ g L m1 _ c hA.1 r1 R1 fun I is h2 t2 o IT R2 hsI hgI hLI eI is0 _ => ?_
  refine comp_body (RR := fun acc C r s' => compPost (model prog w) A NoE (some (assign (.Name y py) env)) (fun _ s' => Q .next s') acc C r s') hA R2 IT eI is0 hsI hgI hLI hcell hkind hx hz h0 hneed turn ?_
  intro D C acc σ' h' tk hI eD R' hn hgC hsC hCL
  obtain ⟨mc, hn⟩ := hn
  obtain ⟨oC, es, ep, eC, hrest⟩ := id hn
  refine wpAny_assign_Name (s_store (P := fun _ m2 σ2 => m2 = upL m1 y (.ref D) ∧ σ2 = σ') (.ref D) ⟨rfl, rfl⟩ hL hk hy _ A _ _ hA (R'.ins eC hsC hgC hCL) fun _ _ m4 σ4 h4 t4 p4 _ R4 => ?_)
  obtain ⟨rfl, rfl⟩ := p4
  refine ⟨mc, ⟨oC, es, ep, R4.insAt, hrest⟩, fun h'' hs'' => ?_⟩
  exact k .next .next _ _ _ _ (fin D acc σ4 hI eD) .next ((R4.del R.base hgC).butI (fun b ob hb e => (hs''.2 b hb).trans e) hgC hsC hCL)
end
/-! Core7 -/
inductive VO : Option AV → Option Value → Prop
  | none : VO Option.none Option.none
  | some {v c} : VR v c → VO (Option.some v) (Option.some c)
theorem VO.up {a : Option AV} {c : Option Value} (h : VO a c) {o : Obj} (e : o.data = .cell c) : OR (.cell a) o := by
  cases h with
  | none => exact .cell0 e
  | some r => exact .cell r e

theorem bindL_rel (kd : Str → Option NameKind) : ∀ (xs : List Str) (vs : List AV) (ws : List Value) (m : Loc) (mc : Str → Option Value), VRs vs ws →
    (∀ y, kd y = some .local → VO (m y) (mc y)) → ∀ y, kd y = some .local → VO (bnd xs vs m y) (bindL kd (xs.zip ws) mc y)
  | [], _, _, m, mc, _, h, y, hy => by simpa [bnd, bindL] using h y hy
  | x :: xs, [], _, m, mc, .nil, h, y, hy => by simpa [bnd, bindL] using h y hy
  | x :: xs, u :: vs, c :: ws, m, mc, .cons r rs, h, y, hy => by
    simp only [bnd, List.zip_cons_cons, bindL]
    refine bindL_rel kd xs vs ws _ _ rs (fun z hz => ?_) y hy
    unfold upL
    by_cases q : z = x
    · subst q; rw [if_pos rfl, if_pos hz]; simp; exact .some r
    · rw [if_neg q]
      split
      · show VO (m z) (if z = x then Option.some c else mc z)
        rw [if_neg q]; exact h z hz
      · exact h z hz
theorem bindC_rel (kd : Str → Option NameKind) : ∀ (xs : List Str) (vs : List AV) (ws : List Value) (m : Loc) (mc : Str → Option Value), VRs vs ws →
    (∀ y, kd y = some .cell → VO (m y) (mc y)) → ∀ y, kd y = some .cell → VO (bnd xs vs m y) (bindC kd (xs.zip ws) mc y)
  | [], _, _, m, mc, _, h, y, hy => by simpa [bnd, bindC] using h y hy
  | x :: xs, [], _, m, mc, .nil, h, y, hy => by simpa [bnd, bindC] using h y hy
  | x :: xs, u :: vs, c :: ws, m, mc, .cons r rs, h, y, hy => by
    simp only [bnd, List.zip_cons_cons, bindC]
    refine bindC_rel kd xs vs ws _ _ rs (fun z hz => ?_) y hy
    unfold upL
    by_cases q : z = x
    · subst q; rw [if_pos rfl, if_neg (by rw [hz]; simp)]; simp; exact .some r
    · rw [if_neg q]
      split
      · exact h z hz
      · show VO (m z) (if z = x then Option.some c else mc z)
        rw [if_neg q]; exact h z hz

theorem lookup_nodup {β : Type} : ∀ {cs : List (Str × β)} {n : Str} {c : β}, (cs.map (·.1)).Nodup → (n, c) ∈ cs → cs.lookup n = some c
  | (n', c') :: cs, n, c, hnd, hm => by
    rw [List.map_cons, List.nodup_cons] at hnd
    rcases List.mem_cons.mp hm with e | hm
    · cases e; simp
    · have hne : (n == n') = false := beq_false_of_ne fun q => hnd.1 (q ▸ List.mem_map.mpr ⟨(n, c), hm, rfl⟩)
      rw [List.lookup_cons, hne]
      exact lookup_nodup hnd.2 hm
theorem mem_cellsFrom {x : Str} {c : Addr} : ∀ (names : List (Str × NameKind)) (k : Nat) (acc : List (Str × Addr)), (x, c) ∈ cellsFrom k names acc → (x, c) ∈ acc ∨ (x, NameKind.cell) ∈ names
  | [], _, _, h => .inl h
  | (y, kd) :: r, k, acc, h => by
    unfold cellsFrom at h
    split at h
    · rename_i hk
      rcases mem_cellsFrom r (k + 1) ((y, k) :: acc) h with h | h
      · rcases List.mem_cons.mp h with h | h
        · cases h; rw [eq_of_beq hk]; exact .inr (.head _)
        · exact .inl h
      · exact .inr (.tail _ h)
    · exact (mem_cellsFrom r k acc h).imp id fun h => .tail _ h

section
variable {prog : Program} {w : World} {n : Nat} {L : Addr} {m : Loc} {σ : Sto} {env : Env}

/-- a call of a def of the text some of whose names are captured -/
theorem call_defC {f : Addr} {name qual : Str} {params : Arguments} {body : List Stmt} {scope : Scope} {dV kV doc pm cdv ct oc : Value} {an od : Option Addr} {osl : Array (Option Value)} {xs : List Str} {vs : List AV} {m0 : Loc} {P : AV → Loc → Sto → Prop}
    (ho : (KF w).lookup f = some ⟨oc, od, .func (fnOf name qual params body scope dV kV doc pm an cdv ct), osl⟩) (hcd : codeIn (KF w) cdv qual = true)
    (hbind : ∀ ws, VRs vs ws → bindArgs (fnOf name qual params body scope dV kV doc pm an cdv ct) ⟨ws, []⟩ = pure (xs.zip ws))
    (hkind : ∀ x ∈ xs, scope.names.lookup x = some .local ∨ (scope.names.lookup x = some .cell ∧ ∀ k, ((cellsFrom k scope.names []).lookup x).isSome = true))
    (hm0 : ∀ x v, m0 x = some v → scope.names.lookup x = some .local ∧ bnd xs vs noL x = some v)
    (hnd : ((cellsFrom 0 scope.names []).map (·.1)).Nodup) (hnn : (scope.names.map (·.1)).Nodup)
    (h : ∀ L' σ0, (∀ a o, σ a = some o → σ0 a = some o) → (∀ x c, (cellsFrom (L' + 1) scope.names []).lookup x = some c → σ c = Option.none ∧ σ0 c = some (.cell (bnd xs vs noL x))) →
      TF prog w n L' m0 σ0 (execs body (envX qual scope L' f cdv (cellsFrom (L' + 1) scope.names []))) (fun fl _ σ' => P (retOf fl) m σ'))
    (hco : scope.isCoroutine = false := by rfl) (hgen : scope.isGenerator = false := by rfl) (hk : scope.kind = .function := by rfl) :
    ∀ ws, VRs vs ws → TE prog w (n + 1) L m σ (call (.ref f) ws) P := by
  intro ws hws g A s Q hA R k
  obtain ⟨mg, mb, X, ⟨p, loose, mean, T⟩, _, _⟩ := R.world
  refine wpAny_call (codeAny_call_cells (fd := fnOf name qual params body scope dV kV doc pm an cdv ct) (body := body) (binds := xs.zip ws) (by show A.depth < 1000; have := hA.2.1; omega) (X _ _ ho) rfl T.nolimit (codeRec_of X hcd) rfl
    (hbind ws hws) rfl (fun y hy => (hkind y.1 (List.of_mem_zip hy).1).imp id fun q => ⟨q.1, q.2 _⟩) (fun s₁ x => ?_) hco hgen hk)
  obtain ⟨h₁, tk, rfl, hk₁⟩ := x.done
  have hL' : s.heap.get? s.heap.objs.size = Option.none := size_none
  have cellk : ∀ y c, (cellsFrom (s.heap.objs.size + 1) scope.names []).lookup y = some c → ∃ o, h₁.get? c = some o ∧ o.data = .cell (bindC (callEnvC (fnOf name qual params body scope dV kV doc pm an cdv ct) s.heap.objs.size f).kindOf (xs.zip ws) (fun _ => Option.none) y) := fun y c e => x.cell y c e
  have above : ∀ y c, (cellsFrom (s.heap.objs.size + 1) scope.names []).lookup y = some c → s.heap.objs.size < c := fun y c e => x.above y c (mem_of_lookup e)
  have R₁ : Rel w (frmOf σ s.heap) s.heap.objs.size m0 σ h₁ := R.enter hk₁ hL' x.toInCall.ns fun y v e => by
    obtain ⟨h1, h2⟩ := hm0 y v e
    have q := bindL_rel (callEnvC (fnOf name qual params body scope dV kV doc pm an cdv ct) s.heap.objs.size f).kindOf xs vs ws noL (fun _ => Option.none) hws (fun _ _ => .none) y h1
    rw [h2] at q
    generalize bindL _ _ _ _ = z at q ⊢
    cases q with
    | some r => exact ⟨_, rfl, r⟩
  let σ0 : Sto := fun a => match (cellsFrom (s.heap.objs.size + 1) scope.names []).find? (fun p => p.2 == a) with
    | some p => some (.cell (bnd xs vs noL p.1))
    | Option.none => σ a
  have hσn : ∀ p ∈ cellsFrom (s.heap.objs.size + 1) scope.names [], σ p.2 = Option.none := fun p hp => by
    cases q : σ p.2 with
    | none => rfl
    | some ao =>
      obtain ⟨o, e1, _⟩ := R.sto _ _ q
      exact absurd (Heap.lt_size e1) (Nat.not_lt.mpr (Nat.le_of_lt (x.above p.1 p.2 hp)))
  have hext : ∀ a o, σ a = some o → σ0 a = some o := fun a o e => by
    show (match (cellsFrom (s.heap.objs.size + 1) scope.names []).find? (fun p => p.2 == a) with | some p => _ | Option.none => σ a) = _
    split
    · rename_i p hp
      have h1 := List.mem_of_find?_eq_some hp
      have h2 : (p.2 == a) = true := List.find?_some (p := fun p : Str × Addr => p.2 == a) hp
      have := hσn p h1
      rw [eq_of_beq h2, e] at this; cases this
    · exact e
  have hcell : ∀ y c, (cellsFrom (s.heap.objs.size + 1) scope.names []).lookup y = some c → σ c = Option.none ∧ σ0 c = some (.cell (bnd xs vs noL y)) := fun y c e => by
    have hm := mem_of_lookup e
    refine ⟨hσn _ hm, ?_⟩
    show (match (cellsFrom (s.heap.objs.size + 1) scope.names []).find? (fun p => p.2 == c) with | some p => _ | Option.none => σ c) = _
    split
    · rename_i p hp
      have h1 := List.mem_of_find?_eq_some hp
      have h2 : (p.2 == c) = true := List.find?_some (p := fun p : Str × Addr => p.2 == c) hp
      rw [name_of_addr x.apart (show (p.1, c) ∈ _ from (eq_of_beq h2) ▸ h1) hm]
    · rename_i hp
      have := List.find?_eq_none.mp hp _ hm
      simp at this
  have R₂ : Rel w (frmOf σ s.heap) s.heap.objs.size m0 σ0 h₁ := by
    have pick : ∀ a ao, σ0 a = some ao → (∃ y, (y, a) ∈ cellsFrom (s.heap.objs.size + 1) scope.names [] ∧ ao = .cell (bnd xs vs noL y)) ∨ σ a = some ao := fun a ao e => by
      change (match (cellsFrom (s.heap.objs.size + 1) scope.names []).find? (fun p => p.2 == a) with | some p => some (.cell (bnd xs vs noL p.1)) | Option.none => σ a) = some ao at e
      split at e
      · rename_i p hp
        have h1 := List.mem_of_find?_eq_some hp
        have h2 : (p.2 == a) = true := List.find?_some (p := fun p : Str × Addr => p.2 == a) hp
        cases e
        exact .inl ⟨p.1, (eq_of_beq h2) ▸ h1, rfl⟩
      · exact .inr e
    refine ⟨R₁.base, R₁.keep, R₁.ns, R₁.gL, fun a ao e => ?_, fun a ao e => ?_⟩
    · rcases pick a ao e with ⟨y, hy, rfl⟩ | e
      · have hl : (cellsFrom (s.heap.objs.size + 1) scope.names []).lookup y = some a := by
          exact lookup_of_mem_nodup (cellsFrom_names scope.names 0 (s.heap.objs.size + 1) [] [] rfl ▸ hnd) hy
        obtain ⟨o, e1, e2⟩ := cellk y a hl
        refine ⟨o, e1, (?_ : VO _ _).up e2⟩
        exact bindC_rel (callEnvC (fnOf name qual params body scope dV kV doc pm an cdv ct) s.heap.objs.size f).kindOf xs vs ws noL (fun _ => Option.none) hws (fun _ _ => .none) y (lookup_nodup hnn ((mem_cellsFrom _ _ _ (mem_of_lookup hl)).resolve_left (fun h => nomatch h)))
      · exact R₁.sto a ao e
    · rcases pick a ao e with ⟨y, hy, rfl⟩ | e
      · refine ⟨Nat.ne_of_gt (x.above y a hy), ?_⟩
        rw [frmOf_none (hσn (y, a) hy)]
        exact Heap.get?_none_of_le (Nat.le_of_lt (x.above y a hy))
      · exact R₁.apart a ao e
  refine wpAny_mono (h s.heap.objs.size σ0 hext hcell (frmOf σ s.heap) (A.deeper _) { s with heap := h₁, toks := tk } (fun fl s' => Q (match fl with | .ret v => v | _ => .none) s') hA.deeper R₂ fun fl c m' σ' h' tk p r Rr => ?_) (fun _ _ x => x) (fun _ _ x => x.elim)
  have := retOf_rel r
  cases r <;> exact k (retOf _) _ m σ' h' tk p this (R.leave Rr)
end

section
variable {prog : Program} {w : World} {n : Nat} {L : Addr} {m : Loc} {σ : Sto} {env : Env}

theorem Rel.cell {g : Frm} {h : Heap} {c : Addr} {v : AV} (R : Rel w g L m σ h) (e : σ c = some (.cell (some v))) : ∃ u, h.IsCell c (some u) ∧ VR v u := by
  obtain ⟨o, e1, e2⟩ := R.sto c _ e
  cases e2 with
  | cell r hd => exact ⟨_, ⟨o, e1, hd⟩, r⟩
theorem e_cell {x : Str} {pos : Pos} {c : Addr} {v : AV} {P : AV → Loc → Sto → Prop} (hc : env.cells.lookup x = some c) (e : σ c = some (.cell (some v))) (h : P v m σ)
    (hk : env.scope.kind = .function := by rfl) (hx : env.kindOf x = some .cell := by rfl) (hd : (x == ("__debug__" : Str)) = false := by decide) : TE prog w n L m σ (eval (.Name x pos) env) P := by
  intro g A s Q hA R k
  obtain ⟨u, hu, r⟩ := R.cell e
  exact wpAny_Name (wpAny_loadName_cell hk hx hc hu (by have := k v u m σ s.heap s.toks h r R; exact this)) hd
theorem e_free {x : Str} {pos : Pos} {c : Addr} {v : AV} {P : AV → Loc → Sto → Prop} (hc : env.cells.lookup x = some c) (e : σ c = some (.cell (some v))) (h : P v m σ)
    (hk : env.scope.kind = .function := by rfl) (hx : env.kindOf x = some .free := by rfl) (hd : (x == ("__debug__" : Str)) = false := by decide) (hn : (x == ("__classdict__" : Str)) = false := by decide) : TE prog w n L m σ (eval (.Name x pos) env) P := by
  intro g A s Q hA R k
  obtain ⟨u, hu, r⟩ := R.cell e
  exact wpAny_Name (wpAny_loadName_free hk hx hc hu (by have := k v u m σ s.heap s.toks h r R; exact this) hn) hd
theorem s_storeC {x : Str} {c : Addr} {v : AV} {u : Value} {v0 : Option AV} {P : Unit → Loc → Sto → Prop} (r : VR v u) (hc : env.cells.lookup x = some c) (e : σ c = some (.cell v0)) (h : P () m (upS σ c (.cell (some v))))
    (hk : env.scope.kind = .function := by rfl) (hx : env.kindOf x = some .cell := by rfl) : TU prog w n L m σ (storeName env x u) P := by
  intro g A s Q hA R k
  obtain ⟨o, e1, e2⟩ := R.sto c _ e
  have hcell : ∃ z, s.heap.IsCell c z := by
    cases e2 with
    | cell0 hd => exact ⟨_, o, e1, hd⟩
    | cell r hd => exact ⟨_, o, e1, hd⟩
  obtain ⟨z, hz⟩ := hcell
  refine wpAny_storeName_cell hk hx hc hz fun h' hv hs => ?_
  obtain ⟨o', e', hd'⟩ := hv
  exact k () () m _ h' _ h rfl (R.set e (fun b ob hb eb => (hs.2 b hb).trans eb) e' (.cell r hd'))
theorem s_assignC {x : Str} {pos' pos : Pos} {value : Expr} {c : Addr} {P : AFl → Loc → Sto → Prop} (hc : env.cells.lookup x = some c)
    (h : TE prog w n L m σ (eval value env) (fun v m1 σ1 => ∃ v0, σ1 c = some (.cell v0) ∧ P .next m1 (upS σ1 c (.cell (some v)))))
    (hs : swapsWith value (some (.Name x pos')) pos.line env = pure false := by rfl)
    (hk : env.scope.kind = .function := by rfl) (hx : env.kindOf x = some .cell := by rfl) : TF prog w n L m σ (exec (.Assign [.Name x pos'] value pos) env) P :=
  fun g A s Q hA R k => wpAny_Assign_Name (h g A s _ hA R fun v u m1 σ1 h1 t1 p1 r1 R1 => by
    obtain ⟨v0, e, hP⟩ := p1
    exact s_storeC (P := fun _ m2 σ2 => P .next m2 σ2) r1 hc e hP hk hx g A _ _ hA R1 fun _ _ m2 σ2 h2 t2 p2 _ R2 => k .next .next m2 σ2 h2 t2 p2 .next R2) hs

-- ### a def within a def
structure CodeOk (σ : Sto) (c : Addr) (qual : Str) : Prop where
  ex : ∃ oc vs t, σ c = some (.obj oc) ∧ oc.data = .fields vs ∧ vs[1]? = some (.str qual t)
noncomputable def TabOk (σ : Sto) (P : Addr) (line col : Int) (qual : Str) : Prop :=
  σ P = some (.obj (tabObj #[])) ∨ ∃ c, σ P = some (.obj (tabObj #[rawInt line, rawInt col, .ref c])) ∧ CodeOk σ c qual
theorem CodeOk.mono {σ σ' : Sto} {c : Addr} {qual : Str} (h : CodeOk σ c qual) (k : ∀ o, σ c = some o → σ' c = some o) : CodeOk σ' c qual := by
  obtain ⟨oc, vs, t, e, r⟩ := h.ex
  exact ⟨oc, vs, t, k _ e, r⟩

theorem mk_def {name qual : Str} {params : Arguments} {body : List Stmt} {scope : Scope} {pos : Pos} {firstLine : Nat} {clos : List (Str × Addr)} {c P : Addr} {Q' : AV → Loc → Sto → Prop}
    (hcP : (c = 75 ∧ P = 71) ∨ (c = 68 ∧ P = 64)) (hcl : closureFor scope env = pure clos) (hge0 : env.globals = mainGlobals) (hcode : env.code = .ref c) (ht : TabOk σ P pos.line pos.col qual)
    (h : ∀ f c' doc pm ctv σ', σ f = Option.none → (∀ b o, b ≠ P → σ b = some o → σ' b = some o) → σ' f = some (.obj (fnMade name qual params body scope clos doc pm c' ctv)) → CodeOk σ' c' qual → TabOk σ' P pos.line pos.col qual → (∀ b o, σ b = some o → b ≠ f) → Q' (.ref f) m σ') :
    TE prog w n L m σ (makeFunction name qual params (.stmts body) scope env [] [] [] pos firstLine) Q' := by
  intro g A s Q hA R k
  obtain ⟨mg, mb, X, ⟨p, loose, mean, T⟩, C1, C2⟩ := R.world
  have C : CodeHd s.heap c P := by
    rcases hcP with ⟨rfl, rfl⟩ | ⟨rfl, rfl⟩
    · exact C1
    · exact C2
  have hgs := T.g
  obtain ⟨bm, ob, b1, b2, b3, b4, b5, b6⟩ := T.bmain
  have bmG : bm ≠ mainGlobals := fun q => by
    obtain ⟨o, es, ep, e, hd, _⟩ := T.g
    rw [q, e] at b3; cases b3; rw [hd] at b6; cases b6
  have notTab : ∀ ps, s.heap.get? P = some (tabObj ps) → mainGlobals ≠ P ∧ bm ≠ P := fun ps hP => by
    constructor
    · intro q
      obtain ⟨o, es, ep, e, hd, _⟩ := hgs
      rw [q, hP] at e; cases e; cases hd
    · intro q
      rw [q, hP] at b3; cases b3; cases b4
  have hbuilt : ∀ ps, s.heap.get? P = some (tabObj ps) → s.heap.BuiltinsAt mg P := fun ps hP => ⟨bm, ob, b1, b2, bmG, (notTab ps hP).2, b3, b4, b5, b6⟩
  rcases ht with ht | ⟨c0, ht, hc0⟩
  · obtain ⟨o, eP, rP⟩ := R.sto P _ ht
    cases rP
    refine makeFunction_K (mg := mg) hcl hge0 hgs hcode C eP True.intro rfl (notTab _ eP).1 (hbuilt _ eP) fun c' ctv doc h' tk hx hge hlt hrec htb => ?_
    obtain ⟨c₂, oc, vs, t, e2, hoc, hd, hv⟩ := hrec
    cases e2
    have R1 := R.set (ao' := .obj (tabObj (#[] ++ #[rawInt pos.line, rawInt pos.col, .ref c']))) ht (fun b o' hb e => hx b o' hb e) htb (.obj _)
    have hc'n := R.noneAt (Heap.get?_none_of_le (h := s.heap) hge)
    have R2 := R1.add (ao := .obj oc) hoc (.obj oc) hc'n.2.2 hc'n.1
    have R3 := R2.push (o := fnMade name qual params body scope clos doc ((mg "__name__").getD .none) c' ctv) (.obj _) rfl
    have hsz : s.heap.objs.size ≤ h'.objs.size := Nat.le_trans hge (Nat.le_of_lt hlt)
    have hfn := R.noneAt (Heap.get?_none_of_le (h := s.heap) hsz)
    have hPc : P ≠ c' := fun q => by have := hc'n.2.1; rw [← q, ht] at this; cases this
    have hPf : P ≠ h'.objs.size := fun q => by have := hfn.2.1; rw [← q, ht] at this; cases this
    have hcf : c' ≠ h'.objs.size := Nat.ne_of_lt hlt
    have hC : CodeOk (upS (upS (upS σ P (.obj (tabObj (#[] ++ #[rawInt pos.line, rawInt pos.col, .ref c'])))) c' (.obj oc)) h'.objs.size (.obj (fnMade name qual params body scope clos doc ((mg "__name__").getD .none) c' ctv))) c' qual :=
      ⟨oc, vs, t, upS_ne hcf upS_eq, hd, hv⟩
    refine k (.ref h'.objs.size) _ m _ _ tk (h h'.objs.size c' doc ((mg "__name__").getD .none) ctv _ hfn.2.1 (fun b o' hb e => ?_) upS_eq hC (.inr ⟨c', upS_ne hPf (upS_ne hPc upS_eq), hC⟩) fun b o' e => ?_) (.ref _) R3
    · exact upS_ne (fun q => by rw [q, hfn.2.1] at e; cases e) (upS_ne (fun q => by rw [q, hc'n.2.1] at e; cases e) (upS_ne hb e))
    · intro q; rw [q, hfn.2.1] at e; cases e
  · obtain ⟨o, eP, rP⟩ := R.sto P _ ht
    cases rP
    refine makeFunction_hit (mg := mg) (cv := .ref c0) hcl hge0 hgs hcode C eP True.intro (by simp [codeAmong, rawInt]) (hbuilt _ eP) fun ctv doc h' tk hk hsz => ?_
    have R1 := R.keeps hk
    have R3 := R1.push (o := fnMade name qual params body scope clos doc ((mg "__name__").getD .none) c0 ctv) (.obj _) rfl
    have hfn := R.noneAt (Heap.get?_none_of_le (h := s.heap) hsz)
    have hC : CodeOk (upS σ h'.objs.size (.obj (fnMade name qual params body scope clos doc ((mg "__name__").getD .none) c0 ctv))) c0 qual := hc0.mono fun o e => upS_ne (fun q => by rw [q, hfn.2.1] at e; cases e) e
    refine k (.ref h'.objs.size) _ m _ _ tk (h h'.objs.size c0 doc ((mg "__name__").getD .none) ctv _ hfn.2.1 (fun b o' hb e => ?_) upS_eq hC (.inr ⟨c0, upS_old hfn.2.1 ht, hC⟩) fun b o' e => ?_) (.ref _) R3
    · exact upS_old hfn.2.1 e
    · intro q; rw [q, hfn.2.1] at e; cases e

theorem s_def {name qual : Str} {params : Arguments} {body : List Stmt} {scope : Scope} {pos : Pos} {clos : List (Str × Addr)} {c P cc : Addr} {v0 : Option AV} {Q : AFl → Loc → Sto → Prop}
    (hq : qualnameIn env name name = qual)
    (hcP : (c = 75 ∧ P = 71) ∨ (c = 68 ∧ P = 64)) (ht : TabOk σ P pos.line pos.col qual) (hcc : env.cells.lookup name = some cc) (e : σ cc = some (.cell v0)) (hccP : cc ≠ P)
    (h : ∀ f c' doc pm ctv σ', σ f = Option.none → (∀ b o, b ≠ P → b ≠ cc → σ b = some o → σ' b = some o) → σ' f = some (.obj (fnMade name qual params body scope clos doc pm c' ctv)) → CodeOk σ' c' qual → TabOk σ' P pos.line pos.col qual → σ' cc = some (.cell (some (.ref f))) → Q .next m σ')
    (hcl : closureFor scope env = pure clos := by rfl) (hge0 : env.globals = mainGlobals := by rfl) (hcode : env.code = .ref c := by rfl)
    (hd0 : params.defaults = [] := by rfl) (hk0 : params.kw_defaults = [] := by rfl) (ha : annTrees params Option.none env = [] := by rfl)
    (hk : env.scope.kind = .function := by rfl) (hx : env.kindOf name = some .cell := by rfl) :
    TF prog w n L m σ (exec (.FunctionDef name params body [] Option.none [] scope Option.none name pos) env) Q := by
  intro g A s Q' hA R k
  subst hq
  refine nestDef_K hd0 hk0 ha ?_
  refine mk_def (Q' := fun v m1 σ1 => ∃ v1, σ1 cc = some (.cell v1) ∧ Q .next m1 (upS σ1 cc (.cell (some v)))) hcP hcl hge0 hcode ht (fun f c' doc pm ctv σ' hf hk' hσf hC hT hne => ?_) g A s _ hA R fun v u m1 σ1 h1 t1 p1 r1 R1 => ?_
  · have hfc : f ≠ cc := fun q => by rw [q, e] at hf; cases hf
    refine ⟨v0, hk' _ _ hccP e, h f c' doc pm ctv _ hf (fun b o hb hbc eb => upS_ne hbc (hk' b o hb eb)) (upS_ne hfc hσf) (hC.mono fun o eo => ?_) ?_ upS_eq⟩
    · refine upS_ne (fun q => ?_) eo
      obtain ⟨oc, vs, t, eoc, _⟩ := hC.ex
      rw [q, hk' _ _ hccP e] at eoc; cases eoc
    · rcases hT with hT | ⟨c1, hT, hC1⟩
      · exact .inl (upS_ne (Ne.symm hccP) hT)
      · refine .inr ⟨c1, upS_ne (Ne.symm hccP) hT, hC1.mono fun o eo => upS_ne (fun q => ?_) eo⟩
        obtain ⟨oc, vs, t, eoc, _⟩ := hC1.ex
        rw [q, hk' _ _ hccP e] at eoc; cases eoc
  · obtain ⟨v1, e1, hP⟩ := p1
    exact s_storeC (P := fun _ m2 σ2 => Q .next m2 σ2) r1 hcc e1 hP hk hx g A _ _ hA R1 fun _ _ m2 σ2 h2 t2 p2 _ R2 => k .next .next m2 σ2 h2 t2 p2 .next R2

theorem c_nest {f c' : Addr} {name qual : Str} {params : Arguments} {body : List Stmt} {scope : Scope} {clos : List (Str × Addr)} {doc pm ctv : Value} {e : Expr} {rest : List Expr} {pos : Pos} {P : AV → Loc → Sto → Prop}
    (ef : σ f = some (.obj (fnMade name qual params body scope clos doc pm c' ctv)))
    (h : TL prog w n L m σ (spliced (backTo pos (starEach (e :: rest) env))) (fun vs m1 σ1 => σ1 f = some (.obj (fnMade name qual params body scope clos doc pm c' ctv)) ∧ ∀ ws, VRs vs ws → TE prog w n L m1 σ1 (call (.ref f) ws) P))
    (he : starEach (e :: rest) env = (false, eval e env) :: starEach rest env := by rfl) (hplain : (backTo pos (starEach rest env)).any (·.1) = false := by rfl) :
    ∀ c, VR (.ref f) c → TE prog w n L m σ (callWith pos c [] (backTo pos (starEach (e :: rest) env)) []) P := by
  intro c hc g A s Q hA R k
  cases hc
  have fa : ∀ {m1 : Loc} {σ1 : Sto} {h1 : Heap}, Rel w g L m1 σ1 h1 → σ1 f = some (.obj (fnMade name qual params body scope clos doc pm c' ctv)) → FnAt f h1 := fun R1 e1 => by
    obtain ⟨o, e2, r2⟩ := R1.sto f _ e1
    cases r2
    exact ⟨_, _, _, _, e2⟩
  exact callWith_F (fa R ef) (h g A s _ hA R fun x a m1 σ1 h1 t1 p1 r1 R1 => ⟨fa R1 p1.1, p1.2 a r1 g A _ _ hA R1 fun y b m2 σ2 h2 t2 p2 r2 R2 => k y b m2 σ2 h2 t2 p2 r2 R2⟩) he hplain

theorem call_nest {f c' : Addr} {name qual : Str} {params : Arguments} {body : List Stmt} {scope : Scope} {clos : List (Str × Addr)} {doc pm ctv : Value} {xs : List Str} {vs : List AV} {P : AV → Loc → Sto → Prop}
    (ef : σ f = some (.obj (fnMade name qual params body scope clos doc pm c' ctv))) (hC : CodeOk σ c' qual)
    (hbind : ∀ ws, VRs vs ws → bindArgs (fnX name qual params body scope clos .none .none doc pm Option.none (.ref c') ctv) ⟨ws, []⟩ = pure (xs.zip ws))
    (hloc : ∀ x ∈ xs, scope.names.lookup x = some .local) (hcell : ∀ x ∈ scope.names, x.2 ≠ .cell)
    (h : ∀ L', TF prog w n L' (bnd xs vs noL) σ (execs body (envX qual scope L' f (.ref c') clos)) (fun fl _ σ' => P (retOf fl) m σ'))
    (hco : scope.isCoroutine = false := by rfl) (hgen : scope.isGenerator = false := by rfl) (hk : scope.kind = .function := by rfl) :
    ∀ ws, VRs vs ws → TE prog w (n + 1) L m σ (call (.ref f) ws) P := by
  intro ws hws g A s Q hA R k
  obtain ⟨mg, mb, X, ⟨p, loose, mean, T⟩, _, _⟩ := R.world
  obtain ⟨o, eo, ro⟩ := R.sto f _ ef
  cases ro
  obtain ⟨oc, vsc, t, ec, hdc, hvc⟩ := hC.ex
  obtain ⟨oc', ec', roc⟩ := R.sto c' _ ec
  cases roc
  refine wpAny_call (codeAny_call_def (fd := fnX name qual params body scope clos .none .none doc pm Option.none (.ref c') ctv) (body := body) (binds := xs.zip ws) (by show A.depth < 1000; have := hA.2.1; omega) eo rfl T.nolimit ⟨c', oc, vsc, t, rfl, ec', hdc, hvc⟩ rfl
    (.of_eq (hbind ws hws)) hcell (fun y hy => hloc y.1 (List.of_mem_zip hy).1) (fun h₀ hn hk₀ => ?_) hco hgen hk)
  have R' : Rel w (frmOf σ s.heap) s.heap.objs.size (bnd xs vs noL) σ h₀ := R.enter hk₀ (Heap.get?_none_of_le (Nat.le_refl _)) hn
    (fun y v e => by simpa using bnd_rel xs vs ws [] noL hws (fun y v e => by cases e) y v e)
  refine wpAny_mono (h s.heap.objs.size (frmOf σ s.heap) (A.deeper _) { s with heap := h₀, toks := _ } (fun fl s' => Q (match fl with | .ret v => v | _ => .none) s') hA.deeper R' fun fl c m' σ' h' tk p r Rr => ?_) (fun _ _ x => x) (fun _ _ x => x.elim)
  have := retOf_rel r
  cases r <;> exact k (retOf _) _ m σ' h' tk p this (R.leave Rr)
end
local macro_rules | `(tactic| walk_at "lk") => `(tactic| first | (with_reducible exact upL_eq) | (refine upL_ne (by decide) ?_; walk_at "lk") | assumption)
local macro_rules | `(tactic| walk_at "st") => `(tactic| first
  | (with_reducible refine o_add ?_)
  | (with_reducible refine o_sub ?_)
  | (with_reducible refine q_le ?_)
  | (with_reducible refine q_lt ?_)
  | (with_reducible refine q_ge ?_)
  | (with_reducible refine q_gt ?_)
  | (with_reducible refine q_eq ?_)
  | (with_reducible refine q_ne ?_)
  | (with_reducible refine y_int ?_)
  | (with_reducible refine y_bool ?_)
  | ((with_reducible show ∀ c, VR (AV.fn _) c → Tr _ _ _ _ _ _ _ (callWith _ c [] (backTo _ (starEach (_ :: _) _)) []) _); refine c_builtin ?_)
  | ((with_reducible show ∀ c, VR (AV.ty _) c → Tr _ _ _ _ _ _ _ (callWith _ c [] (backTo _ (starEach (_ :: _) _)) []) _); refine c_type ?_)
  | (with_reducible refine seqN ?_)
  | (with_reducible refine seqR ?_)
  | (with_reducible refine loopN ?_)
  | (with_reducible refine loopR ?_)
  | (with_reducible refine s_cons ?_)
  | (with_reducible refine s_nil ?_)
  | (with_reducible refine s_if ?_)
  | (with_reducible refine s_return ?_)
  | (with_reducible refine s_return0 ?_)
  | ((with_reducible show Tr _ _ _ _ _ _ _ (exec (Stmt.Assign [Expr.Name _ _] _ _) _) _); refine s_assign ?_)
  | ((with_reducible show Tr _ _ _ _ _ _ _ (exec (Stmt.Assign [Expr.Tuple [Expr.Name _ _, Expr.Name _ _] _ _] _ _) _) _); refine s_assign2 ?_)
  | ((with_reducible show Tr _ _ _ _ _ _ _ (exec (Stmt.Assign [Expr.Subscript _ _ _] _ _) _) _); refine s_assignSub ?_)
  | ((with_reducible show Tr _ _ _ _ _ _ _ (exec (Stmt.AugAssign (Expr.Name _ _) _ _ _) _) _); refine s_aug (by walk_at "lk") ?_)
  | ((with_reducible show Tr _ _ _ _ _ _ _ (exec (Stmt.Expr _ _) _) _); refine s_expr ?_)
  | ((with_reducible show Tr _ _ _ _ _ _ _ (exec (Stmt.For _ _ _ _ _) _) _); refine s_for ?_)
  | (with_reducible refine s_pass ?_)
  | ((with_reducible show Tr _ _ _ _ _ _ _ (exec (Stmt.Assert _ _ _) _) _); refine s_assert ?_)
  | ((with_reducible show Tr _ _ _ _ _ _ _ (PySem.isTrue (Expr.Compare _ [_] [_] _) _ _) _); refine t_compare ?_)
  | ((with_reducible show Tr _ _ _ _ _ _ _ (PySem.isTrue _ _ _) _); refine t_plain ?_)
  | ((with_reducible show Tr _ _ _ _ _ _ _ (eval (Expr.Name _ _) _) _); refine e_local (by walk_at "lk") ?_)
  | (with_reducible refine e_int ?_)
  | (with_reducible refine e_str ?_)
  | (with_reducible refine e_bool ?_)
  | (with_reducible refine e_binop ?_)
  | ((with_reducible show Tr _ _ _ _ _ _ _ (eval (Expr.Compare _ [_] [_] _) _) _); refine e_compare ?_)
  | ((with_reducible show Tr _ _ _ _ _ _ _ (eval (Expr.Call (Expr.Name _ _) _ _ _) _) _); refine e_call ?_)
  | ((with_reducible show Tr _ _ _ _ _ _ _ (eval (Expr.Subscript _ (Expr.Slice (some _) Option.none Option.none _) _) _) _); refine e_sliceFrom ?_)
  | ((with_reducible show Tr _ _ _ _ _ _ _ (eval (Expr.Subscript _ (Expr.Slice Option.none (some _) Option.none _) _) _) _); refine e_sliceTo ?_)
  | (with_reducible refine e_sub ?_)
  | (with_reducible refine e_list ?_)
  | (with_reducible refine e_tuple ?_)
  | (with_reducible refine e_ifexp ?_)
  | (with_reducible refine l_nil ?_)
  | ((with_reducible show Tr _ _ _ _ _ _ _ (spliced (backTo _ (starEach (_ :: _) _))) _); refine l_cons ?_))
/-! Div1 -/
theorem g_len {w : World} : nsIn (KF w) mainGlobals (Str.ofString "len") = some Option.none := by rfl
theorem n12 {x : Nat} : x + 1 ≠ x + 1 + 1 := by omega
theorem n32 {x : Nat} : x + 1 + 1 + 1 ≠ x + 1 + 1 := by omega
theorem n13 {x : Nat} : x + 1 ≠ x + 1 + 1 + 1 := by omega
theorem n23 {x : Nat} : x + 1 + 1 ≠ x + 1 + 1 + 1 := by omega
theorem TabOk.mono {σ σ' : Sto} {P : Addr} {a b : Int} {q : Str} (h : TabOk σ P a b q) (k : ∀ b o, σ b = some o → σ' b = some o) : TabOk σ' P a b q := by
  rcases h with e | ⟨c, e, hc⟩
  · exact .inl (k _ _ e)
  · exact .inr ⟨c, k _ _ e, hc.mono (k _)⟩
theorem upS_upS {σ : Sto} {a : Addr} {o o' : AO} : upS (upS σ a o) a o' = upS σ a o' := by
  funext b; unfold upS; split <;> rfl
section
variable {prog : Program} {w : World} {n : Nat} {L : Addr} {m : Loc} {σ : Sto} {P : AV → Loc → Sto → Prop} {i j : Int} {x s : Nat}
theorem o_shrN (hi : i = x) (hj : j = s) (h : P (.int ((x / 2 ^ s : Nat) : Int)) m σ) : ∀ a b, VR (.int i) a → VR (.int j) b → TE prog w n L m σ (binaryOp .RShift a b) P := by
  subst hi hj
  refine o_shr (by omega) ?_
  have e : (x : Int).fdiv (2 ^ (s : Int).toNat) = ((x / 2 ^ s : Nat) : Int) := by
    rw [Int.toNat_natCast, show ((2 : Int) ^ s) = ((2 ^ s : Nat) : Int) by simp]; exact (Int.ofNat_fdiv _ _).symm
  rw [e]; exact h
theorem o_shlN (hi : i = x) (hj : j = s) (hs : s ≤ 100000) (hx : x < 2 ^ 64) (h : P (.int ((x * 2 ^ s : Nat) : Int)) m σ) : ∀ a b, VR (.int i) a → VR (.int j) b → TE prog w n L m σ (binaryOp .LShift a b) P := by
  subst hi hj
  refine o_shl (by omega) (by omega) (by simpa using hx) ?_
  have e : (x : Int) * 2 ^ (s : Int).toNat = ((x * 2 ^ s : Nat) : Int) := by simp
  rw [e]; exact h
theorem o_mulN (hi : i = x) (hj : j = s) (hx : x < 2 ^ 64) (hs : s < 2 ^ 64) (h : P (.int ((x * s : Nat) : Int)) m σ) : ∀ a b, VR (.int i) a → VR (.int j) b → TE prog w n L m σ (binaryOp .Mult a b) P := by
  subst hi hj
  refine o_mul (IntMulOk.of_le (m := 64) (n := 64) ?_ ?_ (by decide)) ?_
  · rw [intBits_nat]; exact bits_le hx
  · rw [intBits_nat]; exact bits_le hs
  · rw [show ((x : Int) * (s : Int)) = ((x * s : Nat) : Int) by simp]; exact h
theorem o_xorN (hi : i = x) (hj : j = ((x / 2 ^ s * 2 ^ s : Nat) : Int)) (h : P (.int ((x % 2 ^ s : Nat) : Int)) m σ) : ∀ a b, VR (.int i) a → VR (.int j) b → TE prog w n L m σ (binaryOp .BitXor a b) P := by
  subst hi hj
  refine o_xor ?_
  rw [xor_high]; exact h
end
theorem s_nil0 {prog : Program} {w : World} {n : Nat} {L : Addr} {m : Loc} {σ : Sto} {env : Env} {P : AFl → Loc → Sto → Prop} {K : Loc → Sto → Prop} (h : K m σ) : TF prog w n L m σ (execs [] env) (Seq P K) := s_nil h
noncomputable def tab64 (σ : Sto) : Prop := TabOk σ 64 39 4 (Str.ofString "_int2digits.<locals>.inner")

section
variable {prog : Program} {w : World} {n : Nat} {L : Addr} {m : Loc} {σ : Sto} {P : AV → Loc → Sto → Prop}
theorem c_div2n1n {a b k : Int} (hb : b ≠ 0) (hs : b.natAbs < 1073741824) (hk : (Builtin.Int.intBits a : Int) - k ≤ 4000)
    (h : ∀ r, σ r = Option.none → P (.ref r) m (upS σ r (.tup [.int (a.fdiv b), .int (a.fmod b)]))) :
    ∀ ws, VRs [.int a, .int b, .int k] ws → TE prog w (n + 1) L m σ (call (.ref 55) ws) P := by
  refine call_def (f := 55) (xs := ["a", "b", "n"]) (by rfl) (by rfl) (fun ws hws => ?_) ?_ ?_ (fun L' => ?_)
  · rcases hws with _ | ⟨_, _ | ⟨_, _ | ⟨_, _ | _⟩⟩⟩; rfl
  · decide
  · decide
  · simp only [bnd]
    repeat walk_at "st"
    refine e_meth0 (id := "int.bit_length") ?_
    repeat walk_at "st"
    refine ⟨meth_bits, b_bits ?_⟩
    repeat walk_at "st"
    refine e_global g_lim (.int _ _) ?_
    repeat walk_at "st"
    refine ⟨fun _ => ?_, fun e => absurd (decide_eq_false_iff_not.mp e) (by omega)⟩
    repeat walk_at "st"
    refine e_builtin g_divmod rfl (.fn _) ?_
    repeat walk_at "st"
    refine b_divmod hb hs fun r hr => ?_
    exact h r hr

theorem c_int2digits {N a k : Nat} (ha : a < 2 ^ 60) (hk : 1 ≤ k) (hk2 : k ≤ 60) (ht : tab64 σ)
    (h : ∀ D σ', (∀ b o, b ≠ 64 → σ b = some o → σ' b = some o) → tab64 σ' → σ D = Option.none → σ' D = some (.list ((digs k ((bits a + k - 1) / k) a).map fun d => .int (d : Nat))) → P (.ref D) m σ') :
    ∀ ws, VRs [.int a, .int k] ws → TE prog w (N + 9 + 1) L m σ (call (.ref 69) ws) P := by
  refine call_defC (f := 69) (xs := ["a", "n"]) (m0 := upL noL "a" (.int a)) (by rfl) (by rfl) (fun ws hws => ?_) ?_ ?_ ?_ ?_ (fun L' σ0 hext hcell => ?_)
  · rcases hws with _ | ⟨_, _ | ⟨_, _ | _⟩⟩; rfl
  · intro x hx
    rcases List.mem_cons.mp hx with rfl | hx
    · exact .inl rfl
    · rcases List.mem_cons.mp hx with rfl | hx
      · exact .inr ⟨rfl, fun _ => rfl⟩
      · cases hx
  · intro x v e
    unfold upL at e
    split at e
    · rename_i q; subst q; cases e; exact ⟨rfl, rfl⟩
    · cases e
  · decide
  · decide
  · obtain ⟨hN1, hN2⟩ := hcell "n" _ rfl
    obtain ⟨hD1, hD2⟩ := hcell "a_digits" _ rfl
    obtain ⟨hI1, hI2⟩ := hcell "inner" _ rfl
    refine s_cons ?_
    refine s_assignC (c := L' + 1 + 1) rfl ?_
    repeat walk_at "st"
    refine ⟨by decide, fun l0 hl0 => ?_⟩
    repeat walk_at "st"
    refine e_meth0 (id := "int.bit_length") ?_
    repeat walk_at "st"
    refine ⟨meth_bits, b_bits ?_⟩
    refine e_cell (c := L' + 1) (v := .int k) rfl (upS_old hl0 hN2) ?_
    repeat walk_at "st"
    refine e_cell (c := L' + 1) (v := .int k) rfl (upS_old hl0 hN2) ?_
    have hbits : bits a ≤ 60 := bits_le ha
    generalize hK : (bits a + k - 1) / k = K at h
    have hKe : ((Builtin.Int.intBits (a : Int) : Int) + (k : Int) - 1).fdiv (k : Int) = (K : Int) := by
      rw [intBits_nat, show ((bits a : Nat) : Int) + (k : Int) - 1 = ((bits a + k - 1 : Nat) : Int) by omega, ← hK]
      exact (Int.ofNat_fdiv _ _).symm
    have hK60 : K ≤ 120 := by rw [← hK]; exact Nat.le_trans (Nat.div_le_self _ _) (by omega)
    refine o_fdiv (by omega) (by omega) ?_
    rw [hKe]
    refine o_repL (k := K) upS_eq (by omega) fun D hD => ?_
    have hD0 : σ0 D = Option.none := by
      cases q : σ0 D with
      | none => rfl
      | some o => rw [upS_old hl0 q] at hD; cases hD
    refine ⟨_, upS_old hD (upS_old hl0 hD2), ?_⟩
    repeat walk_at "st"
    have hN3 : upS (upS (upS σ0 l0 (AO.list [AV.int 0])) D (AO.list (List.replicate K (AV.int 0)))) (L' + 1 + 1) (AO.cell (some (AV.ref D))) (L' + 1) = some (.cell (some (.int k))) :=
      upS_ne n12 (upS_old hD (upS_old hl0 hN2))
    have hI3 : upS (upS (upS σ0 l0 (AO.list [AV.int 0])) D (AO.list (List.replicate K (AV.int 0)))) (L' + 1 + 1) (AO.cell (some (AV.ref D))) (L' + 1 + 1 + 1) = some (.cell Option.none) :=
      upS_ne n32 (upS_old hD (upS_old hl0 hI2))
    have hDn : D ≠ L' + 1 + 1 := fun q => by rw [q, upS_old hl0 hD2] at hD; cases hD
    have hkeep : ∀ b o, σ b = some o → upS (upS (upS σ0 l0 (AO.list [AV.int 0])) D (AO.list (List.replicate K (AV.int 0)))) (L' + 1 + 1) (AO.cell (some (AV.ref D))) b = some o := fun b o e =>
      upS_ne (fun q => by rw [q, hD1] at e; cases e) (upS_old hD (upS_old hl0 (hext _ _ e)))
    have hD3 : upS (upS (upS σ0 l0 (AO.list [AV.int 0])) D (AO.list (List.replicate K (AV.int 0)))) (L' + 1 + 1) (AO.cell (some (AV.ref D))) D = some (.list (List.replicate K (AV.int 0))) := upS_ne hDn upS_eq
    have hA3 : upS (upS (upS σ0 l0 (AO.list [AV.int 0])) D (AO.list (List.replicate K (AV.int 0)))) (L' + 1 + 1) (AO.cell (some (AV.ref D))) (L' + 1 + 1) = some (.cell (some (.ref D))) := upS_eq
    have hDσ : σ D = Option.none := by
      cases q : σ D with
      | none => rfl
      | some o => rw [hext _ _ q] at hD0; cases hD0
    have hL64 : L' + 1 + 1 + 1 ≠ 64 := fun q => by
      rw [q] at hI1
      rcases ht with e | ⟨_, e, _⟩ <;> rw [hI1] at e <;> cases e
    generalize hσ3 : upS (upS (upS σ0 l0 (AO.list [AV.int 0])) D (AO.list (List.replicate K (AV.int 0)))) (L' + 1 + 1) (AO.cell (some (AV.ref D))) = σ3 at hN3 hI3 hkeep hD3 hA3 ⊢
    have ht3 : tab64 σ3 := ht.mono hkeep
    refine s_def (c := 68) (P := 64) (cc := L' + 1 + 1 + 1) (qual := "_int2digits.<locals>.inner") rfl (.inr ⟨rfl, rfl⟩) ht3 rfl hI3 hL64 ?_
    intro f c' doc pm ctv σ4 hf hk4 ef hC hT4 hcI
    have hD64 : D ≠ 64 := fun q => by
      rw [q] at hDσ
      rcases ht with e | ⟨_, e, _⟩ <;> rw [hDσ] at e <;> cases e
    have hDI : D ≠ L' + 1 + 1 + 1 := fun q => by rw [q, hI3] at hD3; cases hD3
    have hD4 := hk4 _ _ hD64 hDI hD3
    have hn64 : ∀ x, σ x = Option.none → x ≠ 64 := fun x hx q => by
      rw [q] at hx
      rcases ht with e | ⟨_, e, _⟩ <;> rw [hx] at e <;> cases e
    have hN4 := hk4 _ _ (hn64 _ hN1) n13 hN3
    have hA4 := hk4 _ _ (hn64 _ hD1) n23 hA3
    have key : ∀ (d N lo hi x : Nat) (xs : List AV) (L1 : Addr) (m1 : Loc) (σ1 : Sto) (P : AV → Loc → Sto → Prop), lo < hi → hi ≤ xs.length → xs.length ≤ 120 → hi - lo ≤ 2 ^ d → x < 2 ^ 60 → x < 2 ^ (k * (hi - lo)) →
        (∀ b o, b ≠ D → σ4 b = some o → σ1 b = some o) → σ1 D = some (.list xs) → P .none m1 (upS σ1 D (.list (xs.take lo ++ (digs k (hi - lo) x).map (fun d => AV.int (d : Nat)) ++ xs.drop hi))) →
        ∀ ws, VRs [.int x, .int lo, .int hi] ws → TE prog w (N + d + 1) L1 m1 σ1 (call (.ref f) ws) P := by
      intro d
      induction d using Nat.strongRecOn with
      | ind d ih =>
        intro N lo hi x xs L1 m1 σ1 P hlo hhi hxs hd hx60 hx hkp eD hP
        have nef : f ≠ D := fun q => by rw [q, hD4] at ef; cases ef
        have nN : L' + 1 ≠ D := fun q => by rw [q, hD4] at hN4; cases hN4
        have nA : L' + 1 + 1 ≠ D := fun q => by rw [q, hD4] at hA4; cases hA4
        have nI : L' + 1 + 1 + 1 ≠ D := fun q => by rw [q, hD4] at hcI; cases hcI
        have ef1 := hkp f _ nef ef
        have hC1 : CodeOk σ1 c' "_int2digits.<locals>.inner" := hC.mono fun o e => hkp _ _ (fun q => by obtain ⟨_, _, _, e2, _⟩ := hC.ex; rw [q, hD4] at e2; cases e2) e
        have hN1 := hkp _ _ nN hN4
        have hA1 := hkp _ _ nA hA4
        have hI1 := hkp _ _ nI hcI
        refine call_nest (xs := ["x", "L", "R"]) ef1 hC1 (fun ws hws => ?_) (by decide) (by decide) (fun L2 => ?_)
        · rcases hws with _ | ⟨_, _ | ⟨_, _ | ⟨_, _ | _⟩⟩⟩; rfl
        · simp only [bnd]
          repeat walk_at "st"
          constructor
          · intro hb
            have hb' : lo + 1 = hi := by have := eq_of_beq hb; omega
            subst hb'
            repeat walk_at "st"
            refine e_free (c := L' + 1 + 1) rfl hA1 ?_
            repeat walk_at "st"
            refine ⟨D, xs, lo, rfl, rfl, eD, by omega, by omega, ?_⟩
            repeat walk_at "st"
            rw [show lo + 1 - lo = 1 by omega, digs_one k x (by simpa [show lo + 1 - lo = 1 by omega] using hx)] at hP
            have e : xs.set lo (.int x) = xs.take lo ++ [x].map (fun d => AV.int (d : Nat)) ++ xs.drop (lo + 1) := by
              rw [List.set_eq_take_append_cons_drop, if_pos (by omega)]; simp
            rw [e]; exact hP
          · intro hb
            have hb' : lo + 1 ≠ hi := by intro q; subst q; simp at hb
            obtain ⟨d, rfl⟩ : ∃ d', d = d' + 1 := ⟨d - 1, by cases d with
              | zero => simp at hd; omega
              | succ d => rfl⟩
            rw [Nat.pow_succ] at hd
            refine s_nil0 ?_
            repeat walk_at "st"
            refine o_shrN (x := lo + hi) (s := 1) (by omega) rfl ?_
            obtain ⟨mid, hmid⟩ : ∃ mid, (lo + hi) / 2 ^ 1 = mid := ⟨_, rfl⟩
            rw [hmid]
            rw [Nat.pow_one] at hmid
            repeat walk_at "st"
            refine e_free (c := L' + 1) rfl hN1 ?_
            refine o_mulN (x := mid - lo) (s := k) (by omega) rfl (by omega) (by omega) ?_
            obtain ⟨s, hs⟩ : ∃ s, (mid - lo) * k = s := ⟨_, rfl⟩
            have hs2 : s ≤ 120 * 60 := by rw [← hs]; exact Nat.mul_le_mul (by omega) hk2
            rw [hs]
            repeat walk_at "st"
            refine o_shrN rfl rfl ?_
            repeat walk_at "st"
            refine o_shlN rfl rfl (by omega) (Nat.lt_of_le_of_lt (Nat.div_le_self _ _) (by omega)) ?_
            refine o_xorN rfl rfl ?_
            repeat walk_at "st"
            refine e_free (c := L' + 1 + 1 + 1) rfl hI1 ?_
            refine c_nest ef1 ?_
            repeat walk_at "st"
            refine ⟨ef1, ?_⟩
            have hsk : 2 ^ s = 2 ^ (k * (mid - lo)) := by rw [← hs, Nat.mul_comm]
            refine ih d (Nat.lt_succ_self _) N lo mid (x % 2 ^ s) xs L2 _ σ1 _ (by omega) (by omega) hxs (by omega) (Nat.lt_of_le_of_lt (Nat.mod_le _ _) hx60) (by rw [← hsk]; exact Nat.mod_lt _ (Nat.pow_pos (by decide))) hkp eD ⟨nofun, ?_⟩
            repeat walk_at "st"
            refine e_free (c := L' + 1 + 1 + 1) rfl (upS_ne nI hI1) ?_
            refine c_nest (upS_ne nef ef1) ?_
            repeat walk_at "st"
            refine ⟨upS_ne nef ef1, ?_⟩
            refine ih d (Nat.lt_succ_self _) N mid hi (x / 2 ^ s) _ L2 _ _ _ (by omega) (by simp [digs_len]; omega) (by simp [digs_len]; omega) (by omega) (Nat.lt_of_le_of_lt (Nat.div_le_self _ _) hx60) ?_
              (fun b o hb e => upS_ne hb (hkp b o hb e)) upS_eq ⟨nofun, ?_⟩
            · rw [Nat.div_lt_iff_lt_mul (Nat.pow_pos (by decide)), hsk, ← Nat.pow_add, ← Nat.mul_add]
              rw [show hi - mid + (mid - lo) = hi - lo by omega]; exact hx
            · repeat walk_at "st"
              rw [upS_upS, inner_list _ _ _ _ _ _ (by omega) (by omega) hhi (by simp [digs_len]), ← List.map_append]
              rw [show hi - lo = (mid - lo) + (hi - mid) by omega, digs_add, ← hsk] at hP
              exact hP
    have hk4' : ∀ (b : Addr) (o : AO), b ≠ 64 → σ b = some o → σ4 b = some o := fun b o hb e => hk4 b o hb (fun q => by rw [q, hI1] at e; cases e) (hkeep b o e)
    repeat walk_at "st"
    constructor
    · intro hb
      have hpos : 0 < a := by
        rcases Nat.eq_zero_or_pos a with q | q
        · subst q; simp at hb
        · exact q
      have hbp := bits_pos hpos
      have hK1 : 1 ≤ K := by rw [← hK, Nat.le_div_iff_mul_le (by omega)]; omega
      have haK : a < 2 ^ (k * K) := by
        refine Nat.lt_of_lt_of_le (lt_bits a) (Nat.pow_le_pow_right (by decide) ?_)
        have := Nat.lt_mul_div_succ (bits a + k - 1) (show 0 < k by omega)
        rw [hK, Nat.mul_add, Nat.mul_one] at this
        omega
      repeat walk_at "st"
      refine e_cell (c := L' + 1 + 1 + 1) rfl hcI ?_
      refine c_nest ef ?_
      repeat walk_at "st"
      refine e_builtin g_len rfl (.fn _) ?_
      repeat walk_at "st"
      refine e_cell (c := L' + 1 + 1) rfl hA4 ?_
      repeat walk_at "st"
      refine b_lenL hD4 (by simp; omega) ?_
      rw [List.length_replicate]
      repeat walk_at "st"
      refine ⟨ef, ?_⟩
      refine key 7 (N + 1) 0 K a _ L' _ σ4 _ (by omega) (by simp) (by simp; omega) (by omega) ha (by simpa using haK) (fun b o _ e => e) hD4 ⟨nofun, ?_⟩
      repeat walk_at "st"
      refine e_cell (c := L' + 1 + 1) rfl (upS_ne (fun q => by rw [q, hD4] at hA4; cases hA4) hA4) ?_
      repeat walk_at "st"
      refine h D _ (fun b o hb e => upS_ne (fun q => by rw [q, hDσ] at e; cases e) (hk4' b o hb e)) ?_ hDσ ?_
      · rcases hT4 with e | ⟨c1, e, hc⟩
        · exact .inl (upS_ne (Ne.symm hD64) e)
        · refine .inr ⟨c1, upS_ne (Ne.symm hD64) e, hc.mono fun o eo => upS_ne (fun q => ?_) eo⟩
          obtain ⟨_, _, _, e2, _⟩ := hc.ex
          rw [q, hD4] at e2; cases e2
      · rw [upS_eq]; simp
    · intro hb
      have h0 : a = 0 := by
        rcases Nat.eq_zero_or_pos a with q | q
        · exact q
        · exfalso; simp at hb; omega
      have hK0 : K = 0 := by rw [← hK, h0, Nat.div_eq_zero_iff]; right; show 0 + k - 1 < k; omega
      refine s_nil0 ?_
      repeat walk_at "st"
      refine e_cell (c := L' + 1 + 1) rfl hA4 ?_
      repeat walk_at "st"
      refine h D _ hk4' hT4 hDσ ?_
      rw [hD4, hK0]; simp [digs]
end
/-! Div2 -/
noncomputable def tab71 (σ : Sto) : Prop := TabOk σ 71 54 4 (Str.ofString "_digits2int.<locals>.inner")
section
variable {prog : Program} {w : World} {n : Nat} {L : Addr} {m : Loc} {σ : Sto} {P : AV → Loc → Sto → Prop}
theorem y_list {l : Addr} {vs : List AV} {Q : Bool → Loc → Sto → Prop} (e : σ l = some (.list vs)) (hz : vs.length ≤ 1000000) (h : Q (!vs.isEmpty) m σ) : ∀ a, VR (.ref l) a → TB prog w n L m σ (truthy a) Q := by
  intro a ha g A s Q' hA R k
  cases ha
  obtain ⟨ws, nn, e1, r, hl⟩ := R.list e
  have hlen := r.length
  refine wpAny_truthy_list hl (by rw [List.size_toArray]; omega) ?_
  have q : (!ws.toArray.isEmpty) = (!vs.isEmpty) := by cases r <;> rfl
  rw [q]
  exact k _ _ m σ s.heap _ h rfl R
theorem c_digits2int {N k : Nat} {D : Addr} {ds : List Nat} (eD : σ D = some (.list (ds.map fun d => .int (d : Nat)))) (hlen : ds.length ≤ 120) (hk1 : 1 ≤ k) (hk2 : k ≤ 60) (hds : ∀ d ∈ ds, d < 2 ^ k) (hval : val k ds < 2 ^ 60) (ht : tab71 σ)
    (h : ∀ σ', (∀ b o, b ≠ 71 → σ b = some o → σ' b = some o) → tab71 σ' → P (.int (val k ds : Nat)) m σ') :
    ∀ ws, VRs [.ref D, .int k] ws → TE prog w (N + 9 + 1) L m σ (call (.ref 76) ws) P := by
  refine call_defC (f := 76) (xs := ["digits", "n"]) (m0 := noL) (by rfl) (by rfl) (fun ws hws => ?_) ?_ ?_ ?_ ?_ (fun L' σ0 hext hcell => ?_)
  · rcases hws with _ | ⟨_, _ | ⟨_, _ | _⟩⟩; rfl
  · intro x hx
    rcases List.mem_cons.mp hx with rfl | hx
    · exact .inr ⟨rfl, fun _ => rfl⟩
    · rcases List.mem_cons.mp hx with rfl | hx
      · exact .inr ⟨rfl, fun _ => rfl⟩
      · cases hx
  · intro x v e; cases e
  · decide
  · decide
  · obtain ⟨hD1, hD2⟩ := hcell "digits" _ rfl
    obtain ⟨hN1, hN2⟩ := hcell "n" _ rfl
    obtain ⟨hI1, hI2⟩ := hcell "inner" _ rfl
    have hn71 : ∀ x, σ x = Option.none → x ≠ 71 := fun x hx q => by
      rw [q] at hx
      rcases ht with e | ⟨_, e, _⟩ <;> rw [hx] at e <;> cases e
    have ht0 : tab71 σ0 := ht.mono hext
    refine s_cons ?_
    refine s_def (c := 75) (P := 71) (cc := L' + 1 + 1 + 1) (qual := "_digits2int.<locals>.inner") rfl (.inl ⟨rfl, rfl⟩) ht0 rfl hI2 (hn71 _ hI1) ?_
    intro f c' doc pm ctv σ4 hf hk4 ef hC hT4 hcI
    have hk4' : ∀ (b : Addr) (o : AO), b ≠ 71 → σ b = some o → σ4 b = some o := fun b o hb e => hk4 b o hb (fun q => by rw [q, hI1] at e; cases e) (hext b o e)
    have hD71 : D ≠ 71 := fun q => by
      rcases ht with e | ⟨_, e, _⟩ <;> rw [q, e] at eD <;> cases eD
    have hD4 := hk4' _ _ hD71 eD
    have hA4 : σ4 (L' + 1) = some (.cell (some (.ref D))) := hk4 _ _ (hn71 _ hD1) n13 hD2
    have hN4 : σ4 (L' + 1 + 1) = some (.cell (some (.int k))) := hk4 _ _ (hn71 _ hN1) n23 hN2
    have key : ∀ (d N lo hi : Nat) (L1 : Addr) (m1 : Loc) (P : AV → Loc → Sto → Prop), lo < hi → hi ≤ ds.length → hi - lo ≤ 2 ^ d → val k ((ds.drop lo).take (hi - lo)) < 2 ^ 60 →
        P (.int (val k ((ds.drop lo).take (hi - lo)) : Nat)) m1 σ4 →
        ∀ ws, VRs [.int lo, .int hi] ws → TE prog w (N + d + 1) L1 m1 σ4 (call (.ref f) ws) P := by
      intro d
      induction d using Nat.strongRecOn with
      | ind d ih =>
        intro N lo hi L1 m1 P hlo hhi hd hv60 hP
        refine call_nest (xs := ["L", "R"]) ef hC (fun ws hws => ?_) (by decide) (by decide) (fun L2 => ?_)
        · rcases hws with _ | ⟨_, _ | ⟨_, _ | _⟩⟩; rfl
        · simp only [bnd]
          repeat walk_at "st"
          constructor
          · intro hb
            have hb' : lo + 1 = hi := by have := eq_of_beq hb; omega
            subst hb'
            obtain ⟨x, hx⟩ : ∃ x, ds[lo]? = some x := ⟨ds[lo], by simp⟩
            rw [show lo + 1 - lo = 1 by omega, slice_one ds lo x hx] at hP
            repeat walk_at "st"
            refine e_free (c := L' + 1) rfl hA4 ?_
            repeat walk_at "st"
            refine x_item hD4 (by omega) (by omega) (v := .int (x : Nat)) (by rw [Int.toNat_natCast, List.getElem?_map, hx]; rfl) ?_
            repeat walk_at "st"
            rw [show val k [x] = x by simp [val]] at hP
            exact hP
          · intro hb
            have hb' : lo + 1 ≠ hi := by intro q; subst q; simp at hb
            obtain ⟨d, rfl⟩ : ∃ d', d = d' + 1 := ⟨d - 1, by cases d with
              | zero => simp at hd; omega
              | succ d => rfl⟩
            rw [Nat.pow_succ] at hd
            refine s_nil0 ?_
            repeat walk_at "st"
            refine o_shrN (x := lo + hi) (s := 1) (by omega) rfl ?_
            obtain ⟨mid, hmid⟩ : ∃ mid, (lo + hi) / 2 ^ 1 = mid := ⟨_, rfl⟩
            rw [hmid]
            rw [Nat.pow_one] at hmid
            repeat walk_at "st"
            refine e_free (c := L' + 1 + 1) rfl hN4 ?_
            refine o_mulN (x := mid - lo) (s := k) (by omega) rfl (by omega) (by omega) ?_
            obtain ⟨s, hs⟩ : ∃ s, (mid - lo) * k = s := ⟨_, rfl⟩
            have hs2 : s ≤ 120 * 60 := by rw [← hs]; exact Nat.mul_le_mul (by omega) hk2
            have hvs := val_slice (k := k) ds lo mid hi (by omega) (by omega) hhi
            rw [hs] at hvs ⊢
            have hv1 : val k ((ds.drop mid).take (hi - mid)) ≤ val k ((ds.drop lo).take (hi - lo)) := by
              rw [hvs]; exact Nat.le_trans (Nat.le_mul_of_pos_right _ (Nat.pow_pos (by decide))) (Nat.le_add_right _ _)
            have hv2 : val k ((ds.drop lo).take (mid - lo)) ≤ val k ((ds.drop lo).take (hi - lo)) := by
              rw [hvs]; exact Nat.le_add_left _ _
            repeat walk_at "st"
            refine e_free (c := L' + 1 + 1 + 1) rfl hcI ?_
            refine c_nest ef ?_
            repeat walk_at "st"
            refine ⟨ef, ?_⟩
            refine ih d (Nat.lt_succ_self _) N mid hi L2 _ _ (by omega) (by omega) (by omega) (by omega) ?_
            repeat walk_at "st"
            refine o_shlN rfl rfl (by omega) (by omega) ?_
            repeat walk_at "st"
            refine e_free (c := L' + 1 + 1 + 1) rfl hcI ?_
            refine c_nest ef ?_
            repeat walk_at "st"
            refine ⟨ef, ?_⟩
            refine ih d (Nat.lt_succ_self _) N lo mid L2 _ _ (by omega) (by omega) (by omega) (by omega) ?_
            repeat walk_at "st"
            rw [hvs, Int.natCast_add] at hP
            exact hP
    repeat walk_at "st"
    refine e_cell (c := L' + 1) rfl hA4 ?_
    refine y_list hD4 (by simp; omega) ?_
    constructor
    · intro hb
      repeat walk_at "st"
      refine e_cell (c := L' + 1 + 1 + 1) rfl hcI ?_
      refine c_nest ef ?_
      repeat walk_at "st"
      refine e_builtin g_len rfl (.fn _) ?_
      repeat walk_at "st"
      refine e_cell (c := L' + 1) rfl hA4 ?_
      repeat walk_at "st"
      refine b_lenL hD4 (by simp; omega) ?_
      rw [List.length_map]
      repeat walk_at "st"
      refine ⟨ef, ?_⟩
      have hall : (ds.drop 0).take (ds.length - 0) = ds := by simp
      refine key 7 (N + 1) 0 ds.length L' _ _ ?_ (Nat.le_refl _) (by omega) (by rw [hall]; exact hval) ?_
      · cases ds with
        | nil => simp at hb
        | cons _ _ => simp
      · rw [hall]; exact h σ4 hk4' hT4
    · intro hb
      have h0 : ds = [] := by
        cases ds with
        | nil => rfl
        | cons _ _ => simp at hb
      repeat walk_at "st"
      rw [h0] at h
      exact h σ4 hk4' hT4
end
/-! Div3 -/
noncomputable def tabs (σ : Sto) : Prop := tab64 σ ∧ tab71 σ
noncomputable def Kp (σ σ' : Sto) : Prop := ∀ b o, b ≠ 64 → b ≠ 71 → σ b = some o → σ' b = some o
theorem Kp.refl {σ : Sto} : Kp σ σ := fun _ _ _ _ e => e
theorem Kp.trans {σ σ' σ'' : Sto} (h : Kp σ σ') (h' : Kp σ' σ'') : Kp σ σ'' := fun b o h1 h2 e => h' b o h1 h2 (h b o h1 h2 e)
theorem Kp.new {σ : Sto} {a : Addr} {o : AO} (h : σ a = Option.none) : Kp σ (upS σ a o) := fun b o' _ _ e => upS_old h e
theorem tabs.ne {σ : Sto} {a : Addr} (h : tabs σ) {vs : List AV} (e : σ a = some (.list vs)) : a ≠ 64 ∧ a ≠ 71 := by
  constructor
  · intro q; rcases h.1 with e1 | ⟨_, e1, _⟩ <;> rw [q, e1] at e <;> cases e
  · intro q; rcases h.2 with e1 | ⟨_, e1, _⟩ <;> rw [q, e1] at e <;> cases e
theorem tabs.neT {σ : Sto} {a : Addr} (h : tabs σ) {vs : List AV} (e : σ a = some (.tup vs)) : a ≠ 64 ∧ a ≠ 71 := by
  constructor
  · intro q; rcases h.1 with e1 | ⟨_, e1, _⟩ <;> rw [q, e1] at e <;> cases e
  · intro q; rcases h.2 with e1 | ⟨_, e1, _⟩ <;> rw [q, e1] at e <;> cases e
theorem tabs.neN {σ : Sto} {a : Addr} (h : tabs σ) (e : σ a = Option.none) : a ≠ 64 ∧ a ≠ 71 := by
  constructor
  · intro q; rcases h.1 with e1 | ⟨_, e1, _⟩ <;> rw [q, e1] at e <;> cases e
  · intro q; rcases h.2 with e1 | ⟨_, e1, _⟩ <;> rw [q, e1] at e <;> cases e
theorem tabs.new {σ : Sto} {a : Addr} {o : AO} (h : tabs σ) (e : σ a = Option.none) : tabs (upS σ a o) :=
  ⟨h.1.mono fun b o' e' => upS_old e e', h.2.mono fun b o' e' => upS_old e e'⟩
theorem TabOk.setL {σ : Sto} {P a : Addr} {i j : Int} {q : Str} {vs vs' : List AV} (h : TabOk σ P i j q) (e : σ a = some (.list vs)) : TabOk (upS σ a (.list vs')) P i j q := by
  have hP : P ≠ a := fun z => by rcases h with e1 | ⟨_, e1, _⟩ <;> rw [z, e] at e1 <;> cases e1
  rcases h with e1 | ⟨c, e1, hc⟩
  · exact .inl (upS_ne hP e1)
  · refine .inr ⟨c, upS_ne hP e1, hc.mono fun o eo => upS_ne (fun z => ?_) eo⟩
    obtain ⟨_, _, _, e2, _⟩ := hc.ex
    rw [z, e] at e2; cases e2
theorem tabs.setL {σ : Sto} {a : Addr} {vs vs' : List AV} (h : tabs σ) (e : σ a = some (.list vs)) : tabs (upS σ a (.list vs')) := ⟨h.1.setL e, h.2.setL e⟩
theorem CodeOk.neT {σ : Sto} {c P : Addr} {i j : Int} {q q' : Str} (h : CodeOk σ c q) (t : TabOk σ P i j q') : c ≠ P := by
  intro z
  subst z
  obtain ⟨oc, vs, tk, e, hd, hv⟩ := h.ex
  rcases t with e1 | ⟨_, e1, _⟩
  · rw [e] at e1; cases e1; cases hd; simp at hv
  · rw [e] at e1; cases e1; cases hd; simp [rawInt] at hv
theorem tabs.keep71 {σ σ' : Sto} (h : tabs σ) (k : ∀ b o, b ≠ 64 → σ b = some o → σ' b = some o) : tab71 σ' := by
  rcases h.2 with e | ⟨c, e, hc⟩
  · exact .inl (k _ _ (by decide) e)
  · exact .inr ⟨c, k _ _ (by decide) e, hc.mono fun o eo => k _ _ (hc.neT h.1) eo⟩
theorem tabs.keep64 {σ σ' : Sto} (h : tabs σ) (k : ∀ b o, b ≠ 71 → σ b = some o → σ' b = some o) : tab64 σ' := by
  rcases h.1 with e | ⟨c, e, hc⟩
  · exact .inl (k _ _ (by decide) e)
  · exact .inr ⟨c, k _ _ (by decide) e, hc.mono fun o eo => k _ _ (hc.neT h.2) eo⟩
theorem g_int2 {w : World} : nsIn (KF w) mainGlobals (Str.ofString "_int2digits") = some (some (.ref 69)) := by rfl
theorem g_dig2 {w : World} : nsIn (KF w) mainGlobals (Str.ofString "_digits2int") = some (some (.ref 76)) := by rfl
theorem g_div2 {w : World} : nsIn (KF w) mainGlobals (Str.ofString "_div2n1n") = some (some (.ref 55)) := by rfl
theorem g_dmp {w : World} : nsIn (KF w) mainGlobals (Str.ofString "_divmod_pos") = some (some (.ref 83)) := by rfl
theorem g_reversed {w : World} : nsIn (KF w) mainGlobals (Str.ofString "reversed") = some Option.none := by rfl
section
variable {prog : Program} {w : World} {n : Nat} {L : Addr} {m : Loc} {σ : Sto} {P : AV → Loc → Sto → Prop}
theorem dropS_upS {σ : Sto} {a : Addr} {o : AO} (h : σ a = Option.none) : dropS (upS σ a o) a = σ := by
  funext b; unfold dropS upS; split
  · rename_i q; rw [q, h]
  · rfl
structure DI (b k : Nat) (D Q : Addr) (rs : List Nat) (σ0 : Sto) (i : Nat) (m : Loc) (σ : Sto) : Prop where
  mb : m "b" = some (.int b)
  mn : m "n" = some (.int k)
  mr : m "r" = some (.int (val k (rs.take i).reverse % b : Nat))
  mq : m "q_digits" = some (.ref Q)
  eD : σ D = some (.list (rs.reverse.map fun d => .int (d : Nat)))
  eQ : ∃ qs : List Nat, σ Q = some (.list (qs.map fun d => .int (d : Nat))) ∧ qs.length = i ∧ (∀ d ∈ qs, d < 2 ^ k) ∧ val k qs.reverse = val k (rs.take i).reverse / b
  tb : tabs σ
  kp : ∀ b o, b ≠ 64 → b ≠ 71 → σ0 b = some o → σ b = some o
  DQ : D ≠ Q

theorem c_divmod_pos {N a b : Nat} (ha : a < 2 ^ 60) (hb : 1 ≤ b) (hb2 : b < 2 ^ 20) (ht : tabs σ)
    (h : ∀ t σ', Kp σ σ' → tabs σ' → σ t = Option.none → σ' t = some (.tup [.int (a / b : Nat), .int (a % b : Nat)]) → P (.ref t) m σ') :
    ∀ ws, VRs [.int a, .int b] ws → TE prog w (N + 11 + 1) L m σ (call (.ref 83) ws) P := by
  refine call_def (f := 83) (xs := ["a", "b"]) (by rfl) (by rfl) (fun ws hws => ?_) ?_ ?_ (fun L' => ?_)
  · rcases hws with _ | ⟨_, _ | ⟨_, _ | _⟩⟩; rfl
  · decide
  · decide
  · simp only [bnd]
    repeat walk_at "st"
    refine e_meth0 (id := "int.bit_length") ?_
    repeat walk_at "st"
    refine ⟨meth_bits, b_bits ?_⟩
    rw [intBits_nat]
    obtain ⟨k, hk⟩ : ∃ k, bits b = k := ⟨_, rfl⟩
    rw [hk]
    have hk1 : 1 ≤ k := hk ▸ bits_pos hb
    have hk2 : k ≤ 20 := hk ▸ bits_le hb2
    have hbk : b < 2 ^ k := hk ▸ lt_bits b
    repeat walk_at "st"
    refine e_global g_int2 (.ref _) ?_
    refine c_def (by rfl) ?_
    repeat walk_at "st"
    obtain ⟨K, hK⟩ : ∃ K, (bits a + k - 1) / k = K := ⟨_, rfl⟩
    have hba : bits a ≤ 60 := bits_le ha
    have hK60 : K ≤ 80 := by rw [← hK]; exact Nat.le_trans (Nat.div_le_self _ _) (by omega)
    have haK : a < 2 ^ (k * K) := by
      refine Nat.lt_of_lt_of_le (lt_bits a) (Nat.pow_le_pow_right (by decide) ?_)
      have := Nat.lt_mul_div_succ (bits a + k - 1) (show 0 < k by omega)
      rw [hK, Nat.mul_add, Nat.mul_one] at this
      omega
    refine c_int2digits (N := N + 1) ha hk1 (by omega) ht.1 fun D σ1 hk1' ht1 hD0 hD1 => ?_
    rw [hK] at hD1
    have hds := digs_lt k K a
    have hdl := digs_len k K a
    have hdv := val_digs k K a haK
    generalize digs k K a = ds at hD1 hds hdl hdv
    have tb1 : tabs σ1 := ⟨ht1, ht.keep71 hk1'⟩
    have hkp1 : ∀ b o, b ≠ 64 → b ≠ 71 → σ b = some o → σ1 b = some o := fun b o h1 _ e => hk1' b o h1 e
    obtain ⟨rs, hrs⟩ : ∃ rs, ds.reverse = rs := ⟨_, rfl⟩
    have hdr : ds = rs.reverse := by rw [← hrs, List.reverse_reverse]
    subst hdr
    have hrl : rs.length = K := by simpa using hdl
    have hrd : ∀ d ∈ rs, d < 2 ^ k := fun d hd => hds d (by simpa using hd)
    repeat walk_at "st"
    refine ⟨by decide, fun Q hQ => ?_⟩
    repeat walk_at "st"
    refine e_builtin g_reversed rfl (.ty _) ?_
    repeat walk_at "st"
    refine b_reversed (upS_old hQ hD1) fun I hI => ?_
    have hDQ : D ≠ Q := fun q => by rw [q, hQ] at hD1; cases hD1
    have hQI : Q ≠ I := fun q => by rw [q] at hI; rw [← q, upS_eq] at hI; cases hI
    have hDI : D ≠ I := fun q => by rw [← q, upS_old hQ hD1] at hI; cases hI
    refine ⟨_, _, _, DI b k D Q rs σ, it_reversed upS_eq (upS_old hI (upS_old hQ hD1)), ?_, fun i m σ hI => hI.eD, fun i u m1 σ2 hu hI => ?_, fun m1 σ2 hI => ?_⟩
    · rw [dropS_upS hI]
      refine ⟨by walk_at "lk", by walk_at "lk", ?_, by walk_at "lk", upS_old hQ hD1, ⟨[], upS_eq, rfl, by simp, by simp [val]⟩, tb1.new hQ, fun b o h1 h2 e => upS_old hQ (hkp1 b o h1 h2 e), hDQ⟩
      simp [val]
      try walk_at "lk"
    · obtain ⟨mb, mn, mr, mq, eD, ⟨qs, eQ, hql, hqd, hqv⟩, tb, kp, _⟩ := hI
      rw [← List.map_reverse, List.reverse_reverse, List.getElem?_map] at hu
      obtain ⟨d, hd, rfl⟩ := Option.map_eq_some_iff.mp hu
      have hdk : d < 2 ^ k := hrd d (List.mem_of_getElem? hd)
      have hil : i < rs.length := (List.getElem?_eq_some_iff.mp hd).1
      obtain ⟨A, hA⟩ : ∃ A, val k (rs.take i).reverse = A := ⟨_, rfl⟩
      have hA' : val k (rs.take (i + 1)).reverse = d + 2 ^ k * A := by
        rw [List.take_add_one, hd, List.reverse_append]
        simp [val, hA]
      rw [hA] at mr hqv
      obtain ⟨r, hr⟩ : ∃ r, A % b = r := ⟨_, rfl⟩
      rw [hr] at mr
      have hrb : r < b := hr ▸ Nat.mod_lt _ hb
      obtain ⟨hs1, hs2⟩ := ldiv_step (b := b) (n := k) (A := A) (r := r) (q := A / b) (d := d) hb rfl hr.symm
      have hs3 := ldiv_lt (b := b) (n := k) (r := r) (d := d) hb hrb hdk
      have hk20 : 2 ^ k ≤ 2 ^ 20 := Nat.pow_le_pow_right (by decide) hk2
      have hx : r * 2 ^ k + d < 2 ^ 60 := by
        have : r * 2 ^ k ≤ 2 ^ 20 * 2 ^ 20 := Nat.mul_le_mul (by omega) hk20
        omega
      repeat walk_at "st"
      refine e_global g_div2 (.ref _) ?_
      refine c_def (by rfl) ?_
      repeat walk_at "st"
      refine o_shlN rfl rfl (by omega) (by omega) ?_
      repeat walk_at "st"
      refine c_div2n1n (n := N + 10) (by omega) (by omega) ?_ fun t ht => ?_
      · rw [show ((r * 2 ^ k : Nat) : Int) + (d : Int) = ((r * 2 ^ k + d : Nat) : Int) by simp, intBits_nat]
        have := bits_le hx
        omega
      have e1 : (((r * 2 ^ k : Nat) : Int) + (d : Int)).fdiv (b : Int) = (((r * 2 ^ k + d) / b : Nat) : Int) := by
        rw [show ((r * 2 ^ k : Nat) : Int) + (d : Int) = ((r * 2 ^ k + d : Nat) : Int) by simp]; exact (Int.ofNat_fdiv _ _).symm
      have e2 : (((r * 2 ^ k : Nat) : Int) + (d : Int)).fmod (b : Int) = (((r * 2 ^ k + d) % b : Nat) : Int) := by
        rw [show ((r * 2 ^ k : Nat) : Int) + (d : Int) = ((r * 2 ^ k + d : Nat) : Int) by simp]; exact (Int.ofNat_fmod _ _).symm
      rw [e1, e2]
      refine ⟨t, _, _, rfl, upS_eq, ?_⟩
      repeat walk_at "st"
      refine e_meth (id := "list.append") ?_
      repeat walk_at "st"
      refine ⟨meth_list PySem.F.slot_list_append (by rfl) (upS_old ht eQ), ?_⟩
      repeat walk_at "st"
      refine m_append (upS_old ht eQ) (by rw [sizeLine_eq]; simp; omega) ⟨nofun, ?_⟩
      repeat walk_at "st"
      have hDQ' : D ≠ Q := hDQ
      refine ⟨by walk_at "lk", by walk_at "lk", ?_, by walk_at "lk", upS_ne hDQ (upS_old ht eD), ⟨qs ++ [(r * 2 ^ k + d) / b], ?_, by simp [hql], ?_, ?_⟩, (tb.new ht).setL (upS_old ht eQ), fun b o h1 h2 e => ?_, hDQ⟩
      · rw [hA', ← hs2]; walk_at "lk"
      · rw [upS_eq]; simp
      · intro x hx
        rcases List.mem_append.mp hx with hx | hx
        · exact hqd x hx
        · rw [List.mem_singleton.mp hx]; exact hs3
      · rw [List.reverse_append]; simp only [List.reverse_singleton, List.singleton_append, val]
        rw [hqv, hA', hs1]
      · have := kp b o h1 h2 e
        refine upS_ne (fun q => ?_) (upS_old ht this)
        have := hk1' b o h1 e
        rw [q, hQ] at this; cases this
    · obtain ⟨mb, mn, mr, mq, eD, ⟨qs, eQ, hql, hqd, hqv⟩, tb, kp, _⟩ := hI
      have hlenV : (List.map (fun (d : Nat) => AV.int (d : Int)) rs.reverse).reverse.length = rs.length := by simp
      rw [hlenV] at mr hql hqv
      rw [List.take_of_length_le (Nat.le_refl _), hdv] at mr hqv
      have hrv : val k qs.reverse < 2 ^ 60 := by rw [hqv]; exact Nat.lt_of_le_of_lt (Nat.div_le_self _ _) ha
      repeat walk_at "st"
      refine e_meth0 (id := "list.reverse") ?_
      repeat walk_at "st"
      refine ⟨meth_list PySem.F.slot_list_reverse (by rfl) eQ, m_reverse eQ (by rw [sizeLine_eq]; simp; omega) ⟨nofun, ?_⟩⟩
      rw [← List.map_reverse]
      have tb2 := tb.setL (vs' := qs.reverse.map fun d => .int (d : Nat)) eQ
      have kp2 : ∀ b o, b ≠ 64 → b ≠ 71 → σ b = some o → (upS σ2 Q (AO.list (qs.reverse.map fun d => .int (d : Nat)))) b = some o := fun b o h1 h2 e => by
        refine upS_ne (fun q => ?_) (kp b o h1 h2 e)
        have := hk1' b o h1 e
        rw [q, hQ] at this; cases this
      repeat walk_at "st"
      refine e_global g_dig2 (.ref _) ?_
      refine c_def (by rfl) ?_
      repeat walk_at "st"
      refine c_digits2int (N := N + 1) (ds := qs.reverse) upS_eq (by simp; omega) hk1 (by omega) (fun d hd => hqd d (by simpa using hd)) hrv tb2.2 fun σ5 kp5 ht5 => ?_
      rw [hqv]
      have tb5 : tabs σ5 := ⟨tb2.keep64 kp5, ht5⟩
      repeat walk_at "st"
      refine ⟨by show 2 ≤ sizeLine; decide, fun t ht => ?_⟩
      have kq : Kp σ σ5 := fun b o h1 h2 e => kp5 b o h2 (kp2 b o h1 h2 e)
      refine h t _ (kq.trans (.new ht)) (tb5.new ht) ?_ upS_eq
      cases q : σ t with
      | none => rfl
      | some o => have := tabs.neN tb5 ht; rw [kq t o this.1 this.2 q] at ht; cases ht

theorem c_int_divmod {N a b : Nat} (ha : a < 2 ^ 60) (hb : 1 ≤ b) (hb2 : b < 2 ^ 20) (ht : tabs σ)
    (h : ∀ t σ', Kp σ σ' → tabs σ' → σ t = Option.none → σ' t = some (.tup [.int (a / b : Nat), .int (a % b : Nat)]) → P (.ref t) m σ') :
    ∀ ws, VRs [.int a, .int b] ws → TE prog w (N + 12 + 1) L m σ (call (.ref 90) ws) P := by
  refine call_def (f := 90) (xs := ["a", "b"]) (by rfl) (by rfl) (fun ws hws => ?_) ?_ ?_ (fun L' => ?_)
  · rcases hws with _ | ⟨_, _ | ⟨_, _ | _⟩⟩; rfl
  · decide
  · decide
  · simp only [bnd]
    repeat walk_at "st"
    refine ⟨fun e => absurd (eq_of_beq e) (by omega), fun _ => ?_⟩
    repeat walk_at "st"
    refine ⟨fun e => absurd (of_decide_eq_true e) (by omega), fun _ => ?_⟩
    repeat walk_at "st"
    refine ⟨fun e => absurd (of_decide_eq_true e) (by omega), fun _ => ?_⟩
    repeat walk_at "st"
    refine e_global g_dmp (.ref _) ?_
    refine c_def (by rfl) ?_
    repeat walk_at "st"
    refine c_divmod_pos ha hb hb2 ht fun t σ1 k1 k2 k3 k4 => ?_
    repeat walk_at "st"
    exact h t σ1 k1 k2 k3 k4
end
/-! Var1 -/
theorem e_next1 : entryFor table "next" = some Builtin.«next» := entryFor_of_fast (by kernel_rfl)
theorem g_next {w : World} : nsIn (KF w) mainGlobals (Str.ofString "next") = some Option.none := by rfl
section
variable {prog : Program} {w : World} {n : Nat} {L : Addr} {m : Loc} {σ : Sto} {P : AV → Loc → Sto → Prop} {i j : Int} {x s : Nat}
theorem i_shlN (hi : i = x) (hj : j = s) (hs : s ≤ 100000) (hx : x < 2 ^ 64) (h : P (.int ((x * 2 ^ s : Nat) : Int)) m σ) : ∀ a b, VR (.int i) a → VR (.int j) b → TE prog w n L m σ (inplaceOp .LShift a b) P := by
  subst hi hj
  intro a b ha hb g A s' Q hA R k; cases ha; cases hb
  refine ilshift_int_small (by omega) (by omega) (by simpa using hx) ?_
  have e : (x : Int) * 2 ^ (s : Int).toNat = ((x * 2 ^ s : Nat) : Int) := by simp
  rw [e]
  exact k _ _ m σ s'.heap _ h (.int _ _) R
theorem i_or (h : P (.int (Builtin.bitOr i j)) m σ) : ∀ a b, VR (.int i) a → VR (.int j) b → TE prog w n L m σ (inplaceOp .BitOr a b) P := by
  intro a b ha hb g A s Q hA R k; cases ha; cases hb; exact ior_int (k _ _ m σ s.heap _ h (.int _ _) R)
theorem i_add (h : P (.int (i + j)) m σ) : ∀ a b, VR (.int i) a → VR (.int j) b → TE prog w n L m σ (inplaceOp .Add a b) P := by
  intro a b ha hb g A s Q hA R k; cases ha; cases hb; exact PyProof.Rows.iadd_int (k _ _ m σ s.heap _ h (.int _ _) R)
theorem i_sub (h : P (.int (i - j)) m σ) : ∀ a b, VR (.int i) a → VR (.int j) b → TE prog w n L m σ (inplaceOp .Sub a b) P := by
  intro a b ha hb g A s Q hA R k; cases ha; cases hb; exact PyProof.Rows.isub_int (k _ _ m σ s.heap _ h (.int _ _) R)

theorem b_next {T l : Addr} {vs : List AV} {v : AV} {i : Nat} (eT : σ T = some (.lit l i)) (el : σ l = some (.list vs)) (hv : vs[i]? = some v) (h : P v m (upS σ T (.lit l (i + 1)))) :
    ∀ ws, VRs [.ref T] ws → TE prog w n L m σ (call (.builtin "next") ws) P := by
  rintro _ (_ | ⟨hc, _ | _⟩) g A s Q hA R k
  cases hc
  obtain ⟨o, e1, e2⟩ := R.sto T _ eT
  cases e2
  obtain ⟨ws, nn, e3, r, hl⟩ := R.list el
  obtain ⟨c, hc, rc⟩ := r.get hv
  have hit : s.heap.IsListIter T l i := ⟨_, e1, rfl, rfl⟩
  refine call_function_entry (by decide +kernel) (by decide +kernel) e_next1 (kdk_args_next _) ?_
  unfold Builtin.«next»
  refine wpAny_bind (m := someArgs "next" 1 2 _) (wpAny_of_eq (a := [Value.ref T]) (by first | rfl | kernel_rfl!) ?_)
  dsimp only
  refine wpAny_bind (wpAny_specialOf (name := Str.ofString "__next__") hit.typeIs slot_listiter_next.lookup ?_)
  refine wpAny_ite_split (fun hab => absurd hab (by decide)) (fun _ => ?_)
  refine wpAny_bind (wpAny_callSpecial?_slot (name := Str.ofString "__next__") hit.typeIs slot_listiter_next
    (wpAny_call_entry slot_listiter_next hit.typeIs entry_listiter_next ?_ (args_listiter_next _)))
  show wpAny _ _ (field (.ref T) 0 >>= _) _ _ s
  refine wpAny_bind (wpAny_field e1 rfl (x := .ref l) rfl ?_)
  show wpAny _ _ (if (Value.ref l == Value.none) = true then _ else _) _ _ s
  rw [if_neg (show ¬ ((Value.ref l == Value.none) = true) from Bool.false_ne_true)]
  show wpAny _ _ (field (.ref T) 1 >>= _) _ _ s
  refine wpAny_bind (wpAny_field e1 rfl (x := .int i 0) rfl ?_)
  show wpAny _ _ (seqItems? (.ref l) >>= _) _ _ s
  refine wpAny_bind (wpAny_seqItems e3 rfl ?_)
  have hc' : ws.toArray[i]? = some c := by simpa using hc
  simp only [Int.toNat_natCast, hc']
  refine wpAny_bind (wpAny_setField e1 rfl (by simp) (wpAny_pure ⟨c, rfl, ?_⟩))
  refine wpAny_pure ⟨_, rfl, ?_⟩
  have R' : Rel w g L m (upS σ T (.lit l (i + 1))) (s.heap.update T (Obj.mapFields (·.setIfInBounds 1 (rawInt ((i : Int) + 1))))) :=
    R.set eT (fun b o hb e => ((Heap.SameBut.update ..).2 b hb).trans e) (Heap.get?_update_self _ e1 rfl) (by
      have : Obj.mapFields (·.setIfInBounds 1 (rawInt ((i : Int) + 1))) (litO l i) = litO l ((i + 1 : Nat) : Int) := by
        simp [Obj.mapFields, litO, rawInt]
      rw [this]; exact .lit l (i + 1))
  exact k _ _ _ _ _ _ h rc R'
end
/-! Var2 -/
section
variable {prog : Program} {w : World} {n : Nat} {L : Addr} {m : Loc} {σ : Sto} {P : AV → Loc → Sto → Prop}
theorem c_varint {N x i : Nat} {T O : Addr} {full rest : List Nat} (hx : x < 2 ^ 60) (eT : σ T = some (.lit O i)) (eO : σ O = some (.list (full.map fun d => .int (d : Nat)))) (hd : full.drop i = enc x ++ rest)
    (h : P (.int (x : Nat)) m (upS σ T (.lit O (i + (enc x).length)))) :
    ∀ ws, VRs [.ref T] ws → TE prog w (N + 1) L m σ (call (.ref 97) ws) P := by
  refine call_def (f := 97) (xs := ["iterator"]) (by rfl) (by rfl) (fun ws hws => ?_) ?_ ?_ (fun L' => ?_)
  · rcases hws with _ | ⟨_, _ | _⟩; rfl
  · decide
  · decide
  · simp only [bnd]
    obtain ⟨b0, cs0, he, hw, hv⟩ := enc_spec x
    have hTO : O ≠ T := fun q => by rw [q, eT] at eO; cases eO
    have hget : ∀ j, (enc x ++ rest)[j]? = full[i + j]? := fun j => by rw [← hd, List.getElem?_drop]
    rw [he] at hget h
    repeat walk_at "st"
    refine e_builtin g_next rfl (.fn _) ?_
    repeat walk_at "st"
    refine b_next eT eO (v := .int (b0 : Nat)) (by rw [List.getElem?_map, ← Nat.add_zero i, ← hget]; rfl) ?_
    repeat walk_at "st"
    refine o_and ?_
    rw [and_63]
    repeat walk_at "st"
    refine s_while (fun j m' σ' => ∃ (v b : Nat) (cs : List Nat) (k : Nat), cs.length = j ∧ wfE b cs ∧ dec v cs = x ∧ m' "iterator" = some (.ref T) ∧ m' "val" = some (.int v) ∧ m' "b" = some (.int b) ∧ σ' = upS σ T (.lit O k) ∧
      full.drop k = cs ++ rest ∧ k + cs.length = i + (b0 :: cs0).length) cs0.length ?_ ?_
    · refine ⟨b0 % 64, b0, cs0, i + 1, rfl, hw, hv, by walk_at "lk", by walk_at "lk", by walk_at "lk", rfl, ?_, by simp; omega⟩
      rw [← List.drop_drop, hd, he]; rfl
    · rintro j m' σ' ⟨v, b, cs, k, hj, hw, hv, m1, m2, m3, rfl, hdr, hk⟩
      have hvx : v ≤ x := hv ▸ dec_le cs v
      repeat walk_at "st"
      refine o_and ?_
      rw [and_64 b (wfE_lt hw)]
      cases cs with
      | nil =>
        simp only [wfE] at hw
        rw [if_pos hw]
        repeat walk_at "st"
        refine ⟨fun e => by simp at e, fun _ => ?_⟩
        repeat walk_at "st"
        simp only [dec] at hv
        subst hv
        simp only [List.length_nil, Nat.add_zero] at hk
        rw [hk]; exact h
      | cons c cs =>
        rw [if_neg (by have := hw.1; omega)]
        repeat walk_at "st"
        refine ⟨fun _ => ?_, fun e => by simp at e⟩
        repeat walk_at "st"
        refine i_shlN rfl rfl (by decide) (by omega) ?_
        repeat walk_at "st"
        refine e_builtin g_next rfl (.fn _) ?_
        repeat walk_at "st"
        refine b_next upS_eq (upS_ne hTO eO) (v := .int (c : Nat)) (by
          have := congrArg (·[0]?) hdr
          simp only [List.getElem?_drop, Nat.add_zero] at this
          rw [List.getElem?_map, this]; rfl) ?_
        repeat walk_at "st"
        refine o_and ?_
        rw [and_63]
        refine i_or ?_
        rw [show v * 2 ^ 6 = v * 64 by rfl, or_low _ _ (Nat.mod_lt _ (by decide))]
        repeat walk_at "st"
        refine ⟨cs.length, by rw [← hj]; simp, v * 64 + c % 64, c, cs, k + 1, rfl, hw.2.2, hv, by walk_at "lk", by walk_at "lk", by walk_at "lk", upS_upS, ?_, by simp at hk ⊢; omega⟩
        rw [← List.drop_drop, hdr]; rfl

theorem g_lim0 : True := trivial
structure OI (X : List Nat) (O : Addr) (σ0 : Sto) (i : Nat) (m : Loc) (σ : Sto) : Prop where
  mo : m "octets" = some (.ref O)
  eO : σ O = some (.list (((X.take i).flatMap enc).map fun d => .int (d : Nat)))
  kp : ∀ b o, σ0 b = some o → σ b = some o

theorem c_octets {N : Nat} {l : Addr} {X : List Nat} (el : σ l = some (.list (X.map fun d => .int (d : Nat)))) (hX : ∀ x ∈ X, x < 64 ^ 4) (hlen : X.length ≤ 4)
    (h : ∀ O σ', (∀ b o, σ b = some o → σ' b = some o) → σ O = Option.none → σ' O = some (.list ((X.flatMap enc).map fun d => .int (d : Nat))) → P (.ref O) m σ') :
    ∀ ws, VRs [.ref l] ws → TE prog w (N + 1) L m σ (call (.ref 111) ws) P := by
  refine call_def (f := 111) (xs := ["numbers"]) (by rfl) (by rfl) (fun ws hws => ?_) ?_ ?_ (fun L' => ?_)
  · rcases hws with _ | ⟨_, _ | _⟩; rfl
  · decide
  · decide
  · simp only [bnd]
    repeat walk_at "st"
    refine ⟨by decide, fun O hO => ?_⟩
    repeat walk_at "st"
    have hlO : l ≠ O := fun q => by rw [q, hO] at el; cases el
    refine ⟨_, _, _, OI X O σ, it_list (upS_old hO el), ?_, fun i m σ hI => hI.kp _ _ el, fun i u m1 σ2 hu hI => ?_, fun m1 σ2 hI => ?_⟩
    · exact ⟨by walk_at "lk", upS_eq, fun b o e => upS_old hO e⟩
    · obtain ⟨mo, eO, kp⟩ := hI
      rw [List.getElem?_map] at hu
      obtain ⟨x, hx, rfl⟩ := Option.map_eq_some_iff.mp hu
      have hx4 := hX x (List.mem_of_getElem? hx)
      repeat walk_at "st"
      refine o_fmod (by decide) ?_
      rw [show ((x : Int).fmod 64) = ((x % 64 : Nat) : Int) from (Int.ofNat_fmod _ _).symm]
      repeat walk_at "st"
      refine ⟨by show 1 ≤ sizeLine; decide, fun F hF => ?_⟩
      repeat walk_at "st"
      refine o_fdiv (by decide) (by decide) ?_
      rw [show ((x : Int).fdiv 64) = ((x / 64 : Nat) : Int) from (Int.ofNat_fdiv _ _).symm]
      repeat walk_at "st"
      refine s_while (fun j m' σ' => ∃ (F' : List Nat), m' "figures" = some (.ref F) ∧ m' "rest" = some (.int j) ∧ m' "octets" = some (.ref O) ∧ σ' F = some (.list (F'.map fun d => .int (d : Nat))) ∧ F' ++ fs j = x % 64 :: fs (x / 64) ∧
        (∀ b o, σ2 b = some o → σ' b = some o)) (x / 64) ?_ ?_
      · exact ⟨[x % 64], by walk_at "lk", by walk_at "lk", by walk_at "lk", upS_eq, rfl, fun b o e => upS_old hF e⟩
      · rintro r m' σ' ⟨F', m2, m3, m4, eF, hfs, kp2⟩
        have hFl : F'.length ≤ 4 := by
          have := congrArg List.length hfs
          have h3 := enc_len hx4
          simp only [enc, List.length_reverse] at h3
          rw [List.length_append] at this; omega
        repeat walk_at "st"
        constructor
        · intro hr
          have hr : 0 < r := by have := of_decide_eq_true hr; omega
          rw [fs_pos hr] at hfs
          repeat walk_at "st"
          refine e_meth (id := "list.append") ?_
          repeat walk_at "st"
          refine ⟨meth_list PySem.F.slot_list_append (by rfl) eF, ?_⟩
          repeat walk_at "st"
          refine o_fmod (by decide) ?_
          rw [show ((r : Int).fmod 64) = ((r % 64 : Nat) : Int) from (Int.ofNat_fmod _ _).symm]
          repeat walk_at "st"
          refine m_append eF (by rw [sizeLine_eq]; simp; omega) ⟨nofun, ?_⟩
          repeat walk_at "st"
          refine o_fdiv (by decide) (by decide) ?_
          rw [show ((r : Int).fdiv 64) = ((r / 64 : Nat) : Int) from (Int.ofNat_fdiv _ _).symm]
          repeat walk_at "st"
          refine ⟨r / 64, by omega, F' ++ [64 + r % 64], by walk_at "lk", by walk_at "lk", by walk_at "lk", by rw [upS_eq]; simp, by simpa using hfs, fun b o e => upS_ne (fun q => ?_) (kp2 b o e)⟩
          rw [q, hF] at e; cases e
        · intro hr
          have hr : r = 0 := by have := of_decide_eq_false hr; omega
          subst hr
          rw [fs_zero, List.append_nil] at hfs
          repeat walk_at "st"
          refine e_meth0 (id := "list.reverse") ?_
          repeat walk_at "st"
          refine ⟨meth_list PySem.F.slot_list_reverse (by rfl) eF, m_reverse eF (by rw [sizeLine_eq]; simp; omega) ⟨nofun, ?_⟩⟩
          have hFO : O ≠ F := fun q => by rw [q, hF] at eO; cases eO
          have eO2 := kp2 _ _ eO
          repeat walk_at "st"
          refine e_meth (id := "list.extend") ?_
          repeat walk_at "st"
          refine ⟨meth_list PySem.F.slot_list_extend (by rfl) (upS_ne hFO eO2), ?_⟩
          repeat walk_at "st"
          have hOl : ∀ i : Nat, i ≤ 4 → ((X.take i).flatMap enc).length ≤ 4 * i := by
            intro i
            induction i with
            | zero => simp
            | succ i ih =>
              intro hi
              rw [List.take_add_one, List.flatMap_append, List.length_append]
              have := ih (by omega)
              cases hq : X[i]? with
              | none => simp only [Option.toList_none, List.flatMap_nil, List.length_nil]; omega
              | some y =>
                have := enc_len (hX y (List.mem_of_getElem? hq))
                simp only [Option.toList_some, List.flatMap_cons, List.flatMap_nil, List.append_nil]; omega
          have hil : i < X.length := (List.getElem?_eq_some_iff.mp hx).1
          have hol := hOl i (by omega)
          refine m_extend (upS_ne hFO eO2) upS_eq (by rw [List.length_map, List.length_reverse, List.length_map]; omega) ⟨nofun, ?_⟩
          repeat walk_at "st"
          refine ⟨by walk_at "lk", ?_, fun b o e => ?_⟩
          · rw [upS_eq, List.take_add_one, hx, List.flatMap_append, ← List.map_reverse, hfs]
            simp [enc]
          · have h1 := kp2 b o (kp b o e)
            refine upS_ne (fun q => ?_) (upS_ne (fun q => ?_) h1)
            · rw [q, hO] at e; cases e
            · have := kp b o e; rw [q, hF] at this; cases this
    · have mo := hI.mo
      repeat walk_at "st"
      exact h O σ2 hI.kp hO (by have := hI.eO; simpa using this)
end
/-! Re1 -/
section
open PySem PySem.W PySem.Calls PyProof.Rows PySem.Builtin PySem.Builtin.Re
theorem slot_re_sub : Slot "re.Pattern" "sub" "re.Pattern.sub" :=
  .of (owner := "re.Pattern") (n := "sub") (by rw [typeLookup_type, builtinLookup_eq_fast]; kernel_rfl) (by decide +kernel) (by decide +kernel) (by decide +kernel)
    (by first | exact .inl (by decide +kernel) | exact .inr (by decide +kernel)) (by rw [isSubtype_type]; kernel_rfl)
theorem type_re_sub : typeOf (.builtin "re.Pattern.sub") = pure (.type "method_descriptor") := by show builtinType _ = _; rw [builtinType_eq_fast]; kernel_rfl
theorem entry_re_sub : entryFor table "re.Pattern.sub" = some Builtin.«re.Pattern.sub» := entryFor_of_tree (by kernel_rfl)
theorem entry_re_loop : entryFor table "re.Pattern.sub.loop" = some Builtin.«re.Pattern.sub.loop» := entryFor_of_tree (by kernel_rfl)
theorem args_re_sub (a b c : Value) : argsOk "re.Pattern.sub" ⟨[a, b, c], []⟩ := by unfold argsOk; kernel_rfl
theorem plainAttrs_re : PlainAttrs "re.Pattern" :=
  ⟨⟨"object.__getattribute__", by rw [typeLookup_type, builtinLookup_eq_fast]; kernel_rfl, by decide +kernel⟩, by rw [typeLookup_type, builtinLookup_eq_fast]; kernel_rfl⟩
theorem no_str_call : typeLookup (.type "str") "__call__" = pure Option.none := by rw [typeLookup_type, builtinLookup_eq_fast]; kernel_rfl
theorem re_quiet (args : Args) : (Code.builtin "re.Pattern.sub.loop" args).quiet = true := plainId_quiet (by decide +kernel) args

section
variable {M : Model} {A : Around} {E : Value → Shared → Prop} {s : Shared}
theorem run_stable {k : Nat} {m : Sre.M} (h : m.outcome.isSome = true) : Sre.M.runFor k m = m := by
  cases k with
  | zero => rfl
  | succ k => show (if m.outcome.isSome then m else _) = m; rw [if_pos h]
theorem wp_drive : ∀ (turns N : Nat) (m : Sre.M) {Q : Sre.M → Shared → Prop}, 0 < turns → N ≤ 4 * turns → (Sre.M.runFor N m).outcome.isSome = true → Q (Sre.M.runFor N m) s → wpAny M A (reDrive turns m) Q E s
  | 0, N, m, Q, h0, hN, h, hQ => absurd h0 (Nat.lt_irrefl _)
  | turns + 1, N, m, Q, h0, hN, h, hQ => by
    show wpAny M A (if (m.runFor 4).outcome.isSome then pure (m.runFor 4) else do rule "sre.turn"; reDrive turns (m.runFor 4)) Q E s
    by_cases h4 : (m.runFor 4).outcome.isSome = true
    · rw [if_pos h4]
      have e : m.runFor 4 = m.runFor N := by
        rcases Nat.le_total N 4 with q | q
        · have := run_add N (4 - N) m
          rw [show N + (4 - N) = 4 by omega, run_stable h] at this
          exact this
        · have := run_add 4 (N - 4) m
          rw [show 4 + (N - 4) = N by omega, run_stable h4] at this
          exact this.symm
      exact wpAny_pure (e ▸ hQ)
    · rw [if_neg h4]
      have hN4 : 4 < N := by
        apply Nat.lt_of_not_le
        intro q
        apply h4
        have := run_add N (4 - N) m
        rw [show N + (4 - N) = 4 by omega, run_stable h] at this
        rw [this]; exact h
      have e := run_add 4 (N - 4) m
      rw [show 4 + (N - 4) = N by omega] at e
      exact wpAny_bind (wpAny_rule (wp_drive turns (N - 4) (m.runFor 4) (by omega) (by omega) (e ▸ h) (e ▸ hQ)))
theorem wp_forIn_rules {α : Type} (c : α → Bool) (g : α → String) : ∀ (l : List α) {Q : PUnit → Shared → Prop}, Q ⟨⟩ s → wpAny M A (forIn l PUnit.unit fun i r => if c i = true then (do rule (g i); pure (ForInStep.yield PUnit.unit)) else pure (ForInStep.yield PUnit.unit)) Q E s
  | [], Q, h => wpAny_pure h
  | a :: l, Q, h => by
    rw [List.forIn_cons]
    refine wpAny_bind ?_
    by_cases hc : c a = true
    · rw [if_pos hc]; exact wpAny_bind (wpAny_rule (wpAny_pure (wp_forIn_rules c g l h)))
    · rw [if_neg hc]; exact wpAny_pure (wp_forIn_rules c g l h)
noncomputable def Fnd : Option (Nat × Nat) → Option Sre.M → Prop
  | some (a, b), some m => m.start = a ∧ m.handed = b
  | Option.none, Option.none => True
  | _, _ => False
theorem wp_toEnd {m0 : Sre.M} {r : Option (Nat × Nat)} {Q : Option Sre.M → Shared → Prop} (f : Finds m0 r)
    (h : ∀ m : Option Sre.M, Fnd r m → Q m s) : wpAny M A (reRunToEnd m0) Q E s := by
  obtain ⟨N, m, hN, e, hr⟩ := f
  unfold reRunToEnd
  have hsome : (Sre.M.runFor N m0).outcome.isSome = true := by
    rw [e]
    cases r with
    | none => simp only at hr; rw [hr]; rfl
    | some p => simp only at hr; rw [hr.1]; rfl
  refine wpAny_bind (wp_drive (2 ^ 64) N m0 (by decide) (by omega) hsome ?_)
  rw [e]
  refine wpAny_bind (wp_forIn_rules (fun i => m.seen.has i) (fun i => Sre.names.getD i "") _ ?_)
  cases r with
  | none => simp only at hr; rw [hr]; exact wpAny_pure (h Option.none trivial)
  | some p => obtain ⟨a, b⟩ := p; simp only at hr; rw [hr.1]; exact wpAny_pure (h (some m) ⟨hr.2.1, hr.2.2⟩)
/-- a compiled pattern in the heap -/
structure PatAt (h : Heap) (a : Addr) (code : Array Nat) : Prop where
  ex : ∃ (o oc : Obj) (src fl g4 g5 : Value) (C : Addr) (t2 t6 : Tok) (items : Array Value) (n : Nat), h.get? a = some o ∧ o.cls = .type "re.Pattern" ∧ o.dict = Option.none ∧ o.data = .fields #[src, fl, .int 0 t2, g4, g5, .ref C, .int 0 t6] ∧
    h.get? C = some oc ∧ oc.data = .seq items n ∧ (items.map reRawOf).map (·.toNat) = code
theorem wp_whole {a : Addr} {code : Array Nat} {x : Str} {tk : Tok} {Q : ReTarget → Shared → Prop} (hp : PatAt s.heap a code)
    (h : Q { pattern := .ref a, string := .str x tk, code := code, text := x.cps, kind := 0, groups := 0, pos := 0, lim := x.cps.size } s) : wpAny M A (reWholeTarget (.ref a) (.str x tk)) Q E s := by
  obtain ⟨o, oc, src, fl, g4, g5, C, t2, t6, items, n, ho, hcl, hdn, hd, hoc, hdc, hcode⟩ := hp.ex
  unfold reWholeTarget
  refine wpAny_bind (wpAny_fieldsOf ho hd ?_)
  refine wpAny_bind (wpAny_pure ?_)
  dsimp only
  refine wpAny_bind (wpAny_pure ?_)
  refine wpAny_bind ?_
  show wpAny M A (reRawItems (.ref C)) _ E s
  unfold reRawItems
  refine wpAny_bind (wpAny_seqItems hoc hdc (wpAny_pure (wpAny_pure ?_)))
  have e : Array.map (fun x => x.toNat) (Array.map reRawOf ((some items).getD #[])) = code := hcode
  rw [e]
  exact h
theorem wp_next {a : Addr} {code : Array Nat} {x : Str} {tk : Tok} {start : Nat} {must : Bool} {r : Option (Nat × Nat)} {Q : Option Sre.M → Shared → Prop} (f : Finds (Sre.forSearch code x.cps 0 start x.cps.size must) r)
    (h : ∀ m : Option Sre.M, Fnd r m → Q m s) :
    wpAny M A (reNextFound { pattern := .ref a, string := .str x tk, code := code, text := x.cps, kind := 0, groups := 0, pos := 0, lim := x.cps.size } start must) Q E s := wp_toEnd f h
end

theorem PatAt.keeps {h h' : Heap} {a : Addr} {code : Array Nat} (p : PatAt h a code) (k : ∀ b o, h.get? b = some o → h'.get? b = some o) : PatAt h' a code := by
  obtain ⟨o, oc, src, fl, g4, g5, C, t2, t6, items, n, ho, hcl, hdn, hd, hoc, hdc, hcode⟩ := p.ex
  exact ⟨o, oc, src, fl, g4, g5, C, t2, t6, items, n, k _ _ ho, hcl, hdn, hd, k _ _ hoc, hdc, hcode⟩

section
variable {prog : Program} {w : World} {A : Around} {s : Shared}
/-- the state of the loop: the pieces so far in the list at D, all else as at first -/
structure Pcs (h0 h : Heap) (D : Addr) (ys : List Str) : Prop where
  at' : ∃ ws n, h.get? D = some (listO ws n) ∧ StrsAre ws ys
  kp : ∀ b o, h0.get? b = some o → h.get? b = some o
  new : h0.get? D = Option.none
theorem StrsAre.snoc {y : Str} {t : Tok} : ∀ {ws : List Value} {ys : List Str}, StrsAre ws ys → StrsAre (ws ++ [.str y t]) (ys ++ [y])
  | _, _, .nil => .cons y t .nil
  | _, _, .cons y' t' r => .cons y' t' (StrsAre.snoc r)
theorem Pcs.add {h0 h : Heap} {D : Addr} {ys : List Str} {y : Str} {t : Tok} (p : Pcs h0 h D ys) : Pcs h0 (h.update D (Obj.mapSeq (·.push (.str y t)))) D (ys ++ [y]) := by
  obtain ⟨ws, n, e, r⟩ := p.at'
  have q := PySem.IsL.update (n := n) e (·.push (.str y t))
  rw [show ws.toArray.push (.str y t) = (ws ++ [Value.str y t]).toArray by simp] at q
  refine ⟨⟨ws ++ [.str y t], _, q, StrsAre.snoc r⟩, fun b o eb => ?_, p.new⟩
  exact ((Heap.SameBut.update ..).2 b (fun q => by rw [q, p.new] at eb; cases eb)).trans (p.kp b o eb)

theorem StrsAre.len : ∀ {ws : List Value} {ys : List Str}, StrsAre ws ys → ws.length = ys.length
  | _, _, .nil => rfl
  | _, _, .cons y' t' r => by simp [StrsAre.len r]
theorem Pcs.upd {h0 : Heap} {D : Addr} {ys : List Str} {y : Str} {t : Tok} {M : Model} {A : Around} {E : Value → Shared → Prop} {s : Shared} {Q : Unit → Shared → Prop} (p : Pcs h0 s.heap D ys) (hys : ys.length ≤ 2000)
    (h : ∀ h', Pcs h0 h' D (ys ++ [y]) → Q () { s with heap := h' }) : wpAny M A (updateSeq D fun x => x.push (.str y t)) Q E s := by
  obtain ⟨ws, n, e, r⟩ := p.at'
  have hl := StrsAre.len r
  exact wpAny_updateSeq e rfl (h _ p.add) (by rw [sizeLine_eq, List.size_toArray]; omega) (by rw [sizeLine_eq, Array.size_push, List.size_toArray]; omega)
theorem wp_slice {M : Model} {A : Around} {E : Value → Shared → Prop} {s : Shared} {Q : Value → Shared → Prop} {x : Array Nat} {i j : Nat} (hx : x.size ≤ 1000) (h : Q (.str ⟨x.extract i j⟩ s.toks) { s with toks := s.toks + 1 }) : wpAny M A (reSlice x 0 i j) Q E s := by
  unfold reSlice
  rw [if_pos (by decide)]
  refine wpAny_mkStr h ?_
  show (x.extract i j).size ≤ sizeLine
  rw [Array.size_extract, sizeLine_eq]; omega
noncomputable abbrev loopArgs (a : Addr) (x repl : Str) (tk rk : Tok) (D : Addr) (n done start : Nat) (must : Bool) (i1 i2 : Tok): Args :=
  ⟨[.ref a, .str x tk, .str repl rk, rawInt 0, rawInt 0, rawInt n, rawInt done, rawInt start, .bool must, .ref D, .bool false], []⟩
theorem sub_more {a : Addr} {code : Array Nat} {x repl : Str} {tk rk : Tok} {D : Addr} {n done start p e : Nat} {must : Bool} {ys : List Str} {h0 : Heap} {R : Result → Shared → Prop} (hx : x.length ≤ 1000) (hys : ys.length ≤ 1000)
    (hp : PatAt h0 a code) (hP : Pcs h0 s.heap D ys) (f : Finds (Sre.forSearch code x.cps 0 start x.cps.size must) (some (p, e)))
    (h : ∀ h' tk', Pcs h0 h' D (ys ++ (if done < p then [⟨x.cps.extract done p⟩] else []) ++ [repl]) → codeAny (model prog w) A (.builtin "re.Pattern.sub.loop" (loopArgs a x repl tk rk D (n + 1) e e (e == p) 0 0)) R { s with heap := h', toks := tk' }) :
    codeAny (model prog w) A (.builtin "re.Pattern.sub.loop" (loopArgs a x repl tk rk D n done start must 0 0)) R s := by
  refine codeAny_builtin entry_re_loop ?_
  unfold Builtin.«re.Pattern.sub.loop»
  dsimp only [loopArgs, rawInt]
  refine wpAny_bind (wp_whole (hp.keeps hP.kp) ?_)
  rw [if_pos (by decide)]
  refine wpAny_bind ?_
  unfold reLiteralCannotBeTurned
  refine wpAny_bind (wpAny_pure ?_)
  rw [if_neg (by simp)]
  refine wpAny_pure ?_
  refine wpAny_bind ?_
  rw [if_neg (by simp)]
  rw [Int.toNat_natCast]
  refine wp_next f fun m hm => ?_
  cases m with
  | none => exact hm.elim
  | some m =>
  obtain ⟨rfl, rfl⟩ := hm
  dsimp only
  rw [Int.toNat_natCast]
  have hqk := re_quiet (loopArgs a x repl tk rk D (n + 1) m.handed m.handed (m.handed == m.start) 0 0)
  by_cases hd : done < m.start
  · rw [if_pos hd] at h ⊢
    refine wpAny_bind (wp_slice hx ?_)
    refine wpAny_bind (Pcs.upd (by exact hP) (by omega) fun h1 P1 => ?_)
    rw [if_pos (by decide)]
    refine wpAny_bind (wpAny_pure ?_)
    rw [if_pos (by rfl)]
    refine wpAny_bind (Pcs.upd (by exact P1) (by simp; omega) fun h2 P2 => ?_)
    exact wpAny_pure ⟨hqk, h _ _ P2⟩
  · rw [if_neg hd] at h ⊢
    rw [List.append_nil] at h
    rw [if_pos (by decide)]
    refine wpAny_bind (wpAny_pure ?_)
    rw [if_pos (by rfl)]
    refine wpAny_bind (Pcs.upd (by exact hP) (by omega) fun h2 P2 => ?_)
    exact wpAny_pure ⟨hqk, h _ _ P2⟩
theorem sub_stop {a : Addr} {code : Array Nat} {x repl : Str} {tk rk : Tok} {D : Addr} {n done start : Nat} {must : Bool} {ys : List Str} {h0 : Heap} {R : Result → Shared → Prop} (hx : x.length ≤ 1000) (hys : ys.length ≤ 1000)
    (hp : PatAt h0 a code) (hP : Pcs h0 s.heap D ys) (f : Finds (Sre.forSearch code x.cps 0 start x.cps.size must) Option.none) (hd : done < x.cps.size)
    (hsum : ((ys ++ [(⟨x.cps.extract done x.cps.size⟩ : Str)]).map (fun y : Str => y.length)).sum ≤ 16777216)
    (h : ∀ h' tk' t', (∀ b o, h0.get? b = some o → h'.get? b = some o) → R (.ok (.ret (.str (Txt.join ⟨#[]⟩ (ys ++ [⟨x.cps.extract done x.cps.size⟩])) t'))) { s with heap := h', toks := tk' }) :
    codeAny (model prog w) A (.builtin "re.Pattern.sub.loop" (loopArgs a x repl tk rk D n done start must 0 0)) R s := by
  refine codeAny_builtin entry_re_loop ?_
  unfold Builtin.«re.Pattern.sub.loop»
  dsimp only [loopArgs, rawInt]
  refine wpAny_bind (wp_whole (hp.keeps hP.kp) ?_)
  rw [if_pos (by decide)]
  refine wpAny_bind ?_
  unfold reLiteralCannotBeTurned
  refine wpAny_bind (wpAny_pure ?_)
  rw [if_neg (by simp)]
  refine wpAny_pure ?_
  refine wpAny_bind ?_
  rw [if_neg (by simp)]
  rw [Int.toNat_natCast]
  refine wp_next f fun m hm => ?_
  cases m with
  | some m => exact hm.elim
  | none =>
  dsimp only
  rw [Int.toNat_natCast, if_pos hd]
  refine wpAny_bind (wp_slice hx ?_)
  refine wpAny_bind (Pcs.upd (by exact hP) (by omega) fun h1 P1 => ?_)
  refine wpAny_bind (wp_slice hx ?_)
  obtain ⟨ws, nn, e1, r1⟩ := P1.at'
  have hl := StrsAre.len r1
  refine wpAny_bind (wpAny_seqItems e1 rfl ?_)
  rw [if_neg (by
    have : ws ≠ [] := fun q => by rw [q] at hl; simp at hl
    simp [this])]
  have hz : x.cps.extract 0 0 = #[] := by simp
  rw [hz, if_pos (by decide)]
  refine wpAny_bind (join_list (items := ws.toArray) (PySem.IsL.isList (n := nn) e1) (by simpa using r1) (by
    show _ + _ * 0 ≤ _
    rw [Nat.mul_zero, Nat.add_zero]; exact hsum) fun t' k => ?_)
  rw [if_neg (by decide)]
  exact wpAny_pure (h _ _ _ P1.kp)
end
end
/-! Re2 -/
section
open PySem PySem.W PySem.Calls PyProof.Rows PySem.Builtin PySem.Builtin.Re
section
variable {prog : Program} {w : World} {A : Around} {s : Shared} {E : Value → Shared → Prop}
theorem re_typeIs {h : Heap} {a : Addr} {code : Array Nat} (hp : PatAt h a code) {s : Shared} (hs : s.heap = h) : s.TypeIs (.ref a) "re.Pattern" := by
  obtain ⟨o, oc, src, fl, g4, g5, C, t2, t6, items, n, ho, hcl, hdn, hd, hoc, hdc, hcode⟩ := hp.ex
  exact ⟨o, hs ▸ ho, hcl⟩
theorem re_named (r x : Value) : reNamed "re.Pattern.sub" "sub" ["repl", "string", "count"] 2 [r, x] [] = pure [some r, some x, Option.none] := by rfl
theorem sub_call {a : Addr} {code : Array Nat} {x repl : Str} {tk rk : Tok} {Q : Value → Shared → Prop} (hp : PatAt s.heap a code) (hr : repl.cps.contains 92 = false)
    (h : ∀ h1 D, Pcs s.heap h1 D [] → codeAny (model prog w) A (.builtin "re.Pattern.sub.loop" (loopArgs a x repl tk rk D 0 0 0 false 0 0)) (wants Q E) { s with heap := h1 }) :
    wpAny (model prog w) A (call (.builtin "re.Pattern.sub") [.ref a, .str repl rk, .str x tk]) Q E s := by
  refine wpAny_call (codeAny_call_builtin slot_re_sub.plain entry_re_sub (slot_re_sub.check _ _ _ _ _ _ _ _ (re_typeIs hp rfl) (args_re_sub _ _ _) ?_))
  unfold Builtin.«re.Pattern.sub» reSubstitute
  dsimp only
  refine wpAny_bind (wpAny_of_eq (re_named _ _) ?_)
  dsimp only
  refine wpAny_bind (wpAny_pure ?_)
  refine wpAny_bind (wpAny_specialOf (typeIs_str _ _ _) no_str_call ?_)
  rw [if_neg (by decide)]
  refine wpAny_bind (wpAny_pure ?_)
  dsimp only
  refine wpAny_bind (wpAny_pure ?_)
  rw [if_neg (by decide), if_pos (by rw [hr]; rfl)]
  refine wpAny_bind (wpAny_pure ?_)
  refine wpAny_bind (wpAny_holding (wp_whole hp ?_))
  rw [if_neg (by simp)]
  refine wpAny_bind (wpAny_newList ?_)
  refine wpAny_pure ⟨re_quiet _, ?_⟩
  exact h _ _ ⟨⟨[], 0, Heap.get?_push_size _ rfl, .nil⟩, fun b o e => Heap.get?_push_of_some _ e, size_none⟩

theorem sub_two {a : Addr} {code : Array Nat} {x repl : Str} {tk rk : Tok} {p1 e1 p2 e2 : Nat} {Q : Value → Shared → Prop} (hp : PatAt s.heap a code) (hr : repl.cps.contains 92 = false) (hx : x.length ≤ 1000) (hrl : repl.length ≤ 10)
    (f1 : Finds (Sre.forSearch code x.cps 0 0 x.cps.size false) (some (p1, e1))) (n1 : (e1 == p1) = false)
    (f2 : Finds (Sre.forSearch code x.cps 0 e1 x.cps.size false) (some (p2, e2))) (n2 : (e2 == p2) = false)
    (f3 : Finds (Sre.forSearch code x.cps 0 e2 x.cps.size false) Option.none) (he : e2 < x.cps.size)
    (h : ∀ h' tk' t', (∀ b o, s.heap.get? b = some o → h'.get? b = some o) → Q (.str (Txt.join ⟨#[]⟩ ((((if 0 < p1 then [⟨x.cps.extract 0 p1⟩] else []) ++ [repl]) ++ (if e1 < p2 then [⟨x.cps.extract e1 p2⟩] else []) ++ [repl]) ++ [⟨x.cps.extract e2 x.cps.size⟩])) t') { s with heap := h', toks := tk' }) :
    wpAny (model prog w) A (call (.builtin "re.Pattern.sub") [.ref a, .str repl rk, .str x tk]) Q E s := by
  have hl : ∀ i j, (x.cps.extract i j).size ≤ 1000 := fun i j => by
    have : x.cps.size ≤ 1000 := hx
    rw [Array.size_extract]; omega
  refine sub_call hp hr fun h1 D P1 => ?_
  refine sub_more hx (by simp) hp P1 f1 fun h2 tk2 P2 => ?_
  rw [n1]
  refine sub_more hx (by split <;> simp) hp P2 f2 fun h3 tk3 P3 => ?_
  rw [n2]
  refine sub_stop hx (by split <;> split <;> simp) hp P3 f3 he ?_ fun h4 tk4 t4 k4 => ?_
  · have a1 := hl 0 p1
    have a2 := hl e1 p2
    have a3 := hl e2 x.cps.size
    have a4 : repl.cps.size ≤ 10 := hrl
    simp only [List.map_append, List.sum_append, List.map_cons, List.map_nil, List.sum_cons, List.sum_nil, Str.length]
    split <;> split <;> simp at * <;> omega
  · have := h h4 tk4 t4 k4
    simpa using this
end
end
/-! Re3 -/
section
open PySem PySem.W PySem.Calls PyProof.Rows PySem.Builtin PySem.Builtin.Re
noncomputable def SL (l : List Nat) : Str := ⟨l.toArray⟩
theorem get5 (A E F B : List Nat) (c q : Nat) : (A ++ (E ++ (c :: (F ++ B)))).toArray.getD q 0 =
    if q < A.length then A[q]?.getD 0 else if q < A.length + E.length then E[q - A.length]?.getD 0 else if q = A.length + E.length then c
    else if q < A.length + E.length + 1 + F.length then F[q - (A.length + E.length + 1)]?.getD 0 else B[q - (A.length + E.length + 1 + F.length)]?.getD 0 := by
  rw [Array.getD_eq_getD_getElem?, List.getElem?_toArray]
  by_cases h1 : q < A.length
  · rw [if_pos h1, List.getElem?_append_left h1]
  · rw [if_neg h1, List.getElem?_append_right (by omega)]
    by_cases h2 : q < A.length + E.length
    · rw [if_pos h2, List.getElem?_append_left (by omega)]
    · rw [if_neg h2, List.getElem?_append_right (by omega)]
      by_cases h3 : q = A.length + E.length
      · rw [if_pos h3, show q - A.length - E.length = 0 by omega]; rfl
      · rw [if_neg h3, show q - A.length - E.length = (q - (A.length + E.length + 1)) + 1 by omega, List.getElem?_cons_succ]
        by_cases h4 : q < A.length + E.length + 1 + F.length
        · rw [if_pos h4, List.getElem?_append_left (by omega)]
        · rw [if_neg h4, List.getElem?_append_right (by omega)]
          congr 2; omega
theorem getE (A E F B : List Nat) (c i q : Nat) (h : i < E.length) (hq : q = A.length + i) : (A ++ (E ++ (c :: (F ++ B)))).toArray.getD q 0 = E[i]?.getD 0 := by
  subst hq
  rw [get5, if_neg (by omega), if_pos (by omega), show A.length + i - A.length = i by omega]
theorem getc (A E F B : List Nat) (c q : Nat) (hq : q = A.length + E.length) : (A ++ (E ++ (c :: (F ++ B)))).toArray.getD q 0 = c := by
  subst hq
  rw [get5, if_neg (by omega), if_neg (by omega), if_pos rfl]
theorem getF (A E F B : List Nat) (c i q : Nat) (h : i < F.length) (hq : q = A.length + E.length + 1 + i) : (A ++ (E ++ (c :: (F ++ B)))).toArray.getD q 0 = F[i]?.getD 0 := by
  subst hq
  rw [get5, if_neg (by omega), if_neg (by omega), if_neg (by omega), if_pos (by omega)]
  congr 2; omega
theorem getB (A E F B : List Nat) (c i q : Nat) (hq : q = A.length + E.length + 1 + F.length + i) : (A ++ (E ++ (c :: (F ++ B)))).toArray.getD q 0 = B[i]?.getD 0 := by
  subst hq
  rw [get5, if_neg (by omega), if_neg (by omega), if_neg (by omega), if_neg (by omega)]
  congr 2; omega
theorem getD_all {P : Nat → Bool} {l : List Nat} {q : Nat} (h : ∀ a ∈ l, P a = false) (hq : q < l.length) : P (l[q]?.getD 0) = false := by
  rw [List.getElem?_eq_getElem hq]; exact h _ (List.getElem_mem hq)
theorem at_of {t : Array Nat} {q v : Nat} (h : t.getD q 0 = v) (hq : q < t.size) : t[q] = v := by
  rw [Array.getD_eq_getD_getElem?, Array.getElem?_eq_getElem hq] at h; exact h
section
variable {A B E : List Nat} {c : Nat}
structure Q2 (A E B : List Nat) (c : Nat) : Prop where
  hE : E = [10] ∨ E = [13] ∨ E = [13, 10]
  hA : ∀ a ∈ A, nl2 a = false
  hB : ∀ a ∈ B, nl2 a = false
  hc : nl2 c = false
  hc2 : (c == 46) = false
  hA0 : A ≠ []
  hB0 : 2 ≤ B.length
noncomputable abbrev tx (A E : List Nat) (c : Nat) (B : List Nat) : List Nat := A ++ (E ++ (c :: (E ++ B)))
theorem Q2.first (h : Q2 A E B c) : Finds (Sre.forSearch code2 (tx A E c B).toArray 0 0 (tx A E c B).toArray.size false) (some (A.length, A.length + E.length)) := by
  unfold tx
  have hsz : (A ++ (E ++ (c :: (E ++ B)))).toArray.size = A.length + E.length + 1 + E.length + B.length := by simp; omega
  have hB := h.hB0
  have hq : ∀ q, 0 ≤ q → q < A.length → nl2 ((A ++ (E ++ (c :: (E ++ B)))).toArray.getD q 0) = false := fun q _ hq => by rw [get5, if_pos hq]; exact getD_all h.hA hq
  rcases h.hE with e | e | e <;> subst e <;> simp only [List.length_cons, List.length_nil] at hsz ⊢
  · exact find2_lf _ 0 A.length false (by omega) (by omega) hq (at_of (getE A [10] [10] B c 0 _ (by simp) (by omega)) (by omega))
  · refine find2_cr _ 0 A.length false (by omega) (by omega) hq (at_of (getE A [13] [13] B c 0 _ (by simp) (by omega)) (by omega)) ?_
    rw [at_of (getc A [13] [13] B c _ (by simp)) (by omega)]
    have := h.hc; unfold nl2 at this; rw [Bool.or_eq_false_iff] at this; exact this.1
  · exact find2_crlf _ 0 A.length false (by omega) (by omega) hq (at_of (getE A [13, 10] [13, 10] B c 0 _ (by simp) (by omega)) (by omega)) (at_of (getE A [13, 10] [13, 10] B c 1 _ (by simp) (by omega)) (by omega))
theorem Q2.second (h : Q2 A E B c) : Finds (Sre.forSearch code2 (tx A E c B).toArray 0 (A.length + E.length) (tx A E c B).toArray.size false) (some (A.length + E.length + 1, A.length + E.length + 1 + E.length)) := by
  unfold tx
  have hsz : (A ++ (E ++ (c :: (E ++ B)))).toArray.size = A.length + E.length + 1 + E.length + B.length := by simp; omega
  have hB := h.hB0
  have hq : ∀ q, A.length + E.length ≤ q → q < A.length + E.length + 1 → nl2 ((A ++ (E ++ (c :: (E ++ B)))).toArray.getD q 0) = false := fun q h1 h2 => by
    rw [get5, if_neg (by omega), if_neg (by omega), if_pos (by omega)]; exact h.hc
  rcases h.hE with e | e | e <;> subst e <;> simp only [List.length_cons, List.length_nil] at hsz hq ⊢
  · exact find2_lf _ _ _ false (by omega) (by omega) hq (at_of (getF A [10] [10] B c 0 _ (by simp) (by simp)) (by omega))
  · refine find2_cr _ _ _ false (by omega) (by omega) hq (at_of (getF A [13] [13] B c 0 _ (by simp) (by simp)) (by omega)) ?_
    rw [at_of (getB A [13] [13] B c 0 _ (by simp)) (by omega)]
    have := getD_all h.hB (q := 0) (by omega); unfold nl2 at this; rw [Bool.or_eq_false_iff] at this; exact this.1
  · exact find2_crlf _ _ _ false (by omega) (by omega) hq (at_of (getF A [13, 10] [13, 10] B c 0 _ (by simp) (by simp)) (by omega)) (at_of (getF A [13, 10] [13, 10] B c 1 _ (by simp) (by simp)) (by omega))
theorem Q2.third (h : Q2 A E B c) : Finds (Sre.forSearch code2 (tx A E c B).toArray 0 (A.length + E.length + 1 + E.length) (tx A E c B).toArray.size false) Option.none := by
  unfold tx
  have hsz : (A ++ (E ++ (c :: (E ++ B)))).toArray.size = A.length + E.length + 1 + E.length + B.length := by simp; omega
  refine find2_none _ _ false fun q h1 h2 => ?_
  rw [get5, if_neg (by omega), if_neg (by omega), if_neg (by omega), if_neg (by omega)]
  exact getD_all h.hB (by omega)

theorem sl_ext (l : List Nat) (i j : Nat) : (⟨l.toArray.extract i j⟩ : Str) = SL ((l.take j).drop i) := by
  unfold SL; simp [List.extract_toArray, List.drop_take]
theorem join0 (a b c d e : List Nat) : Txt.join ⟨#[]⟩ [SL a, SL b, SL c, SL d, SL e] = SL (a ++ (b ++ (c ++ (d ++ e)))) := by
  simp [Txt.join, PySem.Builtin.Str.glued, SL]
theorem join1 (b c d e : List Nat) : Txt.join ⟨#[]⟩ [SL b, SL c, SL d, SL e] = SL (b ++ (c ++ (d ++ e))) := by
  simp [Txt.join, PySem.Builtin.Str.glued, SL]
theorem Q2.val (h : Q2 A E B c) (r : List Nat) : Txt.join ⟨#[]⟩ ((((if 0 < A.length then [⟨(tx A E c B).toArray.extract 0 A.length⟩] else []) ++ [SL r]) ++ (if A.length + E.length < A.length + E.length + 1 then [⟨(tx A E c B).toArray.extract (A.length + E.length) (A.length + E.length + 1)⟩] else []) ++ [SL r]) ++
    [⟨(tx A E c B).toArray.extract (A.length + E.length + 1 + E.length) (tx A E c B).toArray.size⟩]) = SL (tx A r c B) := by
  have h0 : 0 < A.length := List.length_pos_iff.mpr h.hA0
  rw [if_pos h0, if_pos (by omega), sl_ext, sl_ext, sl_ext]
  simp only [List.cons_append, List.nil_append]
  rw [join0]
  congr 1
  unfold tx
  have e1 : List.drop 0 (List.take A.length (A ++ (E ++ c :: (E ++ B)))) = A := by simp
  have e2 : List.drop (A.length + E.length) (List.take (A.length + E.length + 1) (A ++ (E ++ c :: (E ++ B)))) = [c] := by
    rw [show A.length + E.length + 1 = A.length + (E.length + 1) by omega, List.take_length_add_append, List.take_length_add_append, List.drop_length_add_append]
    simp
  have e3 : List.drop (A.length + E.length + 1 + E.length) (List.take (A ++ (E ++ c :: (E ++ B))).toArray.size (A ++ (E ++ c :: (E ++ B)))) = B := by
    rw [List.size_toArray, List.take_length, show A.length + E.length + 1 + E.length = A.length + (E.length + (E.length + 1)) by omega, List.drop_length_add_append, List.drop_length_add_append]
    simp
  rw [e1, e2, e3]
  rfl
theorem nl_ne {a : Nat} (h : nl2 a = false) : (a == 10) = false := by unfold nl2 at h; rw [Bool.or_eq_false_iff] at h; exact h.1
noncomputable abbrev t1 (A : List Nat) (c : Nat) (B : List Nat) : List Nat := A ++ ([13, 10] ++ (c :: ([13, 10] ++ B)))
theorem t1_size : (t1 A c B).toArray.size = A.length + 5 + B.length := by simp; omega
theorem Q2.one1 (h : Q2 A E B c) (hA : A[0]?.getD 0 = 46) (hz : (t1 A c B).toArray.size ≤ 1000000) : Finds (Sre.forSearch code1 (t1 A c B).toArray 0 0 (t1 A c B).toArray.size false) (some (0, 1)) := by
  have h0 : 0 < A.length := List.length_pos_iff.mpr h.hA0
  have hs := t1_size (A := A) (B := B) (c := c)
  refine find1_some _ 0 0 false (by omega) (by omega) hz (fun q _ h => by omega) ?_
  unfold hit1
  rw [get5, if_pos h0, hA]; rfl
theorem Q2.one2 (h : Q2 A E B c) (hB : B[0]?.getD 0 = 46) (hz : (t1 A c B).toArray.size ≤ 1000000) : Finds (Sre.forSearch code1 (t1 A c B).toArray 0 1 (t1 A c B).toArray.size false) (some (A.length + 5, A.length + 6)) := by
  have h0 : 0 < A.length := List.length_pos_iff.mpr h.hA0
  have hs := t1_size (A := A) (B := B) (c := c)
  have hB2 := h.hB0
  refine find1_some _ 1 (A.length + 5) false (by omega) (by omega) hz (fun q h1 h2 => ?_) ?_
  · unfold hit1
    rw [show (q == 0) = false by simp; omega, Bool.false_or, Bool.and_eq_false_iff]
    by_cases e1 : q - 1 < A.length
    · left; rw [get5, if_pos e1]; exact getD_all (P := fun a => a == 10) (fun a ha => nl_ne (h.hA a ha)) e1
    · by_cases e2 : q - 1 = A.length
      · left; rw [getE A [13, 10] [13, 10] B c 0 _ (by simp) (by omega)]; rfl
      · by_cases e3 : q = A.length + 2
        · right; rw [getc A [13, 10] [13, 10] B c _ (by simpa using e3)]; exact h.hc2
        · by_cases e4 : q - 1 = A.length + 2
          · left; rw [getc A [13, 10] [13, 10] B c _ (by simpa using e4)]; exact nl_ne h.hc
          · left; rw [getF A [13, 10] [13, 10] B c 0 _ (by simp) (by simp; omega)]; rfl
  · unfold hit1
    rw [show (A.length + 5 == 0) = false by simp, Bool.false_or, getB A [13, 10] [13, 10] B c 0 (A.length + 5) (by simp), hB, getF A [13, 10] [13, 10] B c 1 (A.length + 5 - 1) (by simp) (by simp)]
    rfl
theorem Q2.one3 (h : Q2 A E B c) (hz : (t1 A c B).toArray.size ≤ 1000000) : Finds (Sre.forSearch code1 (t1 A c B).toArray 0 (A.length + 6) (t1 A c B).toArray.size false) Option.none := by
  have h0 : 0 < A.length := List.length_pos_iff.mpr h.hA0
  have hs := t1_size (A := A) (B := B) (c := c)
  have hB2 := h.hB0
  refine find1_none _ _ false hz (fun q h1 h2 => ?_) ?_
  · unfold hit1
    rw [show (q == 0) = false by simp; omega, Bool.false_or, getB A [13, 10] [13, 10] B c (q - 1 - (A.length + 5)) _ (by simp; omega)]
    rw [getD_all (P := fun a => a == 10) (fun a ha => nl_ne (h.hB a ha)) (by omega)]
    rfl
  · rw [show ((t1 A c B).toArray.size == 0) = false by rw [hs]; simp, Bool.false_or, getB A [13, 10] [13, 10] B c (B.length - 1) _ (by rw [hs]; simp; omega)]
    exact getD_all (P := fun a => a == 10) (fun a ha => nl_ne (h.hB a ha)) (by omega)
theorem Q2.val1 (h : Q2 A E B c) (hA : A[0]?.getD 0 = 46) (hB : B[0]?.getD 0 = 46) :
    Txt.join ⟨#[]⟩ ((((if 0 < 0 then [⟨(t1 A c B).toArray.extract 0 0⟩] else []) ++ [SL [46, 46]]) ++ (if 1 < A.length + 5 then [⟨(t1 A c B).toArray.extract 1 (A.length + 5)⟩] else []) ++ [SL [46, 46]]) ++
    [⟨(t1 A c B).toArray.extract (A.length + 6) (t1 A c B).toArray.size⟩]) = SL (t1 (46 :: A) c (46 :: B)) := by
  have h0 : 0 < A.length := List.length_pos_iff.mpr h.hA0
  have hB2 := h.hB0
  have hs := t1_size (A := A) (B := B) (c := c)
  obtain ⟨a, A', rfl⟩ : ∃ a A', A = a :: A' := List.exists_cons_of_ne_nil h.hA0
  obtain ⟨b, B', rfl⟩ : ∃ b B', B = b :: B' := List.exists_cons_of_ne_nil (fun q => by rw [q] at hB2; simp at hB2)
  simp only [List.getElem?_cons_zero, Option.getD_some] at hA hB
  subst hA hB
  rw [if_neg (by decide), if_pos (by omega), sl_ext, sl_ext]
  simp only [List.cons_append, List.nil_append]
  rw [join1]
  congr 1
  have e3 : List.drop ((46 :: A').length + 6) (List.take (46 :: (A' ++ 13 :: 10 :: c :: 13 :: 10 :: 46 :: B')).toArray.size (46 :: (A' ++ 13 :: 10 :: c :: 13 :: 10 :: 46 :: B'))) = B' := by
    rw [List.size_toArray, List.take_length, List.length_cons, show A'.length + 1 + 6 = (A'.length + 6) + 1 by omega, List.drop_succ_cons, List.drop_length_add_append]
    rfl
  have e2 : List.drop 1 (List.take ((46 :: A').length + 5) (46 :: (A' ++ 13 :: 10 :: c :: 13 :: 10 :: 46 :: B'))) = A' ++ [13, 10, c, 13, 10] := by
    rw [List.length_cons, show A'.length + 1 + 5 = (A'.length + 5) + 1 by omega, List.take_succ_cons, List.drop_succ_cons, List.take_length_add_append]
    rfl
  rw [e2, e3]
  simp
end
end
/-! Quo1 -/
theorem g_twin1 {w : World} : nsIn (KF w) mainGlobals (Str.ofString "_twin_re_1") = some (some (.ref 36)) := by rfl
theorem g_twin2 {w : World} : nsIn (KF w) mainGlobals (Str.ofString "_twin_re_2") = some (some (.ref 41)) := by rfl
theorem g_crlf {w : World} : nsIn (KF w) mainGlobals (Str.ofString "CRLF") = some (some (.str (Str.ofString "\r\n") 342)) := by rfl
theorem pat1 {w : World} {h : Heap} (X : (KF w).In h) : PatAt h 36 code1 :=
  ⟨⟨_, _, _, _, _, _, 35, _, _, _, _, X 36 _ (by rfl), rfl, rfl, rfl, X 35 _ (by rfl), rfl, by decide +kernel⟩⟩
theorem pat2 {w : World} {h : Heap} (X : (KF w).In h) : PatAt h 41 code2 :=
  ⟨⟨_, _, _, _, _, _, 40, _, _, _, _, X 41 _ (by rfl), rfl, rfl, rfl, X 40 _ (by rfl), rfl, by decide +kernel⟩⟩
theorem meth_re {w : World} {σ : Sto} {a : Addr} {code : Array Nat} (hp : ∀ h, (KF w).In h → PatAt h a code) : Meth (.ref a) "sub" "re.Pattern.sub" w σ := by
  intro M A g L m s c pl Q hc R h
  cases hc
  obtain ⟨mg, mb, X, _⟩ := R.world
  have P := hp _ X
  obtain ⟨o, oc, src, fl, g4, g5, C, t2, t6, items, n, ho, hcl, hdn, hd, hoc, hdc, hcode⟩ := P.ex
  exact getMethod_builtin (re_typeIs P rfl) plainAttrs_re slot_re_sub type_re_sub (fun a ea => by cases ea; exact ⟨o, ho, hdn⟩) h
section
variable {prog : Program} {w : World} {n : Nat} {L : Addr} {m : Loc} {σ : Sto} {P : AV → Loc → Sto → Prop}
theorem crlf_eq : Str.ofString "\r\n" = SL [13, 10] := by decide +kernel
theorem dots_eq : Str.ofString ".." = SL [46, 46] := by decide +kernel
theorem b_sub2 {A E B : List Nat} {c : Nat} (hq : Q2 A E B c) (hz : (tx A E c B).length ≤ 1000) (h : P (.str (SL (t1 A c B))) m σ) :
    ∀ o ws, VR (.ref 41) o → VRs [.str (Str.ofString "\r\n"), .str (SL (tx A E c B))] ws → TE prog w n L m σ (call (.builtin "re.Pattern.sub") (o :: ws)) P := by
  rintro o _ ho (_ | ⟨h1, _ | ⟨h2, _ | _⟩⟩) g Ar s Q hA R k
  cases ho; cases h1; cases h2
  obtain ⟨mg, mb, X, _⟩ := R.world
  have hz' : (SL (tx A E c B)).length ≤ 1000 := hz
  rw [crlf_eq]
  refine sub_two (pat2 X) (by decide +kernel) hz' (by decide) hq.first (by rcases hq.hE with e | e | e <;> simp [e]) hq.second (by rcases hq.hE with e | e | e <;> simp [e]) hq.third ?_ fun h' tk' t' hk => ?_
  · have := hq.hB0
    show _ < (tx A E c B).toArray.size
    simp; omega
  · have := hq.val [13, 10]
    rw [show SL [13, 10] = SL [13, 10] from rfl] at this
    have e2 := this
    refine k (.str (SL (t1 A c B))) _ m σ h' tk' h ?_ (R.keeps hk)
    rw [show SL (t1 A c B) = SL (tx A [13, 10] c B) from rfl, ← this]
    exact .str _ _
theorem b_sub1 {A E B : List Nat} {c : Nat} (hq : Q2 A E B c) (hA : A[0]?.getD 0 = 46) (hB : B[0]?.getD 0 = 46) (hz : (t1 A c B).length ≤ 1000) (h : P (.str (SL (t1 (46 :: A) c (46 :: B)))) m σ) :
    ∀ o ws, VR (.ref 36) o → VRs [.str (Str.ofString ".."), .str (SL (t1 A c B))] ws → TE prog w n L m σ (call (.builtin "re.Pattern.sub") (o :: ws)) P := by
  rintro o _ ho (_ | ⟨h1, _ | ⟨h2, _ | _⟩⟩) g Ar s Q hA' R k
  cases ho; cases h1; cases h2
  obtain ⟨mg, mb, X, _⟩ := R.world
  have hz' : (SL (t1 A c B)).length ≤ 1000 := hz
  have hz2 : (t1 A c B).toArray.size ≤ 1000000 := Nat.le_trans hz (by decide)
  rw [dots_eq]
  refine sub_two (pat1 X) (by decide +kernel) hz' (by decide) (hq.one1 hA hz2) (by decide) (hq.one2 hB hz2) (by simp) (hq.one3 hz2) ?_ fun h' tk' t' hk => ?_
  · have := hq.hB0
    have hs := t1_size (A := A) (B := B) (c := c)
    show _ < (t1 A c B).toArray.size
    omega
  · have := hq.val1 hA hB
    refine k (.str (SL (t1 (46 :: A) c (46 :: B)))) _ m σ h' tk' h ?_ (R.keeps hk)
    rw [← this]
    exact .str _ _
theorem c_quotedata {N : Nat} {A E B : List Nat} {c : Nat} (hq : Q2 A E B c) (hA : A[0]?.getD 0 = 46) (hB : B[0]?.getD 0 = 46) (hz : A.length + B.length ≤ 900)
    (h : P (.str (SL (t1 (46 :: A) c (46 :: B)))) m σ) : ∀ ws, VRs [.str (SL (tx A E c B))] ws → TE prog w (N + 1) L m σ (call (.ref 48) ws) P := by
  refine call_def (f := 48) (xs := ["data"]) (by rfl) (by rfl) (fun ws hws => ?_) ?_ ?_ (fun L' => ?_)
  · rcases hws with _ | ⟨_, _ | _⟩; rfl
  · decide
  · decide
  · have hE2 : E.length ≤ 2 := by rcases hq.hE with e | e | e <;> simp [e]
    simp only [bnd]
    repeat walk_at "st"
    refine e_meth (id := "re.Pattern.sub") ?_
    refine e_global g_twin1 (.ref _) ?_
    refine ⟨meth_re fun _ => pat1, ?_⟩
    repeat walk_at "st"
    refine e_meth (id := "re.Pattern.sub") ?_
    refine e_global g_twin2 (.ref _) ?_
    refine ⟨meth_re fun _ => pat2, ?_⟩
    repeat walk_at "st"
    refine e_global g_crlf (.str _ _) ?_
    repeat walk_at "st"
    refine b_sub2 hq (by simp; omega) ?_
    repeat walk_at "st"
    refine b_sub1 hq hA hB (by simp; omega) ?_
    exact h
end
/-! Str1 -/
/-- what a value holds, all the way down -/
noncomputable def Rd (σ : Sto) (v : AV) (d : PyData) : Prop := ∀ (w : World) (g : Frm) (L : Addr) (m : Loc) (h : Heap) (c : Value), Rel w g L m σ h → VR v c → ∃ as, Reads h c d as
inductive Rds (σ : Sto) : List AV → List PyData → Prop
  | nil : Rds σ [] []
  | cons {v d vs ds} : Rd σ v d → Rds σ vs ds → Rds σ (v :: vs) (d :: ds)
theorem Rd.int {σ : Sto} {i : Int} : Rd σ (.int i) (.int i) := fun w g L m h c R r => by cases r; exact ⟨_, Reads.int _ _⟩
theorem Rd.str {σ : Sto} {x : Str} : Rd σ (.str x) (.str x) := fun w g L m h c R r => by cases r; exact ⟨_, Reads.str _ _⟩
theorem Rds.all {σ : Sto} {vs : List AV} {ds : List PyData} (h : Rds σ vs ds) : ∀ {w : World} {g : Frm} {L : Addr} {m : Loc} {hp : Heap} {ws : List Value}, Rel w g L m σ hp → VRs vs ws → ∃ as, ReadsAll hp ws ds as := by
  induction h with
  | nil => intro w g L m hp ws R r; cases r; exact ⟨_, ReadsAll.nil⟩
  | cons h _ ih =>
    intro w g L m hp ws R r
    cases r with
    | cons r rs =>
      obtain ⟨as, q⟩ := h w g L m hp _ R r
      obtain ⟨bs, p⟩ := ih R rs
      exact ⟨_, ReadsAll.cons q p⟩
theorem Rd.list {σ : Sto} {l : Addr} {vs : List AV} {ds : List PyData} (e : σ l = some (.list vs)) (h : Rds σ vs ds) : Rd σ (.ref l) (.list ds) := fun w g L m hp c R r => by
  cases r
  obtain ⟨ws, n, e1, r, hl⟩ := R.list e
  obtain ⟨as, q⟩ := h.all R r
  exact ⟨_, reads_list_at e1 rfl rfl (by simpa using q)⟩
theorem Rd.tup {σ : Sto} {l : Addr} {vs : List AV} {ds : List PyData} (e : σ l = some (.tup vs)) (h : Rds σ vs ds) : Rd σ (.ref l) (.tuple ds) := fun w g L m hp c R r => by
  cases r
  obtain ⟨ws, n, e1, r, hl⟩ := R.tup e
  obtain ⟨as, q⟩ := h.all R r
  exact ⟨_, reads_tuple_at e1 rfl rfl (by simpa using q)⟩
section
variable {prog : Program} {w : World} {n : Nat} {L : Addr} {m : Loc} {σ : Sto}
theorem AOk.room {A : Around} (h : AOk n A) (hn : 16 ≤ n) : A.units + 64 < cLine := by
  have := h.2.2
  show A.units + 64 < 9900
  omega
theorem q_eqD {x y : AV} {d : PyData} {P : Bool → Loc → Sto → Prop} (hx : Rd σ x d) (hy : Rd σ y d) (hd : SeqAt.shaped d = true) (hn : 16 ≤ n) (h : P true m σ) :
    ∀ a b, VR x a → VR y b → TE prog w n L m σ (compareOp .Eq a b) (fun c m σ => ∃ d, c = .bool d ∧ P d m σ) := by
  intro a b ha hb g A s Q hA R k
  obtain ⟨as, ra⟩ := hx w g L m _ _ R ha
  obtain ⟨bs, rb⟩ := hy w g L m _ _ R hb
  refine eq_dataH ra rb hd hd (hA.room hn) ?_
  rw [SeqAt.eqv_refl d (SeqAt.canLay_of_shaped hd)]
  have := k (.bool _) _ m σ s.heap s.toks ⟨_, rfl, h⟩ (.bool true) R; exact this
theorem q_neD {x y : AV} {d : PyData} {P : Bool → Loc → Sto → Prop} (hx : Rd σ x d) (hy : Rd σ y d) (hd : SeqAt.shaped d = true) (hn : 16 ≤ n) (h : P false m σ) :
    ∀ a b, VR x a → VR y b → TE prog w n L m σ (compareOp .NotEq a b) (fun c m σ => ∃ d, c = .bool d ∧ P d m σ) := by
  intro a b ha hb g A s Q hA R k
  obtain ⟨as, ra⟩ := hx w g L m _ _ R ha
  obtain ⟨bs, rb⟩ := hy w g L m _ _ R hb
  refine ne_dataH ra rb hd hd (hA.room hn) ?_
  rw [SeqAt.eqv_refl d (SeqAt.canLay_of_shaped hd)]
  have := k (.bool _) _ m σ s.heap s.toks ⟨_, rfl, h⟩ (.bool false) R; exact this
-- ### strings
variable {P : AV → Loc → Sto → Prop}
theorem o_addS {x y : Str} (hz : x.length + y.length ≤ 100000) (h : P (.str (x ++ y)) m σ) : ∀ a b, VR (.str x) a → VR (.str y) b → TE prog w n L m σ (binaryOp .Add a b) P := by
  intro a b ha hb g A s Q hA R k; cases ha; cases hb
  exact PyProof.Rows.add_str (fun t' tk => k _ _ m σ s.heap tk h (.str _ _) R) (by rw [sizeLine_eq]; omega)
theorem SL_add (a b : List Nat) : SL a ++ SL b = SL (a ++ b) := by
  show (⟨a.toArray ++ b.toArray⟩ : Str) = ⟨(a ++ b).toArray⟩
  simp
theorem o_addL {x y : Str} {a b : List Nat} (hx : x = SL a) (hy : y = SL b) (hz : a.length + b.length ≤ 100000) (h : P (.str (SL (a ++ b))) m σ) : ∀ u v, VR (.str x) u → VR (.str y) v → TE prog w n L m σ (binaryOp .Add u v) P := by
  subst hx hy
  refine o_addS hz ?_
  rw [SL_add]; exact h
theorem b_chr {i : Int} {c : Nat} (hi : i = c) (hc : c < 1000) (h : P (.str (SL [c])) m σ) : ∀ ws, VRs [.int i] ws → TE prog w n L m σ (call (.builtin "chr") ws) P := by
  subst hi
  rintro _ (_ | ⟨hv, _ | _⟩) g A s Q hA R k
  cases hv
  refine PySem.P.chr_of_int (by rw [decide_eq_false (by omega), decide_eq_false (by omega)]; rfl) ?_
  exact k _ _ m σ s.heap _ h (.str _ _) R
theorem meth_str {x : Str} {name : Str} {id : String} (slot : Slot "str" name id) (hty : typeOf (.builtin id) = pure (.type "method_descriptor")) : Meth (.str x) name id w σ := by
  intro M A g L m s c pl Q hc R h
  cases hc
  exact getMethod_builtin (typeIs_str _ _ _) PySem.F.plainAttrs_str slot hty (fun a e => nomatch e) h
theorem y_str {x : Str} {Q : Bool → Loc → Sto → Prop} (hz : x.length ≤ 100000) (h : Q ((x.length : Int) != 0) m σ) : ∀ a, VR (.str x) a → TB prog w n L m σ (truthy a) Q := by
  intro a ha g A s Q' hA R k; cases ha
  refine PySem.P.truthy_str (by omega) ?_
  exact k _ _ m σ s.heap _ h rfl R
theorem in_one {c : Nat} {r : List Nat} {P : Bool → Loc → Sto → Prop} (h : P (decide (c ∈ r)) m σ) : ∀ a b, VR (.str (SL [c])) a → VR (.str (SL r)) b → TE prog w n L m σ (compareOp .In a b) (fun c m σ => ∃ d, c = .bool d ∧ P d m σ) := by
  intro a b ha hb g A s Q hA R k; cases ha; cases hb
  refine PyProof.Rows.in_str ?_
  rw [show SL [c] = ⟨#[c]⟩ from rfl, StrLaws.found_one]
  have := k (.bool _) _ m σ s.heap s.toks ⟨_, rfl, h⟩ (.bool (decide (c ∈ r))) R; exact this
theorem notin_one {c : Nat} {r : List Nat} {P : Bool → Loc → Sto → Prop} (h : P (!decide (c ∈ r)) m σ) : ∀ a b, VR (.str (SL [c])) a → VR (.str (SL r)) b → TE prog w n L m σ (compareOp .NotIn a b) (fun c m σ => ∃ d, c = .bool d ∧ P d m σ) := by
  intro a b ha hb g A s Q hA R k; cases ha; cases hb
  refine PyProof.Rows.notIn_str ?_
  rw [show SL [c] = ⟨#[c]⟩ from rfl, StrLaws.found_one]
  have := k (.bool _) _ m σ s.heap s.toks ⟨_, rfl, h⟩ (.bool (!decide (c ∈ r))) R; exact this
theorem gives_find4 (x y : Str) (i j : Int) (t u v z : Tok) : PySem.Gives (Builtin.«str.find» ⟨[.str x t, .str y u, .int i v, .int j z], []⟩) (.int (match Builtin.Str.occurrences x y (fromIndex x.length i) (min (fromIndex x.length j) x.length) 1 with | k :: _ => (k : Int) | [] => -1)) := by
  show PySem.Gives (match Builtin.Str.occurrences x y (fromIndex x.length i) (min (fromIndex x.length j) x.length) 1 with | k :: _ => PySem.retInt k | [] => (do rule "str.find.not-found"; PySem.retInt (-1))) _
  cases Builtin.Str.occurrences x y (fromIndex x.length i) (min (fromIndex x.length j) x.length) 1 with
  | nil => exact .rule (.of_eq rfl)
  | cons k _ => exact .of_eq rfl
theorem b_find {x y : Str} {i : Int} {v : Int} {lo : Nat} (hi : i = lo) (hv : (match Builtin.Str.occurrences x y lo x.length 1 with | k :: _ => (k : Int) | [] => -1) = v) (h : P (.int v) m σ) :
    ∀ c ws, VR (.str x) c → VRs [.str y, .int i, .int x.length] ws → TE prog w n L m σ (call (.builtin "str.find") (c :: ws)) P := by
  subst hi
  rintro _ _ hx (_ | ⟨h1, _ | ⟨h2, _ | ⟨h3, _ | _⟩⟩⟩) g A s Q hA R k
  cases hx; cases h1; cases h2; cases h3
  refine call_gives PySem.F.slot_str_find (typeIs_str _ _ _) PySem.F.entry_str_find (PySem.F.args_str_find_4 _ _ _ _) (gives_find4 _ _ _ _ _ _ _ _) ?_
  have e1 : fromIndex x.length ((lo : Nat) : Int) = lo := by unfold fromIndex; rw [if_neg (by omega)]; omega
  have e2 : min (fromIndex x.length ((x.length : Nat) : Int)) x.length = x.length := by unfold fromIndex; rw [if_neg (by omega)]; omega
  rw [e1, e2, hv]
  exact k _ _ m σ s.heap _ h (.int _ _) R
theorem lstrip_eq (d : Nat) (wd : List Nat) (hw : wd.head? ≠ some 46) : Txt.lstripChars (SL (List.replicate d 46 ++ wd)) (SL [46]) = SL wd := by
  have h1 : stripLo (SL [46]).cps.contains true (SL (List.replicate d 46 ++ wd)) = d := by
    unfold stripLo SL
    simp only [if_true]
    have : ∀ d, (List.takeWhile (Array.contains [46].toArray) (List.replicate d 46 ++ wd)).length = d := by
      intro d
      induction d with
      | zero =>
        cases wd with
        | nil => rfl
        | cons a l =>
          have : a ≠ 46 := fun q => hw (by rw [q]; rfl)
          simp [List.takeWhile_cons, this]
      | succ d ih => rw [List.replicate_succ, List.cons_append, List.takeWhile_cons]; simp at ih ⊢; omega
    exact this d
  have h2 : stripHi (SL [46]).cps.contains false (SL (List.replicate d 46 ++ wd)) d = (SL (List.replicate d 46 ++ wd)).length := by unfold stripHi; rfl
  unfold Txt.lstripChars Txt.stripBy
  by_cases hs : stripSame (SL [46]).cps.contains true false (SL (List.replicate d 46 ++ wd)) = true
  · rw [if_pos hs]
    unfold stripSame at hs
    rw [h1] at hs
    have : d = 0 := by simp at hs; exact hs.1
    subst this; rfl
  · rw [if_neg hs]
    unfold PySem.stripped
    rw [h1, h2]
    unfold Builtin.Str.strSub
    show (⟨(List.replicate d 46 ++ wd).toArray.extract d (List.replicate d 46 ++ wd).toArray.size⟩ : Str) = _
    rw [sl_ext, List.size_toArray, List.take_length]
    congr 1
    rw [List.drop_append_of_le_length (by simp)]; simp
theorem b_lstrip {d : Nat} {wd : List Nat} (hw : wd.head? ≠ some 46) (hz : d + wd.length ≤ 10000) (h : P (.str (SL wd)) m σ) : ∀ c ws, VR (.str (SL (List.replicate d 46 ++ wd))) c → VRs [.str (SL [46])] ws → TE prog w n L m σ (call (.builtin "str.lstrip") (c :: ws)) P := by
  rintro _ _ hx (_ | ⟨h1, _ | _⟩) g A s Q hA R k
  cases hx; cases h1
  refine SC.lstripChars (fun t' tk => ?_) ?_
  · rw [lstrip_eq d wd hw]; exact k _ _ m σ s.heap _ h (.str _ _) R
  · show (List.replicate d 46 ++ wd).toArray.size ≤ _
    rw [sizeLine_eq]; simp; omega
theorem vrs_strs : ∀ (t : Nat) (xs : List Str), VRs (xs.map AV.str) (strsFrom t xs)
  | _, [] => .nil
  | t, x :: xs => .cons (.str _ _) (vrs_strs (t + 1) xs)
theorem b_split {x y : Str} {parts : List Str} (h1 : (decide (x.length < y.length) || decide (Builtin.Str.strKind x < Builtin.Str.strKind y)) = false) (hy : (y.length == 0) = false)
    (hf : (Builtin.Str.occurrences x y 0 x.length (x.length + 1)).isEmpty = false) (hp : Builtin.Str.partsBetween x (Builtin.Str.occurrences x y 0 x.length (x.length + 1)) y.length = parts) (hx : x.length ≤ 100000) (hpl : parts.length ≤ 100000)
    (h : ∀ r, σ r = Option.none → P (.ref r) m (upS σ r (.list (parts.map .str)))) : ∀ c ws, VR (.str x) c → VRs [.str y] ws → TE prog w n L m σ (call (.builtin "str.split") (c :: ws)) P := by
  rintro _ _ hxx (_ | ⟨hyy, _ | _⟩) g A s Q hA R k
  cases hxx; cases hyy
  refine call_meets PySem.F.slot_str_split (typeIs_str _ _ _) PySem.F.entry_str_split (PySem.F.args_str_split_2 _ _) (meets_str_split_sep x y _ _ h1 hy hf (by rw [sizeLine_eq]; omega) (by rw [hp, sizeLine_eq]; omega)) ?_
  show wants Q NoE _ { s with toks := _, heap := s.heap.push { cls := .type "list", data := .seq (strsFrom s.toks (Builtin.Str.partsBetween x (Builtin.Str.occurrences x y 0 x.length (x.length + 1)) y.length)).toArray } }
  rw [hp]
  exact k _ _ _ _ _ _ (h _ R.fresh) (.ref _) (R.push (o := listO (strsFrom s.toks parts) 0) (.list 0 (vrs_strs _ _)) rfl)
theorem o_mulS {c k : Nat} {i : Int} (hi : i = k) (hk : k ≤ 1000) (h : P (.str (SL (List.replicate k c))) m σ) : ∀ a b, VR (.str (SL [c])) a → VR (.int i) b → TE prog w n L m σ (binaryOp .Mult a b) P := by
  subst hi
  intro a b ha hb g A s Q hA R kk; cases ha; cases hb
  have e : Txt.mul (SL [c]) (k : Int) = SL (List.replicate k c) := by
    have := mul_one_list c (k : Int)
    rw [show SL [c] = ⟨#[c]⟩ from rfl]
    generalize Txt.mul ⟨#[c]⟩ (k : Int) = z at this
    obtain ⟨⟨l⟩⟩ := z
    simp only [Int.toNat_natCast] at this
    subst this; rfl
  refine SB.mul (n := (k : Int)) ?_ fun t' tk => ?_
  · refine ⟨by rw [decide_eq_false (by omega), decide_eq_false (by omega)]; rfl, fun h1 h2 => ?_, fun h1 h2 => ?_⟩
    · show ¬ (((1 : Nat) : Int) > _)
      have h0 : (0 : Int) < k := by omega
      have : (1 : Int) ≤ (2 ^ 63 - 1) / (k : Int) := by rw [Int.le_ediv_iff_mul_le h0]; omega
      omega
    · show decide _ = false
      have : (SL [c]).length * (k : Int).toNat = k := by show 1 * _ = _; simp
      rw [this]
      exact decide_eq_false (by rw [sizeLine_eq]; omega)
  · rw [e]; exact kk _ _ m σ s.heap _ h (.str _ _) R
end
/-! Ell0 -/
noncomputable def letters : List Nat := [97, 98, 99, 100, 101]
theorem ell_in : ∀ c ∈ letters, (Builtin.Str.occurrences (SL [46, 46, 46, c, 46, 46, 46]) (SL [46, 46, 46]) 0 7 1).isEmpty = false := by decide +kernel
theorem ell_occ : ∀ c ∈ letters, Builtin.Str.occurrences (SL [46, 46, 46, c, 46, 46, 46]) (SL [46, 46, 46]) 0 7 8 = [0, 4] := by decide +kernel
theorem ell_parts : ∀ c ∈ letters, Builtin.Str.partsBetween (SL [46, 46, 46, c, 46, 46, 46]) [0, 4] 3 = [SL [], SL [c], SL []] := by decide +kernel
theorem find_empty (r : List Nat) (lo : Nat) (h : lo ≤ r.length) : (match Builtin.Str.occurrences (SL r) (SL []) lo (SL r).length 1 with | k :: _ => (k : Int) | [] => -1) = (lo : Int) := by
  have hAt : StrLaws.At (SL r) (SL []) (SL r).length lo := ⟨h, by
    have e : (SL r).cps.extract lo (lo + 0) = #[] := by apply Array.eq_empty_of_size_eq_zero; rw [Array.size_extract]; omega
    show ((SL r).cps.extract lo (lo + 0) == #[]) = true
    rw [e]; rfl⟩
  rcases StrLaws.occ_head_from (SL r) (SL []) lo 1 (by decide) with ⟨e, hn⟩ | ⟨i, rest, e, hi, hA, hn⟩
  · exact absurd hAt (hn lo (Nat.le_refl _))
  · rw [e]
    have : i = lo := by
      rcases Nat.lt_or_ge lo i with q | q
      · exact absurd hAt (hn lo (Nat.le_refl _) q)
      · omega
    subst this; rfl
theorem find_one (r : List Nat) (c : Nat) : (c ∈ r → ∃ i : Nat, i < r.length ∧ (match Builtin.Str.occurrences (SL r) (SL [c]) 0 (SL r).length 1 with | k :: _ => (k : Int) | [] => -1) = (i : Int)) ∧
    (c ∉ r → (match Builtin.Str.occurrences (SL r) (SL [c]) 0 (SL r).length 1 with | k :: _ => (k : Int) | [] => -1) = -1) := by
  have hAt : ∀ i, StrLaws.At (SL r) (SL [c]) (SL r).length i ↔ r[i]? = some c := fun i => StrLaws.subAt_one (SL r) c i
  rcases StrLaws.occ_head_from (SL r) (SL [c]) 0 1 (by decide) with ⟨e, hn⟩ | ⟨i, rest, e, hi, hA, hn⟩
  · rw [e]
    refine ⟨fun hc => ?_, fun _ => rfl⟩
    obtain ⟨j, hj⟩ := List.getElem?_of_mem hc
    exact absurd ((hAt j).mpr hj) (hn j (Nat.zero_le _))
  · rw [e]
    have h1 := (hAt i).mp hA
    refine ⟨fun _ => ⟨i, (List.getElem?_eq_some_iff.mp h1).1, rfl⟩, fun hc => absurd (List.mem_of_getElem? h1) hc⟩
section
variable {prog : Program} {w : World} {n : Nat} {L : Addr} {m : Loc} {σ : Sto} {env : Env}
theorem e_neg {e : Expr} {pos : Pos} {P : AV → Loc → Sto → Prop} (h : TE prog w n L m σ (eval e env) (fun v m1 σ1 => ∃ i, v = .int i ∧ P (.int (-i)) m1 σ1)) : TE prog w n L m σ (eval (.UnaryOp .USub e pos) env) P :=
  fun g A s Q hA R k => UnaryOp_ (h g A s _ hA R fun x a m1 σ1 h1 t1 p1 r1 R1 => by
    obtain ⟨i, rfl, p⟩ := p1
    cases r1
    exact PyProof.Rows.neg_int (k _ _ m1 σ1 _ _ p (.int _ _) R1))
theorem s_assign2s {x y : Str} {p1 p2 tp pos : Pos} {c : Nat} {value : Expr} {P : AFl → Loc → Sto → Prop}
    (h : TE prog w n L m σ (eval value env) (fun v m1 σ1 => ∃ t a b, v = .ref t ∧ σ1 t = some (.tup [a, b]) ∧ P .next (upL (upL m1 y b) x a) σ1))
    (h1 : swapsWithSole [.Tuple [.Name x p1, .Name y p2] c tp] value pos.line env = pure false := by rfl)
    (h2 : swappedStores [.Tuple [.Name x p1, .Name y p2] c tp] value env = pure (some [x, y]) := by rfl)
    (hL : env.locals = L := by rfl) (hk : env.scope.kind = .function := by rfl) (hx : env.kindOf x = some .local := by rfl) (hy : env.kindOf y = some .local := by rfl) :
    TF prog w n L m σ (exec (.Assign [.Tuple [.Name x p1, .Name y p2] c tp] value pos) env) P := by
  intro g A s Q hA R k
  refine Assign_Tuple_swapped (h g A s _ hA R fun v d m1 σ1 h1 t1 p1 r1 R1 => ?_) h1 h2
  obtain ⟨t, a, b, rfl, e, hP⟩ := p1
  cases r1
  obtain ⟨ws, nn, e1, r, ht⟩ := R1.tup e
  rcases r with _ | ⟨ra, _ | ⟨rb, _ | _⟩⟩
  rename_i ca cb
  show wpAny _ A (unpackItems (.ref t) (#[ca, cb] : Array Value).size none) _ _ _
  refine unpackItems_tuple (items := #[ca, cb]) hA.1 ⟨_, e1, rfl, _, rfl⟩ fun h2 he => ?_
  have R2 : Rel w g L m1 σ1 h2 := R1.keeps fun b o e => he b o (Nat.ne_of_lt (Heap.lt_size e)) e
  show wpAny _ _ (assignInOrder [bindName env y, bindName env x] [cb, ca]) _ _ _
  refine wpAny_bind (wpAny_holding (bindName_ ?_))
  refine s_store (P := fun _ m2 σ2 => P .next (upL m2 x a) σ2) rb hP hL hk hy g A _ _ hA R2 fun _ _ m3 σ3 h3 t3 p3 _ R3 => ?_
  refine wpAny_bind (wpAny_holding (bindName_ ?_))
  refine s_store (P := fun _ m2 σ2 => P .next m2 σ2) ra p3 hL hk hx g A _ _ hA R3 fun _ _ m4 σ4 h4 t4 p4 _ R4 => ?_
  exact wpAny_pure (by have := k _ _ _ _ _ t4 p4 .next R4; exact this)
end
local macro_rules | `(tactic| walk_at "st") => `(tactic| ((with_reducible show Tr _ _ _ _ _ _ _ (eval (Expr.UnaryOp UnaryOp.USub _ _) _) _); refine e_neg ?_))
/-! Ell1 -/
theorem dots3 : Str.ofString "..." = SL [46, 46, 46] := by decide +kernel
theorem g_ell {w : World} : nsIn (KF w) mainGlobals (Str.ofString "ELLIPSIS_MARKER") = some (some (.str (Str.ofString "...") 446)) := by rfl
section
variable {prog : Program} {w : World} {n : Nat} {L : Addr} {m : Loc} {σ : Sto} {P : AV → Loc → Sto → Prop}
theorem notin_ell {c : Nat} (hc : c ∈ letters) {P : Bool → Loc → Sto → Prop} (h : P false m σ) : ∀ a b, VR (.str (SL [46, 46, 46])) a → VR (.str (SL [46, 46, 46, c, 46, 46, 46])) b → TE prog w n L m σ (compareOp .NotIn a b) (fun c m σ => ∃ d, c = .bool d ∧ P d m σ) := by
  intro a b ha hb g A s Q hA R k; cases ha; cases hb
  refine PyProof.Rows.notIn_str ?_
  rw [show (SL [46, 46, 46, c, 46, 46, 46]).length = 7 from rfl, ell_in c hc]
  have := k (.bool _) _ m σ s.heap s.toks ⟨_, rfl, h⟩ (.bool false) R; exact this
theorem c_ellipsis {N : Nat} {c : Nat} {r : List Nat} (hc : c ∈ letters) (hr : r.length ≤ 1000)
    (h : ∀ σ', (∀ b o, σ b = some o → σ' b = some o) → P (.bool (decide (c ∈ r))) m σ') :
    ∀ ws, VRs [.str (SL [46, 46, 46, c, 46, 46, 46]), .str (SL r)] ws → TE prog w (N + 1) L m σ (call (.ref 104) ws) P := by
  refine call_def (f := 104) (xs := ["want", "got"]) (by rfl) (by rfl) (fun ws hws => ?_) ?_ ?_ (fun L' => ?_)
  · rcases hws with _ | ⟨_, _ | ⟨_, _ | _⟩⟩; rfl
  · decide
  · decide
  · simp only [bnd]
    repeat walk_at "st"
    refine e_global g_ell (v := .str (SL [46, 46, 46])) (by rw [← dots3]; exact .str _ _) ?_
    repeat walk_at "st"
    refine notin_ell hc ?_
    refine ⟨fun e => by simp at e, fun _ => ?_⟩
    repeat walk_at "st"
    refine e_meth (id := "str.split") ?_
    repeat walk_at "st"
    refine ⟨meth_str PySem.F.slot_str_split (by rfl), ?_⟩
    repeat walk_at "st"
    refine e_global g_ell (v := .str (SL [46, 46, 46])) (by rw [← dots3]; exact .str _ _) ?_
    repeat walk_at "st"
    refine b_split (parts := [SL [], SL [c], SL []]) ?_ (by decide) ?_ ?_ (by show 7 ≤ 100000; decide) (by simp) fun W hW => ?_
    · have : ∀ c ∈ letters, (decide ((SL [46, 46, 46, c, 46, 46, 46]).length < (SL [46, 46, 46]).length) || decide (Builtin.Str.strKind (SL [46, 46, 46, c, 46, 46, 46]) < Builtin.Str.strKind (SL [46, 46, 46]))) = false := by decide +kernel
      exact this c hc
    · rw [show (SL [46, 46, 46, c, 46, 46, 46]).length = 7 from rfl, ell_occ c hc]; rfl
    · rw [show (SL [46, 46, 46, c, 46, 46, 46]).length = 7 from rfl, ell_occ c hc]; exact ell_parts c hc
    have eW : upS σ W (AO.list (List.map AV.str [SL [], SL [c], SL []])) W = some (.list [.str (SL []), .str (SL [c]), .str (SL [])]) := upS_eq
    have kW : ∀ b o, σ b = some o → upS σ W (AO.list (List.map AV.str [SL [], SL [c], SL []])) b = some o := fun b o e => upS_old hW e
    generalize upS σ W (AO.list (List.map AV.str [SL [], SL [c], SL []])) = σ1 at eW kW ⊢
    repeat walk_at "st"
    refine e_builtin g_len rfl (.fn _) ?_
    repeat walk_at "st"
    refine b_lenL eW (by simp) ?_
    repeat walk_at "st"
    refine ⟨rfl, ?_⟩
    repeat walk_at "st"
    refine s_assign2s ?_
    repeat walk_at "st"
    refine e_builtin g_len rfl (.fn _) ?_
    repeat walk_at "st"
    refine b_lenS (by show (r.length : Int) < _; omega) ?_
    repeat walk_at "st"
    refine ⟨by show 2 ≤ sizeLine; decide, fun T hT => ?_⟩
    refine ⟨T, _, _, rfl, upS_eq, ?_⟩
    have eW2 : upS σ1 T (.tup [.int 0, .int (SL r).length]) W = some (.list [.str (SL []), .str (SL [c]), .str (SL [])]) := upS_old hT eW
    have kW2 : ∀ b o, σ b = some o → upS σ1 T (.tup [.int 0, .int (SL r).length]) b = some o := fun b o e => upS_old hT (kW b o e)
    generalize upS σ1 T (.tup [.int 0, .int (SL r).length]) = σ2 at eW2 kW2 ⊢
    repeat walk_at "st"
    refine x_item (v := .str (SL [])) eW2 (by decide) (by decide) rfl ?_
    repeat walk_at "st"
    refine y_str (by show 0 ≤ _; decide) ?_
    refine ⟨fun e => by simp [SL, Str.length] at e, fun _ => ?_⟩
    repeat walk_at "st"
    refine ⟨1, rfl, ?_⟩
    refine x_back (v := .str (SL [])) eW2 (by decide) (by simp) (by decide) rfl ?_
    repeat walk_at "st"
    refine y_str (by show 0 ≤ _; decide) ?_
    refine ⟨fun e => by simp [SL, Str.length] at e, fun _ => ?_⟩
    repeat walk_at "st"
    refine ⟨fun e => absurd (of_decide_eq_true e) (by omega), fun _ => ?_⟩
    repeat walk_at "st"
    refine ⟨_, _, _, fun i m' σ' => σ' = σ2 ∧ m' "got" = some (.str (SL r)) ∧ m' "endpos" = some (.int (SL r).length) ∧ ∃ sp : Nat, sp ≤ r.length ∧ m' "startpos" = some (.int sp) ∧ (i ≤ 1 → sp = 0) ∧ (2 ≤ i → c ∈ r),
      it_list eW2, ?_, fun i m' σ' hI => hI.1 ▸ eW2, fun i u m1 σ3 hu hI => ?_, fun m1 σ3 hI => ?_⟩
    · exact ⟨rfl, by walk_at "lk", by walk_at "lk", 0, Nat.zero_le _, by show _ = some (AV.int 0); walk_at "lk", fun _ => rfl, fun h => absurd h (by decide)⟩
    · obtain ⟨rfl, mg, me, sp, hsp, ms, h1, h2⟩ := hI
      repeat walk_at "st"
      refine e_meth (id := "str.find") ?_
      repeat walk_at "st"
      refine ⟨meth_str PySem.F.slot_str_find (by rfl), ?_⟩
      repeat walk_at "st"
      match i, hu with
      | 0, hu =>
        cases hu
        refine b_find rfl (find_empty r sp hsp) ?_
        repeat walk_at "st"
        refine ⟨fun e => absurd (of_decide_eq_true e) (by omega), fun _ => ?_⟩
        repeat walk_at "st"
        refine e_builtin g_len rfl (.fn _) ?_
        repeat walk_at "st"
        refine b_lenS (by decide) ?_
        refine i_add ?_
        repeat walk_at "st"
        refine ⟨rfl, by walk_at "lk", by walk_at "lk", sp, hsp, ?_, fun _ => h1 (by decide), fun h => absurd h (by decide)⟩
        rw [show ((sp : Int) + ((SL []).length : Nat)) = (sp : Int) by simp [SL, Str.length]]
        walk_at "lk"
      | 1, hu =>
        cases hu
        have := h1 (by decide)
        subst this
        by_cases hcr : c ∈ r
        · obtain ⟨j, hj, e⟩ := (find_one r c).1 hcr
          refine b_find rfl e ?_
          repeat walk_at "st"
          refine ⟨fun e => absurd (of_decide_eq_true e) (by omega), fun _ => ?_⟩
          repeat walk_at "st"
          refine e_builtin g_len rfl (.fn _) ?_
          repeat walk_at "st"
          refine b_lenS (by show ((1 : Nat) : Int) < _; decide) ?_
          refine i_add ?_
          repeat walk_at "st"
          refine ⟨rfl, by walk_at "lk", by walk_at "lk", j + 1, hj, ?_, fun h => absurd h (by decide), fun _ => hcr⟩
          rw [show ((j : Int) + ((SL [c]).length : Nat)) = ((j + 1 : Nat) : Int) by simp [SL, Str.length]]
          walk_at "lk"
        · refine b_find rfl ((find_one r c).2 hcr) ?_
          repeat walk_at "st"
          refine ⟨fun _ => ?_, fun e => absurd (of_decide_eq_false e) (by decide)⟩
          repeat walk_at "st"
          rw [decide_eq_false hcr] at h
          exact h _ kW2
      | 2, hu =>
        cases hu
        refine b_find rfl (find_empty r sp hsp) ?_
        repeat walk_at "st"
        refine ⟨fun e => absurd (of_decide_eq_true e) (by omega), fun _ => ?_⟩
        repeat walk_at "st"
        refine e_builtin g_len rfl (.fn _) ?_
        repeat walk_at "st"
        refine b_lenS (by decide) ?_
        refine i_add ?_
        repeat walk_at "st"
        refine ⟨rfl, by walk_at "lk", by walk_at "lk", sp, hsp, ?_, fun h => absurd h (by decide), fun _ => h2 (by decide)⟩
        rw [show ((sp : Int) + ((SL []).length : Nat)) = (sp : Int) by simp [SL, Str.length]]
        walk_at "lk"
      | i + 3, hu => simp at hu
    · obtain ⟨rfl, mg, me, sp, hsp, ms, h1, h2⟩ := hI
      repeat walk_at "st"
      rw [decide_eq_true (h2 (by simp))] at h
      exact h _ kW2
end
/-! Gro0 -/
theorem TabOk.setO {σ : Sto} {P a : Addr} {i j : Int} {q : Str} {ao x : AO} (h : TabOk σ P i j q) (e : σ a = some ao) (hn : ∀ o, ao ≠ .obj o) : TabOk (upS σ a x) P i j q := by
  have hP : P ≠ a := fun z => by rcases h with e1 | ⟨_, e1, _⟩ <;> rw [z, e] at e1 <;> cases e1 <;> exact hn _ rfl
  rcases h with e1 | ⟨c, e1, hc⟩
  · exact .inl (upS_ne hP e1)
  · refine .inr ⟨c, upS_ne hP e1, hc.mono fun o eo => upS_ne (fun z => ?_) eo⟩
    obtain ⟨_, _, _, e2, _⟩ := hc.ex
    rw [z, e] at e2; cases e2; exact hn _ rfl
theorem tabs.setO {σ : Sto} {a : Addr} {ao x : AO} (h : tabs σ) (e : σ a = some ao) (hn : ∀ o, ao ≠ .obj o) : tabs (upS σ a x) := ⟨h.1.setO e hn, h.2.setO e hn⟩
theorem tabs.neO {σ : Sto} {a : Addr} {ao : AO} (h : tabs σ) (e : σ a = some ao) (hn : ∀ o, ao ≠ .obj o) : a ≠ 64 ∧ a ≠ 71 := by
  constructor
  · intro q; rcases h.1 with e1 | ⟨_, e1, _⟩ <;> rw [q, e1] at e <;> cases e <;> exact hn _ rfl
  · intro q; rcases h.2 with e1 | ⟨_, e1, _⟩ <;> rw [q, e1] at e <;> cases e <;> exact hn _ rfl
section
variable {A B : List Nat} {c : Nat}
theorem at_crlf (l : List Nat) (k : Nat) : StrLaws.At (SL l) (SL [13, 10]) (SL l).length k ↔ l[k]? = some 13 ∧ l[k + 1]? = some 10 := by
  unfold StrLaws.At
  show (k + 2 ≤ l.toArray.size ∧ ((SL l).cps.extract k (k + 2) == #[13, 10]) = true) ↔ _
  rw [List.size_toArray]
  have e : (SL l).cps.extract k (k + 2) = ((l.drop k).take 2).toArray := by
    unfold SL; simp [List.extract_toArray]
  rw [e, beq_iff_eq]
  constructor
  · rintro ⟨h1, h2⟩
    have h3 : (l.drop k).take 2 = [13, 10] := by simpa using congrArg Array.toList h2
    have a0 := congrArg (·[0]?) h3
    have a1 := congrArg (·[1]?) h3
    simp at a0 a1
    exact ⟨a0, a1⟩
  · rintro ⟨h1, h2⟩
    have hl := (List.getElem?_eq_some_iff.mp h2).1
    refine ⟨by omega, ?_⟩
    have h3 : (l.drop k).take 2 = [13, 10] := by
      rw [List.drop_eq_getElem_cons (by omega), List.drop_eq_getElem_cons (by omega)]
      have e1 := (List.getElem?_eq_some_iff.mp h1).2
      have e2 := (List.getElem?_eq_some_iff.mp h2).2
      simp [e1, e2]
    rw [h3]
theorem at_t1 (hA : ∀ a ∈ A, nl2 a = false) (hB : ∀ a ∈ B, nl2 a = false) (hc : nl2 c = false) (k : Nat) : StrLaws.At (SL (t1 A c B)) (SL [13, 10]) (SL (t1 A c B)).length k ↔ k = A.length ∨ k = A.length + 3 := by
  rw [at_crlf]
  have get : ∀ q, (t1 A c B)[q]?.getD 0 = (t1 A c B).toArray.getD q 0 := fun q => by rw [Array.getD_eq_getD_getElem?, List.getElem?_toArray]
  have hn : ∀ {a v : Nat}, nl2 a = false → (v = 13 ∨ v = 10) → a ≠ v := fun {a v} h hv e => by
    subst e; rcases hv with rfl | rfl <;> simp [nl2] at h
  have len : (t1 A c B).length = A.length + 5 + B.length := by simp; omega
  constructor
  · rintro ⟨h1, h2⟩
    have g1 : (t1 A c B).toArray.getD k 0 = 13 := by rw [← get, h1]; rfl
    have hk := (List.getElem?_eq_some_iff.mp h1).1
    rw [get5] at g1
    by_cases a1 : k < A.length
    · rw [if_pos a1] at g1; exact absurd g1 (hn (getD_all hA a1) (.inl rfl))
    · rw [if_neg a1] at g1
      by_cases a2 : k < A.length + [13, 10].length
      · rw [if_pos a2] at g1
        by_cases a3 : k = A.length
        · exact .inl a3
        · have : k - A.length = 1 := by simp at a2; omega
          rw [this] at g1; cases g1
      · rw [if_neg a2] at g1
        by_cases a3 : k = A.length + [13, 10].length
        · rw [if_pos a3] at g1; exact absurd g1 (hn hc (.inl rfl))
        · rw [if_neg a3] at g1
          by_cases a4 : k < A.length + [13, 10].length + 1 + [13, 10].length
          · rw [if_pos a4] at g1
            by_cases a5 : k = A.length + 3
            · exact .inr a5
            · simp at a2 a3 a4
              have : k - (A.length + [13, 10].length + 1) = 1 := by simp; omega
              rw [this] at g1; cases g1
          · rw [if_neg a4] at g1
            simp at a4
            exact absurd g1 (hn (getD_all hB (by simp; omega)) (.inl rfl))
  · have some : ∀ q v, q < (t1 A c B).length → (t1 A c B).toArray.getD q 0 = v → (t1 A c B)[q]? = some v := fun q v hq e => by
      rw [← get] at e
      rw [List.getElem?_eq_getElem hq] at e ⊢
      simp at e; rw [e]
    rintro (rfl | rfl)
    · exact ⟨some _ _ (by omega) (getE A [13, 10] [13, 10] B c 0 _ (by simp) rfl), some _ _ (by omega) (getE A [13, 10] [13, 10] B c 1 _ (by simp) rfl)⟩
    · exact ⟨some _ _ (by omega) (getF A [13, 10] [13, 10] B c 0 _ (by simp) (by simp)), some _ _ (by omega) (getF A [13, 10] [13, 10] B c 1 _ (by simp) (by simp))⟩
theorem occ_t1 (hA : ∀ a ∈ A, nl2 a = false) (hB : ∀ a ∈ B, nl2 a = false) (hc : nl2 c = false) :
    Builtin.Str.occurrences (SL (t1 A c B)) (SL [13, 10]) 0 (SL (t1 A c B)).length ((SL (t1 A c B)).length + 1) = [A.length, A.length + 3] := by
  obtain ⟨f, hch, hf⟩ := StrLaws.occ_tight (SL (t1 A c B)) (SL [13, 10]) (by decide)
  have at' := at_t1 hA hB hc
  generalize Builtin.Str.occurrences (SL (t1 A c B)) (SL [13, 10]) 0 (SL (t1 A c B)).length ((SL (t1 A c B)).length + 1) = L at hch
  have h2 : (SL [13, 10]).length = 2 := rfl
  match L, hch with
  | [], h =>
    have : f = 0 := h
    subst this
    exact absurd ((at' A.length).mpr (.inl rfl)) (hf _ (Nat.zero_le _))
  | a :: L, h =>
    obtain ⟨_, ha, hno, h⟩ := h
    have ea : a = A.length := by
      rcases (at' a).mp ha with e | e
      · exact e
      · exact absurd ((at' A.length).mpr (.inl rfl)) (hno _ (Nat.zero_le _) (by omega))
    subst ea
    rw [h2] at h
    match L, h with
    | [], h =>
      have : f = A.length + 2 := h
      exact absurd ((at' (A.length + 3)).mpr (.inr rfl)) (hf _ (by omega))
    | b :: L, h =>
      obtain ⟨hb0, hb, hno, h⟩ := h
      have eb : b = A.length + 3 := by
        rcases (at' b).mp hb with e | e
        · omega
        · exact e
      subst eb
      rw [h2] at h
      match L, h with
      | [], h => rfl
      | d :: L, h =>
        obtain ⟨hd0, hd, _, _⟩ := h
        rcases (at' d).mp hd with e | e <;> omega
theorem parts_t1 : Builtin.Str.partsBetween (SL (t1 A c B)) [A.length, A.length + 3] 2 = [SL A, SL [c], SL B] := by
  rw [StrLaws.partsBetween_eq]
  unfold StrLaws.partsFrom StrLaws.partsFrom StrLaws.partsFrom Builtin.Str.strSub
  show [(⟨(t1 A c B).toArray.extract 0 A.length⟩ : Str), ⟨(t1 A c B).toArray.extract (A.length + 2) (A.length + 3)⟩, ⟨(t1 A c B).toArray.extract (A.length + 3 + 2) (t1 A c B).toArray.size⟩] = _
  rw [sl_ext, sl_ext, sl_ext]
  have e1 : List.drop 0 (List.take A.length (A ++ ([13, 10] ++ c :: ([13, 10] ++ B)))) = A := by simp
  have e2 : List.drop (A.length + 2) (List.take (A.length + 3) (A ++ ([13, 10] ++ c :: ([13, 10] ++ B)))) = [c] := by
    rw [List.take_length_add_append, List.drop_length_add_append]; rfl
  have e3 : List.drop (A.length + 3 + 2) (List.take (A ++ ([13, 10] ++ c :: ([13, 10] ++ B))).toArray.size (A ++ ([13, 10] ++ c :: ([13, 10] ++ B)))) = B := by
    rw [List.size_toArray, List.take_length, show A.length + 3 + 2 = A.length + 5 by omega, List.drop_length_add_append]; rfl
  rw [e1, e2, e3]
end
/-! Gro1 -/
theorem g_varint {w : World} : nsIn (KF w) mainGlobals (Str.ofString "_parse_varint") = some (some (.ref 97)) := by rfl
theorem g_idm {w : World} : nsIn (KF w) mainGlobals (Str.ofString "int_divmod") = some (some (.ref 90)) := by rfl
theorem g_quote {w : World} : nsIn (KF w) mainGlobals (Str.ofString "quotedata") = some (some (.ref 48)) := by rfl
theorem g_range {w : World} : nsIn (KF w) mainGlobals (Str.ofString "range") = some Option.none := by rfl
theorem g_chr {w : World} : nsIn (KF w) mainGlobals (Str.ofString "chr") = some Option.none := by rfl
noncomputable def wordsA (W : List (List Nat)) : List AV := W.map fun w => .str (SL w)
noncomputable def rowsA (W : List (List Nat)) : List AV := W.map fun w => .str (SL (row w))
noncomputable def numsA (X : List Nat) : List AV := X.map fun d => .int (d : Nat)
theorem lit_ne (l : Addr) (i : Nat) : ∀ o, AO.lit l i ≠ .obj o := fun _ h => by cases h
structure GI (X : List Nat) (Rr Ww T O l : Addr) (σ0 : Sto) (i : Nat) (m : Loc) (σ : Sto) : Prop where
  mn : m "numbers" = some (.ref l)
  mt : m "tape" = some (.ref T)
  mr : m "rows" = some (.ref Rr)
  mw : m "words" = some (.ref Ww)
  eR : σ Rr = some (.list (rowsA (growAll (X.take i))))
  eW : σ Ww = some (.list (wordsA (growAll (X.take i))))
  eT : σ T = some (.lit O ((X.take i).flatMap enc).length)
  tb : tabs σ
  kp : ∀ b o, b ≠ 64 → b ≠ 71 → b ≠ T → σ0 b = some o → σ b = some o
theorem lf_eq : Str.ofString "\n" = SL [10] := by decide +kernel
theorem cr_eq : Str.ofString "\r" = SL [13] := by decide +kernel
theorem dot_eq : Str.ofString "." = SL [46] := by decide +kernel
theorem get_some {W : List (List Nat)} {p : Nat} {wd : List Nat} (h : p < W.length) (e : W[p]?.getD [] = wd) : W[p]? = some wd := by
  rw [List.getElem?_eq_getElem h] at e ⊢; simp at e; rw [e]
theorem row_nl {W : List (List Nat)} (ok : OkW W) {wd : List Nat} (h : wd ∈ W) : ∀ a ∈ row wd, nl2 a = false := by
  intro a ha
  unfold row at ha
  rcases List.mem_append.mp ha with ha | ha
  · rw [(List.mem_replicate.mp ha).2]; rfl
  · have := ok.abc _ h a ha
    unfold nl2
    rw [Bool.or_eq_false_iff]
    exact ⟨beq_false_of_ne (by omega), beq_false_of_ne (by omega)⟩
theorem row_head {wd : List Nat} (h : wd ≠ []) : (row wd)[0]?.getD 0 = 46 := by
  obtain ⟨a, l, rfl⟩ := List.exists_cons_of_ne_nil h
  simp [row, List.replicate_succ]
theorem q2_row {W : List (List Nat)} (ok : OkW W) {a b E : List Nat} (ha : a ∈ W) (hb : b ∈ W) (hE : E = [10] ∨ E = [13] ∨ E = [13, 10]) {c : Nat} (h1 : 97 ≤ c) (h2 : c ≤ 200) : Q2 (row a) E (row b) c := by
  refine ⟨hE, row_nl ok ha, row_nl ok hb, ?_, beq_false_of_ne (by omega), ?_, ?_⟩
  · unfold nl2; rw [Bool.or_eq_false_iff]; exact ⟨beq_false_of_ne (by omega), beq_false_of_ne (by omega)⟩
  · have := ok.ne _ ha
    simp [row, this]
  · obtain ⟨x, l, rfl⟩ := List.exists_cons_of_ne_nil (ok.ne _ hb)
    simp [row]; omega
section
variable {prog : Program} {w : World} {n : Nat} {L : Addr} {m : Loc} {σ : Sto} {P : AV → Loc → Sto → Prop}
theorem x_itemT {value slice : Expr} {l : Addr} {vs : List AV} {i : Int} {v : AV} (e : σ l = some (.list vs)) (h0 : 0 ≤ i) (h1 : i < 2 ^ 63) (hv : vs[i.toNat]? = some v) (h : P v m σ)
    (hs : ∀ u, subscripted slice false (.ref l) (.int i u) = operate [.ref l, .int i u] (getItem (.ref l) (.int i u)) := by intro _; with_unfolding_all rfl) :
    ∀ a b, VR (.ref l) a → VR (.int i) b → TE prog w n L m σ (subscriptTail value slice a b) P := by
  intro a b ha hb g A s Q hA R k
  cases ha; cases hb
  obtain ⟨ws, nn, e1, r, hl⟩ := R.list e
  obtain ⟨c, hc, rc⟩ := r.get hv
  exact subscriptTail_builtinR hl.typeIs slot_list_getitem.lookup (x := c) (wpAny_getItem_list hl h0 h1 (by simpa using hc) ⟨rfl, by have := k v c m σ s.heap s.toks h rc R; exact this⟩) (hs _)
set_option maxHeartbeats 1000000 in
theorem c_grown {N : Nat} {l T O : Addr} {X : List Nat} (el : σ l = some (.list (numsA X))) (eT : σ T = some (.lit O 0)) (eO : σ O = some (.list (numsA (X.flatMap enc)))) (ht : tabs σ) (hX : ∀ x ∈ X, x < 2 ^ 18) (hlen : X.length ≤ 4)
    (h : ∀ t Rr Ww σ', (∀ b o, b ≠ 64 → b ≠ 71 → b ≠ T → σ b = some o → σ' b = some o) → tabs σ' → σ' t = some (.tup [.ref Rr, .ref Ww]) → σ' Rr = some (.list (rowsA (growAll X))) → σ' Ww = some (.list (wordsA (growAll X))) → σ' T = some (.lit O (X.flatMap enc).length) → P (.ref t) m σ') :
    ∀ ws, VRs [.ref l, .ref T] ws → TE prog w (N + 20 + 1) L m σ (call (.ref 118) ws) P := by
  refine call_def (f := 118) (xs := ["numbers", "tape"]) (by rfl) (by rfl) (fun ws hws => ?_) ?_ ?_ (fun L' => ?_)
  · rcases hws with _ | ⟨_, _ | ⟨_, _ | _⟩⟩; rfl
  · decide
  · decide
  · simp only [bnd]
    repeat walk_at "st"
    refine ⟨by show 3 ≤ sizeLine; decide, fun Rr hRr => ?_⟩
    repeat walk_at "st"
    refine ⟨by show 3 ≤ sizeLine; decide, fun Ww hWw => ?_⟩
    repeat walk_at "st"
    refine e_builtin g_range rfl (.ty _) ?_
    repeat walk_at "st"
    refine e_builtin g_len rfl (.fn _) ?_
    repeat walk_at "st"
    refine b_lenL (vs := numsA X) (upS_old hWw (upS_old hRr el)) (by simp [numsA]; omega) ?_
    repeat walk_at "st"
    refine b_range1 fun r hr => ?_
    have hRW : Rr ≠ Ww := fun q => by rw [q] at hRr; rw [← q, upS_eq] at hWw; cases hWw
    refine ⟨_, _, _, GI X Rr Ww T O l σ, it_range (a := 0) (n := X.length) (by rw [upS_eq]; simp [numsA]) (by decide) (by omega), ?_, fun i m σ hI => trivial, fun i u m1 σ2 hu hI => ?_, fun m1 σ2 hI => ?_⟩
    · refine ⟨by walk_at "lk", by walk_at "lk", by walk_at "lk", by walk_at "lk", ?_, ?_, upS_old hr (upS_old hWw (upS_old hRr eT)), ((ht.new hRr).new hWw).new hr, fun b o h1 h2 _ e => upS_old hr (upS_old hWw (upS_old hRr e))⟩
      · rw [upS_old hr (upS_old hWw upS_eq)]
        have e1 : Str.ofString ".a" = SL [46, 97] := by decide +kernel
        rw [e1]; rfl
      · rw [upS_old hr upS_eq]
        have e1 : Str.ofString "a" = SL [97] := by decide +kernel
        rw [e1]; rfl
    · obtain ⟨hil, rfl⟩ := rngL_get hu
      obtain ⟨x, hx⟩ : ∃ x, X[i]? = some x := ⟨X[i], List.getElem?_eq_getElem hil⟩
      have hx18 := hX x (List.mem_of_getElem? hx)
      obtain ⟨mn, mt, mr, mw, eR, eW, eT2, tb, kp⟩ := hI
      obtain ⟨ok, hWl⟩ := okW_all hlen i (by omega)
      have el2 := kp l _ (tabs.ne ht el).1 (tabs.ne ht el).2 (fun q => by rw [q, eT] at el; cases el) el
      have eO2 := kp O _ (tabs.ne ht eO).1 (tabs.ne ht eO).2 (fun q => by rw [q, eT] at eO; cases eO) eO
      generalize hWd : growAll (X.take i) = W at eR eW ok hWl
      have hWl3 := ok.len3
      repeat walk_at "st"
      refine e_builtin g_len rfl (.fn _) ?_
      repeat walk_at "st"
      refine b_lenL eR (by simp [rowsA]; omega) ?_
      rw [show (rowsA W).length = W.length by simp [rowsA]]
      repeat walk_at "st"
      refine e_global g_varint (.ref _) ?_
      refine c_def (by rfl) ?_
      repeat walk_at "st"
      refine c_varint (N := N + 19) (x := x) (by omega) eT2 eO2 (split_at hx) ?_
      have hTn := lit_ne O ((X.take i).flatMap enc).length
      have hpos : ((X.take i).flatMap enc).length + (enc x).length = ((X.take (i + 1)).flatMap enc).length := by
        rw [List.take_add_one, hx, List.flatMap_append, List.length_append]; simp
      rw [hpos]
      have tb3 : tabs (upS σ2 T (.lit O ((X.take (i + 1)).flatMap enc).length)) := tb.setO eT2 hTn
      have hT64 := tabs.neO ht eT (lit_ne _ _)
      have eT3 : upS σ2 T (.lit O ((X.take (i + 1)).flatMap enc).length) T = some (.lit O ((X.take (i + 1)).flatMap enc).length) := upS_eq
      have hRT : Rr ≠ T := fun q => by rw [q, eT2] at eR; cases eR
      have hWT : Ww ≠ T := fun q => by rw [q, eT2] at eW; cases eW
      have hlT : l ≠ T := fun q => by rw [q, eT] at el; cases el
      have eR3 : upS σ2 T (.lit O ((X.take (i + 1)).flatMap enc).length) Rr = _ := upS_ne hRT eR
      have eW3 : upS σ2 T (.lit O ((X.take (i + 1)).flatMap enc).length) Ww = _ := upS_ne hWT eW
      have el3 : upS σ2 T (.lit O ((X.take (i + 1)).flatMap enc).length) l = _ := upS_ne hlT el2
      have kp3 : ∀ b o, b ≠ 64 → b ≠ 71 → b ≠ T → σ b = some o → upS σ2 T (.lit O ((X.take (i + 1)).flatMap enc).length) b = some o := fun b o h1 h2 h3 e => upS_ne h3 (kp b o h1 h2 h3 e)
      generalize upS σ2 T (.lit O ((X.take (i + 1)).flatMap enc).length) = σ3 at tb3 eT3 eR3 eW3 el3 kp3 ⊢
      repeat walk_at "st"
      refine e_global g_idm (.ref _) ?_
      refine c_def (by rfl) ?_
      repeat walk_at "st"
      have hWl7 := ok.len7
      refine c_int_divmod (N := N + 7) (by omega) (by omega) (by omega) tb3 fun t σ4 k4 tb4 ht4 et4 => ?_
      refine ⟨t, _, _, rfl, et4, ?_⟩
      have hR64 := tabs.ne tb3 eR3
      have hW64 := tabs.ne tb3 eW3
      have hl64 := tabs.ne tb3 el3
      have eR4 := k4 _ _ hR64.1 hR64.2 eR3
      have eW4 := k4 _ _ hW64.1 hW64.2 eW3
      have el4 := k4 _ _ hl64.1 hl64.2 el3
      have eT4 := k4 _ _ hT64.1 hT64.2 eT3
      have kp4 : ∀ b o, b ≠ 64 → b ≠ 71 → b ≠ T → σ b = some o → σ4 b = some o := fun b o h1 h2 h3 e => k4 b o h1 h2 (kp3 b o h1 h2 h3 e)
      obtain ⟨p, hp⟩ : ∃ p, x % W.length = p := ⟨_, rfl⟩
      have hpl : p < W.length := hp ▸ Nat.mod_lt _ (by omega)
      obtain ⟨q, hq⟩ : ∃ q, (p + 1) % W.length = q := ⟨_, rfl⟩
      have hql : q < W.length := hq ▸ Nat.mod_lt _ (by omega)
      have hpq : p ≠ q := hq ▸ nigh_ne hWl3 hpl
      have hxi : (numsA X)[(0 + (i : Int)).toNat]? = some (.int (x : Nat)) := by
        rw [show (0 + (i : Int)).toNat = i by omega]; unfold numsA; rw [List.getElem?_map, hx]; rfl
      rw [hp]
      repeat walk_at "st"
      refine ⟨by show 3 ≤ sizeLine; decide, fun T1 hT1 => ?_⟩
      have el5 := upS_old (o := AO.tup [AV.int x, AV.int (x / W.length : Nat), AV.int p]) hT1 el4
      repeat walk_at "st"
      refine x_item el5 (by omega) (by omega) hxi ?_
      repeat walk_at "st"
      refine x_item el5 (by omega) (by omega) hxi ?_
      repeat walk_at "st"
      refine o_fdiv (by omega) (by omega) ?_
      rw [show ((x : Int).fdiv (W.length : Int)) = ((x / W.length : Nat) : Int) from (Int.ofNat_fdiv _ _).symm]
      repeat walk_at "st"
      refine x_item el5 (by omega) (by omega) hxi ?_
      repeat walk_at "st"
      refine o_fmod (by omega) ?_
      rw [show ((x : Int).fmod (W.length : Int)) = ((x % W.length : Nat) : Int) from (Int.ofNat_fmod _ _).symm, hp]
      repeat walk_at "st"
      refine ⟨by show 3 ≤ sizeLine; decide, fun T2 hT2 => ?_⟩
      refine q_neD (d := .tuple [.int x, .int (x / W.length : Nat), .int p]) (Rd.tup (upS_old hT2 upS_eq) (.cons .int (.cons .int (.cons .int .nil)))) (Rd.tup upS_eq (.cons .int (.cons .int (.cons .int .nil)))) rfl (by omega) ?_
      refine ⟨fun e => by simp at e, fun _ => ?_⟩
      have eR6 := upS_old (o := AO.tup [AV.int x, AV.int (x / W.length : Nat), AV.int p]) hT2 (upS_old (o := AO.tup [AV.int x, AV.int (x / W.length : Nat), AV.int p]) hT1 eR4)
      have eW6 := upS_old (o := AO.tup [AV.int x, AV.int (x / W.length : Nat), AV.int p]) hT2 (upS_old (o := AO.tup [AV.int x, AV.int (x / W.length : Nat), AV.int p]) hT1 eW4)
      have eT6 := upS_old (o := AO.tup [AV.int x, AV.int (x / W.length : Nat), AV.int p]) hT2 (upS_old (o := AO.tup [AV.int x, AV.int (x / W.length : Nat), AV.int p]) hT1 eT4)
      have tb6 := (tb4.new (o := AO.tup [AV.int x, AV.int (x / W.length : Nat), AV.int p]) hT1).new (o := AO.tup [AV.int x, AV.int (x / W.length : Nat), AV.int p]) hT2
      have kp6 : ∀ b o, b ≠ 64 → b ≠ 71 → b ≠ T → σ b = some o → _ := fun b o h1 h2 h3 e => upS_old (o := AO.tup [AV.int x, AV.int (x / W.length : Nat), AV.int p]) hT2 (upS_old (o := AO.tup [AV.int x, AV.int (x / W.length : Nat), AV.int p]) hT1 (kp4 b o h1 h2 h3 e))
      clear hT2 el5 hT1
      generalize upS (upS σ4 T1 (AO.tup [AV.int x, AV.int (x / W.length : Nat), AV.int p])) T2 (AO.tup [AV.int x, AV.int (x / W.length : Nat), AV.int p]) = σ6 at eR6 eW6 eT6 tb6 kp6 ⊢
      repeat walk_at "st"
      refine o_fmod (by omega) ?_
      rw [show (((p : Int) + 1).fmod (W.length : Int)) = (((p + 1) % W.length : Nat) : Int) from (Int.ofNat_fmod (p + 1) _).symm, hq]
      repeat walk_at "st"
      refine e_builtin g_chr rfl (.fn _) ?_
      repeat walk_at "st"
      refine b_chr (c := 95 + W.length) (by omega) (by omega) ?_
      repeat walk_at "st"
      refine ⟨by show 3 ≤ sizeLine; decide, fun T3 hT3 => ?_⟩
      repeat walk_at "st"
      refine o_fmod (by decide) ?_
      rw [show (((x / W.length : Nat) : Int).fmod 3) = ((x / W.length % 3 : Nat) : Int) from (Int.ofNat_fmod _ 3).symm]
      obtain ⟨E, hE, hEj⟩ : ∃ E, (E = [10] ∨ E = [13] ∨ E = [13, 10]) ∧ [AV.str (Str.ofString "\n"), AV.str (Str.ofString "\r"), AV.str (Str.ofString "\r\n")][x / W.length % 3]? = some (.str (SL E)) := by
        have h3 := Nat.mod_lt (x / W.length) (show 0 < 3 by decide)
        generalize x / W.length % 3 = j at h3
        match j, h3 with
        | 0, _ => exact ⟨[10], .inl rfl, by rw [lf_eq]; rfl⟩
        | 1, _ => exact ⟨[13], .inr (.inl rfl), by rw [cr_eq]; rfl⟩
        | 2, _ => exact ⟨[13, 10], .inr (.inr rfl), by rw [crlf_eq]; rfl⟩
      refine x_itemT upS_eq (by omega) (by omega) (by rw [Int.toNat_natCast]; exact hEj) ?_
      have eR7 := upS_old (o := AO.list [AV.str (Str.ofString "\n"), AV.str (Str.ofString "\r"), AV.str (Str.ofString "\r\n")]) hT3 eR6
      have eW7 := upS_old (o := AO.list [AV.str (Str.ofString "\n"), AV.str (Str.ofString "\r"), AV.str (Str.ofString "\r\n")]) hT3 eW6
      have eT7 := upS_old (o := AO.list [AV.str (Str.ofString "\n"), AV.str (Str.ofString "\r"), AV.str (Str.ofString "\r\n")]) hT3 eT6
      have tb7 := tb6.new (o := AO.list [AV.str (Str.ofString "\n"), AV.str (Str.ofString "\r"), AV.str (Str.ofString "\r\n")]) hT3
      have kp7 : ∀ b o, b ≠ 64 → b ≠ 71 → b ≠ T → σ b = some o → _ := fun b o h1 h2 h3 e => upS_old (o := AO.list [AV.str (Str.ofString "\n"), AV.str (Str.ofString "\r"), AV.str (Str.ofString "\r\n")]) hT3 (kp6 b o h1 h2 h3 e)
      generalize upS σ6 T3 (AO.list [AV.str (Str.ofString "\n"), AV.str (Str.ofString "\r"), AV.str (Str.ofString "\r\n")]) = σ7 at eR7 eW7 eT7 tb7 kp7 ⊢
      obtain ⟨wp, hwp, hwpm⟩ : ∃ wp, W[p]?.getD [] = wp ∧ wp ∈ W := ⟨_, rfl, getD_mem hpl⟩
      obtain ⟨wq, hwq, hwqm⟩ : ∃ wq, W[q]?.getD [] = wq ∧ wq ∈ W := ⟨_, rfl, getD_mem hql⟩
      obtain ⟨c, hc⟩ : ∃ c, 95 + W.length = c := ⟨_, rfl⟩
      rw [hc]
      have hq2 := q2_row ok hwpm hwqm (E := E) hE (c := c) (by omega) (by omega)
      have hps := ok.short _ hwpm
      have hqs := ok.short _ hwqm
      have hpr : (row wp).length ≤ 20 := by simp [row]; omega
      have hqr : (row wq).length ≤ 20 := by simp [row]; omega
      have hEl : E.length ≤ 2 := by rcases hE with e | e | e <;> simp [e]
      have irp : (rowsA W)[p]? = some (.str (SL (row wp))) := by unfold rowsA; rw [List.getElem?_map, get_some hpl hwp]; rfl
      have irq : (rowsA W)[q]? = some (.str (SL (row wq))) := by unfold rowsA; rw [List.getElem?_map, get_some hql hwq]; rfl
      repeat walk_at "st"
      refine e_meth (id := "str.split") ?_
      repeat walk_at "st"
      refine e_global g_quote (.ref _) ?_
      refine c_def (by rfl) ?_
      repeat walk_at "st"
      refine x_item eR7 (by omega) (by omega) (by rw [Int.toNat_natCast]; exact irp) ?_
      repeat walk_at "st"
      refine o_addL rfl rfl (by omega) ?_
      repeat walk_at "st"
      refine o_addL rfl rfl (by simp; omega) ?_
      repeat walk_at "st"
      refine o_addL rfl rfl (by simp; omega) ?_
      repeat walk_at "st"
      refine x_item eR7 (by omega) (by omega) (by rw [Int.toNat_natCast]; exact irq) ?_
      refine o_addL rfl rfl (by simp; omega) ?_
      rw [show row wp ++ E ++ [c] ++ E ++ row wq = tx (row wp) E c (row wq) by simp]
      repeat walk_at "st"
      refine c_quotedata (N := N + 19) hq2 (row_head (ok.ne _ hwpm)) (row_head (ok.ne _ hwqm)) (by omega) ?_
      refine ⟨meth_str PySem.F.slot_str_split (by rfl), ?_⟩
      repeat walk_at "st"
      rw [crlf_eq]
      have nlA : ∀ a ∈ 46 :: row wp, nl2 a = false := fun a ha => by
        rcases List.mem_cons.mp ha with rfl | ha
        · rfl
        · exact row_nl ok hwpm a ha
      have nlB : ∀ a ∈ 46 :: row wq, nl2 a = false := fun a ha => by
        rcases List.mem_cons.mp ha with rfl | ha
        · rfl
        · exact row_nl ok hwqm a ha
      have hocc := occ_t1 nlA nlB hq2.hc
      have hTl : (SL (t1 (46 :: row wp) c (46 :: row wq))).length ≤ 100 := by show (t1 _ _ _).toArray.size ≤ 100; simp; omega
      refine b_split (parts := [SL (46 :: row wp), SL [c], SL (46 :: row wq)]) ?_ (by decide) (by rw [hocc]; rfl) (by rw [hocc]; exact parts_t1) (by omega) (by simp) fun S hS => ?_
      · rw [Bool.or_eq_false_iff]
        refine ⟨decide_eq_false ?_, decide_eq_false ?_⟩
        · show ¬ ((t1 _ _ _).toArray.size < 2); rw [t1_size]; omega
        · have : Builtin.Str.strKind (SL [13, 10]) = 1 := by decide +kernel
          rw [this]; unfold Builtin.Str.strKind; split
          · omega
          · split <;> omega
      have eS : upS σ7 S (.list (List.map AV.str [SL (46 :: row wp), SL [c], SL (46 :: row wq)])) S = some (.list [.str (SL (46 :: row wp)), .str (SL [c]), .str (SL (46 :: row wq))]) := upS_eq
      have eR8 := upS_old (o := .list (List.map AV.str [SL (46 :: row wp), SL [c], SL (46 :: row wq)])) hS eR7
      have eW8 := upS_old (o := .list (List.map AV.str [SL (46 :: row wp), SL [c], SL (46 :: row wq)])) hS eW7
      have eT8 := upS_old (o := .list (List.map AV.str [SL (46 :: row wp), SL [c], SL (46 :: row wq)])) hS eT7
      have tb8 := tb7.new (o := .list (List.map AV.str [SL (46 :: row wp), SL [c], SL (46 :: row wq)])) hS
      have kp8 : ∀ b o, b ≠ 64 → b ≠ 71 → b ≠ T → σ b = some o → _ := fun b o h1 h2 h3 e => upS_old (o := .list (List.map AV.str [SL (46 :: row wp), SL [c], SL (46 :: row wq)])) hS (kp7 b o h1 h2 h3 e)
      have hSR : S ≠ Rr := fun z => by rw [z, eR7] at hS; cases hS
      have hSW : S ≠ Ww := fun z => by rw [z, eW7] at hS; cases hS
      generalize upS σ7 S (.list (List.map AV.str [SL (46 :: row wp), SL [c], SL (46 :: row wq)])) = σ8 at eS eR8 eW8 eT8 tb8 kp8 ⊢
      repeat walk_at "st"
      refine e_builtin g_len rfl (.fn _) ?_
      repeat walk_at "st"
      refine b_lenL eS (by simp) ?_
      repeat walk_at "st"
      refine ⟨fun e => by simp at e, fun _ => ?_⟩
      repeat walk_at "st"
      refine x_item eS (by decide) (by decide) rfl ?_
      repeat walk_at "st"
      refine o_addL rfl rfl (by simp; omega) ?_
      repeat walk_at "st"
      have lR : (rowsA W).length = W.length := by simp [rowsA]
      have lW : (wordsA W).length = W.length := by simp [wordsA]
      refine ⟨Rr, rowsA W, p, rfl, rfl, eR8, by omega, by omega, ?_⟩
      repeat walk_at "st"
      refine x_item (upS_ne hSR eS) (by decide) (by decide) rfl ?_
      repeat walk_at "st"
      refine o_addL rfl rfl (by simp; omega) ?_
      repeat walk_at "st"
      refine ⟨Rr, _, q, rfl, rfl, upS_eq, by rw [List.length_set]; omega, by rw [List.length_set]; omega, ?_⟩
      rw [upS_upS]
      repeat walk_at "st"
      refine e_meth (id := "list.insert") ?_
      repeat walk_at "st"
      refine ⟨meth_list PySem.F.slot_list_insert (by rfl) upS_eq, ?_⟩
      repeat walk_at "st"
      refine x_item (upS_ne hSR eS) (by decide) (by decide) rfl ?_
      rw [dot_eq]
      refine o_addL rfl rfl (by simp) ?_
      repeat walk_at "st"
      refine m_insert upS_eq (by rw [List.length_set, List.length_set]; omega) (by omega) (by rw [List.length_set, List.length_set]; omega) ⟨nofun, ?_⟩
      rw [upS_upS]
      have hgrowR := grow_rows (fun wd => AV.str (SL (row wd))) W p q c hpl hql hpq
      have eRn : (((rowsA W).set p (.str (SL (46 :: row wp ++ [c])))).set q (.str (SL (46 :: row wq ++ [c])))).take ((p : Int) + 1).toNat ++ .str (SL ([46] ++ [c])) :: (((rowsA W).set p (.str (SL (46 :: row wp ++ [c])))).set q (.str (SL (46 :: row wq ++ [c])))).drop ((p : Int) + 1).toNat = rowsA (grow W x) := by
        rw [show ((p : Int) + 1).toNat = p + 1 by omega, ← row_snoc, ← row_snoc]
        unfold grow rowsA
        dsimp only at hgrowR ⊢
        rw [hp, hq, hc, ← hgrowR, hwp, hwq]
        rfl
      rw [eRn]
      have eW9 : upS σ8 Rr (AO.list (rowsA (grow W x))) Ww = some (.list (wordsA W)) := upS_ne (Ne.symm hRW) eW8
      have eT9 : upS σ8 Rr (AO.list (rowsA (grow W x))) T = _ := upS_ne (Ne.symm hRT) eT8
      have eR9 : upS σ8 Rr (AO.list (rowsA (grow W x))) Rr = _ := upS_eq
      have tb9 : tabs (upS σ8 Rr (AO.list (rowsA (grow W x)))) := tb8.setL eR8
      have kp9 : ∀ b o, b ≠ 64 → b ≠ 71 → b ≠ T → σ b = some o → upS σ8 Rr (AO.list (rowsA (grow W x))) b = some o := fun b o h1 h2 h3 e => upS_ne (fun z => by rw [z, hRr] at e; cases e) (kp8 b o h1 h2 h3 e)
      generalize upS σ8 Rr (AO.list (rowsA (grow W x))) = σ9 at eW9 eT9 eR9 tb9 kp9 ⊢
      have iwp : (wordsA W)[p]? = some (.str (SL wp)) := by unfold wordsA; rw [List.getElem?_map, get_some hpl hwp]; rfl
      have iwq : (wordsA W)[q]? = some (.str (SL wq)) := by unfold wordsA; rw [List.getElem?_map, get_some hql hwq]; rfl
      repeat walk_at "st"
      refine x_item eW9 (by omega) (by omega) (by rw [Int.toNat_natCast]; exact iwp) ?_
      repeat walk_at "st"
      refine o_addL rfl rfl (by simp; omega) ?_
      repeat walk_at "st"
      refine ⟨Ww, _, p, rfl, rfl, eW9, by omega, by omega, ?_⟩
      repeat walk_at "st"
      refine x_item upS_eq (by omega) (by omega) (by rw [Int.toNat_natCast, List.getElem?_set_ne hpq]; exact iwq) ?_
      repeat walk_at "st"
      refine o_addL rfl rfl (by simp; omega) ?_
      repeat walk_at "st"
      refine ⟨Ww, _, q, rfl, rfl, upS_eq, by rw [List.length_set]; omega, by rw [List.length_set]; omega, ?_⟩
      rw [upS_upS]
      repeat walk_at "st"
      refine e_meth (id := "list.insert") ?_
      repeat walk_at "st"
      refine ⟨meth_list PySem.F.slot_list_insert (by rfl) upS_eq, ?_⟩
      repeat walk_at "st"
      refine m_insert upS_eq (by rw [List.length_set, List.length_set]; omega) (by omega) (by rw [List.length_set, List.length_set]; omega) ⟨nofun, ?_⟩
      rw [upS_upS]
      have hgrowW := grow_rows (fun wd => AV.str (SL wd)) W p q c hpl hql hpq
      have eWn : (((wordsA W).set p (.str (SL (wp ++ [c])))).set q (.str (SL (wq ++ [c])))).take ((p : Int) + 1).toNat ++ .str (SL [c]) :: (((wordsA W).set p (.str (SL (wp ++ [c])))).set q (.str (SL (wq ++ [c])))).drop ((p : Int) + 1).toNat = wordsA (grow W x) := by
        rw [show ((p : Int) + 1).toNat = p + 1 by omega]
        unfold grow wordsA
        dsimp only at hgrowW ⊢
        rw [hp, hq, hc, ← hgrowW, hwp, hwq]
      rw [eWn]
      have hgs : growAll (X.take (i + 1)) = grow W x := by rw [growAll_succ hx, hWd]
      repeat walk_at "st"
      refine ⟨by walk_at "lk", by walk_at "lk", by walk_at "lk", by walk_at "lk", ?_, ?_, upS_ne (Ne.symm hWT) eT9, tb9.setL eW9, fun b o h1 h2 h3 e => upS_ne (fun z => ?_) (kp9 b o h1 h2 h3 e)⟩
      · rw [hgs]; exact upS_ne hRW eR9
      · rw [hgs, upS_eq]
      · rw [z] at e; rw [upS_old hRr e] at hWw; cases hWw
    · obtain ⟨mn, mt, mr, mw, eR, eW, eT2, tb, kp⟩ := hI
      rw [rngL_len, List.take_length] at eR eW eT2
      repeat walk_at "st"
      refine ⟨by show 2 ≤ sizeLine; decide, fun t ht2 => ?_⟩
      exact h t Rr Ww _ (fun b o h1 h2 h3 e => upS_old ht2 (kp b o h1 h2 h3 e)) (tb.new ht2) upS_eq (upS_old ht2 eR) (upS_old ht2 eW) (upS_old ht2 eT2)
end
/-! Fri1 -/
theorem Rd.mono {σ σ' : Sto} {v : AV} {d : PyData} (h : Rd σ v d) (k : ∀ b o, σ b = some o → σ' b = some o) : Rd σ' v d := fun w g L m hp c R r => h w g L m hp c (R.weaken (fun _ _ e => e) k) r
structure LinesAt (σ : Sto) (vs : List AV) (rows : List (List Nat)) : Prop where
  len : vs.length = rows.length
  at' : ∀ (i : Nat) (row : List Nat), rows[i]? = some row → ∃ a : Addr, vs[i]? = some (AV.ref a) ∧ σ a = some (.list (numsA row))
theorem LinesAt.mono {σ σ' : Sto} {vs : List AV} {rows : List (List Nat)} (h : LinesAt σ vs rows) (k : ∀ a row, σ a = some (.list (numsA row)) → (∃ i : Nat, vs[i]? = some (AV.ref a)) → σ' a = some (.list (numsA row))) : LinesAt σ' vs rows :=
  ⟨h.len, fun i row e => let ⟨a, h1, h2⟩ := h.at' i row e; ⟨a, h1, k a row h2 ⟨i, h1⟩⟩⟩
theorem LinesAt.snoc {σ : Sto} {vs : List AV} {rows : List (List Nat)} {a : Addr} {r : List Nat} (h : LinesAt σ vs rows) (e : σ a = some (.list (numsA r))) : LinesAt σ (vs ++ [.ref a]) (rows ++ [r]) := by
  refine ⟨by simp [h.len], fun i row hi => ?_⟩
  rcases Nat.lt_or_ge i rows.length with q | q
  · rw [List.getElem?_append_left q] at hi
    obtain ⟨b, h1, h2⟩ := h.at' i row hi
    exact ⟨b, by rw [List.getElem?_append_left (by rw [h.len]; exact q)]; exact h1, h2⟩
  · rw [List.getElem?_append_right q] at hi
    have : i - rows.length = 0 := by
      rcases Nat.eq_zero_or_pos (i - rows.length) with z | z
      · exact z
      · rw [List.getElem?_eq_none (by simp; omega)] at hi; cases hi
    rw [this] at hi; cases hi
    exact ⟨a, by rw [List.getElem?_append_right (by rw [h.len]; exact q), h.len, this]; rfl, e⟩
noncomputable def dataL (rows : List (List Nat)) : PyData := .list (rows.map fun r => .list (r.map fun (d : Nat) => .int (d : Int)))
theorem rds_nums {σ : Sto} : ∀ r : List Nat, Rds σ (numsA r) (r.map fun (d : Nat) => .int (d : Int))
  | [] => .nil
  | d :: r => .cons .int (rds_nums r)
theorem LinesAt.rds {σ : Sto} : ∀ {vs : List AV} {rows : List (List Nat)}, LinesAt σ vs rows → Rds σ vs (rows.map fun r => .list (r.map fun (d : Nat) => .int (d : Int)))
  | [], [], _ => .nil
  | v :: vs, r :: rows, h => by
    obtain ⟨a, h1, h2⟩ := h.at' 0 r rfl
    cases h1
    exact .cons (.list h2 (rds_nums r)) (LinesAt.rds ⟨by have := h.len; simpa using this, fun i row hi => h.at' (i + 1) row hi⟩)
  | [], _ :: _, h => by have := h.len; simp at this
  | _ :: _, [], h => by have := h.len; simp at this
theorem LinesAt.rd {σ : Sto} {l : Addr} {vs : List AV} {rows : List (List Nat)} (e : σ l = some (.list vs)) (h : LinesAt σ vs rows) : Rd σ (.ref l) (dataL rows) := .list e h.rds

structure FI (S : Nat) (Ln : Addr) (σ0 : Sto) (Ls : List (List Nat)) (j : Nat) (m : Loc) (σ : Sto) : Prop where
  ex : ∃ acc above line vs, friRun j acc above line = some Ls ∧ acc.length + j = S - 1 ∧ 2 ≤ acc.length ∧ acc[acc.length - 2]? = some above ∧ acc[acc.length - 1]? = some line ∧ above.length = S ∧ line.length = S ∧
    σ Ln = some (.list vs) ∧ LinesAt σ vs acc ∧ (∀ i : Nat, vs[i]? ≠ some (AV.ref Ln))
  ml : m "lines" = some (.ref Ln)
  ms : m "size" = some (.int S)
  tb : tabs σ
  kp : ∀ b o, b ≠ 64 → b ≠ 71 → σ0 b = some o → σ b = some o
structure FJ (S : Nat) (Ln a1 a2 Bw : Addr) (σ0 : Sto) (acc : List (List Nat)) (vs : List AV) (above line : List Nat) (i : Nat) (m : Loc) (σ : Sto) : Prop where
  ml : m "lines" = some (.ref Ln)
  ms : m "size" = some (.int S)
  ma : m "above" = some (.ref a1)
  mi : m "line" = some (.ref a2)
  mb : m "below" = some (.ref Bw)
  eL : σ Ln = some (.list vs)
  eB : σ Bw = some (.list (numsA ((friNext above line).take i)))
  eA : σ a1 = some (.list (numsA above))
  eI : σ a2 = some (.list (numsA line))
  hLa : LinesAt σ vs acc
  tb : tabs σ
  kp : ∀ b o, b ≠ 64 → b ≠ 71 → σ0 b = some o → σ b = some o
theorem numsA_get {r : List Nat} {i : Nat} (h : i < r.length) : (numsA r)[i]? = some (.int (r[i]?.getD 0 : Nat)) := by
  unfold numsA
  rw [List.getElem?_map, List.getElem?_eq_getElem h]; rfl
section
variable {prog : Program} {w : World} {n : Nat} {L : Addr} {m : Loc} {σ : Sto} {P : AV → Loc → Sto → Prop}
set_option maxHeartbeats 1000000 in
theorem c_frieze {N : Nat} {D : Addr} {dots : List Nat} {Ls : List (List Nat)} (eD : σ D = some (.list (numsA dots))) (h4 : 4 ≤ dots.length) (h7 : dots.length ≤ 10) (hf : frieze dots = some Ls) (ht : tabs σ)
    (h : ∀ R σ', Kp σ σ' → tabs σ' → Rd σ' (.ref R) (dataL Ls) → P (.ref R) m σ') :
    ∀ ws, VRs [.ref D] ws → TE prog w (N + 20 + 1) L m σ (call (.ref 125) ws) P := by
  refine call_def (f := 125) (xs := ["dots"]) (by rfl) (by rfl) (fun ws hws => ?_) ?_ ?_ (fun L' => ?_)
  · rcases hws with _ | ⟨_, _ | _⟩; rfl
  · decide
  · decide
  · simp only [bnd]
    obtain ⟨S, hS⟩ : ∃ S, dots.length = S := ⟨_, rfl⟩
    have hDl : (numsA dots).length = S := by simp [numsA, hS]
    repeat walk_at "st"
    refine e_builtin g_len rfl (.fn _) ?_
    repeat walk_at "st"
    refine b_lenL eD (by omega) ?_
    rw [hDl]
    repeat walk_at "st"
    refine ⟨by show 1 ≤ sizeLine; decide, fun l0 hl0 => ?_⟩
    repeat walk_at "st"
    refine o_repL (k := S) upS_eq (by omega) fun A0 hA0 => ?_
    repeat walk_at "st"
    have hl0D : upS (upS σ l0 (AO.list [AV.int 1])) A0 (AO.list (List.replicate S (AV.int 1))) D = some (.list (numsA dots)) := upS_old hA0 (upS_old hl0 eD)
    refine ⟨D, numsA dots, 1, rfl, rfl, hl0D, by rw [sizeLine_eq]; omega, fun B1 hB1 => ?_⟩
    repeat walk_at "st"
    refine ⟨D, numsA dots, 1, rfl, rfl, upS_old hB1 hl0D, by rw [sizeLine_eq]; omega, fun B2 hB2 => ?_⟩
    have hd1 : ((numsA dots).drop 1).length = S - 1 := by simp [hDl]
    have hd2 : ((numsA dots).take 1).length = 1 := by simp [hDl]; omega
    refine o_catL (upS_old hB2 upS_eq) upS_eq (by omega) fun B3 hB3 => ?_
    have eA0 := upS_old (o := AO.list ((numsA dots).drop 1 ++ (numsA dots).take 1)) hB3 (upS_old hB2 (upS_old hB1 (upS_eq (σ := upS σ l0 (AO.list [AV.int 1])) (a := A0) (o := AO.list (List.replicate S (AV.int 1))))))
    have tb3 : tabs (upS (upS (upS (upS (upS σ l0 (AO.list [AV.int 1])) A0 (AO.list (List.replicate S (AV.int 1)))) B1 (AO.list (List.drop 1 (numsA dots)))) B2 (AO.list (List.take 1 (numsA dots)))) B3 (AO.list ((numsA dots).drop 1 ++ (numsA dots).take 1))) := ((((ht.new hl0).new hA0).new hB1).new hB2).new hB3
    have kp3 : ∀ b o, b ≠ 64 → b ≠ 71 → σ b = some o → (upS (upS (upS (upS (upS σ l0 (AO.list [AV.int 1])) A0 (AO.list (List.replicate S (AV.int 1)))) B1 (AO.list (List.drop 1 (numsA dots)))) B2 (AO.list (List.take 1 (numsA dots)))) B3 (AO.list ((numsA dots).drop 1 ++ (numsA dots).take 1))) b = some o := fun b o _ _ e => upS_old hB3 (upS_old hB2 (upS_old hB1 (upS_old hA0 (upS_old hl0 e))))
    have eB3 : (upS (upS (upS (upS (upS σ l0 (AO.list [AV.int 1])) A0 (AO.list (List.replicate S (AV.int 1)))) B1 (AO.list (List.drop 1 (numsA dots)))) B2 (AO.list (List.take 1 (numsA dots)))) B3 (AO.list ((numsA dots).drop 1 ++ (numsA dots).take 1))) B3 = _ := upS_eq
    generalize (upS (upS (upS (upS (upS σ l0 (AO.list [AV.int 1])) A0 (AO.list (List.replicate S (AV.int 1)))) B1 (AO.list (List.drop 1 (numsA dots)))) B2 (AO.list (List.take 1 (numsA dots)))) B3 (AO.list ((numsA dots).drop 1 ++ (numsA dots).take 1))) = σ3 at eA0 tb3 kp3 eB3 ⊢
    have nA0 : List.replicate S (AV.int 1) = numsA (List.replicate S 1) := by simp [numsA]
    have nB3 : (numsA dots).drop 1 ++ (numsA dots).take 1 = numsA (dots.drop 1 ++ dots.take 1) := by simp [numsA, List.map_drop, List.map_take]
    rw [nA0] at eA0
    rw [nB3] at eB3
    repeat walk_at "st"
    refine ⟨by show 2 ≤ sizeLine; decide, fun Ln hLn => ?_⟩
    repeat walk_at "st"
    have hAL : A0 ≠ Ln := fun z => by rw [z, hLn] at eA0; cases eA0
    have hBL : B3 ≠ Ln := fun z => by rw [z, hLn] at eB3; cases eB3
    refine s_while (FI S Ln σ Ls) (S - 3) ?_ ?_
    · refine ⟨⟨[List.replicate S 1, dots.drop 1 ++ dots.take 1], _, _, _, by unfold frieze at hf; rw [hS] at hf; exact hf, by simp; omega, by simp, rfl, rfl, by simp, by simp; omega, upS_eq, ?_, ?_⟩, by walk_at "lk", by walk_at "lk", tb3.new hLn, fun b o h1 h2 e => upS_old hLn (kp3 b o h1 h2 e)⟩
      · refine ⟨rfl, fun i row hi => ?_⟩
        match i, hi with
        | 0, hi => cases hi; exact ⟨A0, rfl, upS_old hLn eA0⟩
        | 1, hi => cases hi; exact ⟨B3, rfl, upS_old hLn eB3⟩
        | i + 2, hi => simp at hi
      · intro i
        match i with
        | 0 => exact fun z => hAL (by simpa using z)
        | 1 => exact fun z => hBL (by simpa using z)
        | i + 2 => simp
    · rintro j m1 σ4 ⟨⟨acc, above, line, vs, hrun, hacc, h2, ha, hl, hal, hll, eL, hLa, hnL⟩, ml, ms, tb, kp⟩
      have hvl := hLa.len
      repeat walk_at "st"
      refine e_builtin g_len rfl (.fn _) ?_
      repeat walk_at "st"
      refine b_lenL eL (by omega) ?_
      repeat walk_at "st"
      constructor
      · intro hlt
        have hlt := of_decide_eq_true hlt
        obtain ⟨j, rfl⟩ : ∃ j', j = j' + 1 := ⟨j - 1, by omega⟩
        have hrun0 := hrun
        unfold friRun at hrun
        by_cases hok : friOk above line = true
        · rw [if_pos hok] at hrun
          obtain ⟨a1, hv1, ea1⟩ := hLa.at' _ _ ha
          obtain ⟨a2, hv2, ea2⟩ := hLa.at' _ _ hl
          repeat walk_at "st"
          refine ⟨2, rfl, ?_⟩
          refine x_back eL (by decide) (by omega) (by decide) (v := .ref a1) (by rw [show ((-2 : Int) + vs.length).toNat = acc.length - 2 by omega]; exact hv1) ?_
          repeat walk_at "st"
          refine ⟨1, rfl, ?_⟩
          refine x_back eL (by decide) (by omega) (by decide) (v := .ref a2) (by rw [show ((-1 : Int) + vs.length).toNat = acc.length - 1 by omega]; exact hv2) ?_
          repeat walk_at "st"
          refine ⟨by decide, fun Bw hBw => ?_⟩
          repeat walk_at "st"
          refine e_builtin g_range rfl (.ty _) ?_
          repeat walk_at "st"
          refine b_range1 fun r hr => ?_
          have hLB : Ln ≠ Bw := fun z => by rw [z, hBw] at eL; cases eL
          have hvB : ∀ i : Nat, vs[i]? ≠ some (AV.ref Bw) := fun i z => by
            have hi := (List.getElem?_eq_some_iff.mp z).1
            obtain ⟨a, h1, h2⟩ := hLa.at' i _ (List.getElem?_eq_getElem (by omega))
            rw [z] at h1; cases h1; rw [hBw] at h2; cases h2
          have ha1B : a1 ≠ Bw := fun z => by rw [z, hBw] at ea1; cases ea1
          have kp0 : ∀ b o, b ≠ 64 → b ≠ 71 → σ b = some o → b ≠ Bw := fun b o h1 h2 e z => by have := kp b o h1 h2 e; rw [z, hBw] at this; cases this
          have ha2B : a2 ≠ Bw := fun z => by rw [z, hBw] at ea2; cases ea2
          refine ⟨_, _, _, FJ S Ln a1 a2 Bw σ acc vs above line, it_range (a := 0) (n := S) (by rw [upS_eq]; simp) (by decide) (by omega), ?_, fun i m σ hI => trivial, fun i u m2 σ5 hu hI => ?_, fun m2 σ5 hI => ?_⟩
          · exact ⟨by walk_at "lk", by walk_at "lk", by walk_at "lk", by walk_at "lk", by walk_at "lk", upS_old hr (upS_old hBw eL), by rw [upS_old hr upS_eq]; rfl, upS_old hr (upS_old hBw ea1), upS_old hr (upS_old hBw ea2),
              hLa.mono fun a row e _ => upS_old hr (upS_old hBw e), (tb.new hBw).new hr, fun b o h1 h2 e => upS_old hr (upS_old hBw (kp b o h1 h2 e))⟩
          · obtain ⟨hiS, rfl⟩ := rngL_get hu
            obtain ⟨ml, ms, ma, mi, mb, eL, eB, eA, eI, hLa, tb, kp⟩ := hI
            unfold friOk at hok
            rw [Bool.and_eq_true, List.all_eq_true] at hok
            have hk := hok.2 i (List.mem_range.mpr (by omega))
            simp only [Bool.and_eq_true, decide_eq_true_eq, beq_iff_eq] at hk
            obtain ⟨⟨⟨⟨⟨k1, k2⟩, k3⟩, k4⟩, k5⟩, k6⟩ := hk
            obtain ⟨q, hq⟩ : ∃ q, (i + 1) % S = q := ⟨_, rfl⟩
            have hqS : q < S := hq ▸ Nat.mod_lt _ (by omega)
            have nxA : nx above i = above[q]?.getD 0 := by unfold nx; rw [hal, hq]
            have nxL : nx line i = line[q]?.getD 0 := by unfold nx; rw [hll, hq]
            have eZ : (0 + (i : Int)) = ((i : Nat) : Int) := by omega
            rw [eZ]
            repeat walk_at "st"
            refine o_fmod (by omega) ?_
            rw [show (((i : Int) + 1).fmod (S : Int)) = (((i + 1) % S : Nat) : Int) from (Int.ofNat_fmod (i + 1) _).symm, hq]
            repeat walk_at "st"
            refine e_global g_idm (.ref _) ?_
            refine c_def (by rfl) ?_
            repeat walk_at "st"
            refine x_item eI (by omega) (by omega) (by rw [Int.toNat_natCast]; exact numsA_get (by omega)) ?_
            repeat walk_at "st"
            refine x_item eI (by omega) (by omega) (by rw [Int.toNat_natCast]; exact numsA_get (by omega)) ?_
            refine o_mulN rfl rfl (by omega) (by omega) ?_
            repeat walk_at "st"
            refine x_item eA (by omega) (by omega) (by rw [Int.toNat_natCast]; exact numsA_get (by omega)) ?_
            rw [nxL] at k4 k5 k6
            rw [nxA] at k1 k2 k6
            obtain ⟨X, hX⟩ : ∃ X, line[i]?.getD 0 * (line[q]?.getD 0) = X := ⟨_, rfl⟩
            have hXb : X < 1000 * 1000 := by rw [← hX]; exact Nat.mul_lt_mul'' k3 k4
            rw [hX] at k5 k6 ⊢
            rw [show ((X : Nat) : Int) - 1 = ((X - 1 : Nat) : Int) by omega]
            repeat walk_at "st"
            refine c_int_divmod (N := N + 7) (by omega) (by omega) (by omega) tb fun t σ6 k6' tb6 ht6 et6 => ?_
            refine ⟨t, _, _, rfl, et6, ?_⟩
            rw [k6]
            repeat walk_at "st"
            refine ⟨fun e => by simp at e, fun _ => ?_⟩
            have kL : ∀ a vs', σ5 a = some (.list vs') → σ6 a = some (.list vs') := fun a vs' e => k6' _ _ (tabs.ne tb e).1 (tabs.ne tb e).2 e
            repeat walk_at "st"
            refine e_meth (id := "list.append") ?_
            repeat walk_at "st"
            refine ⟨meth_list PySem.F.slot_list_append (by rfl) (kL _ _ eB), ?_⟩
            repeat walk_at "st"
            refine m_append (kL _ _ eB) (by rw [sizeLine_eq]; simp [numsA, friNext_len]; omega) ⟨nofun, ?_⟩
            repeat walk_at "st"
            refine ⟨by walk_at "lk", by walk_at "lk", by walk_at "lk", by walk_at "lk", by walk_at "lk", upS_ne hLB (kL _ _ eL), ?_, upS_ne ha1B (kL _ _ eA), upS_ne ha2B (kL _ _ eI),
              hLa.mono fun a row e hv => upS_ne (fun z => by obtain ⟨i, hv⟩ := hv; exact hvB i (z ▸ hv)) (kL _ _ e), tb6.setL (kL _ _ eB), fun b o h1 h2 e => ?_⟩
            · rw [upS_eq, friNext_take (by omega), nxL, nxA, hX]; simp [numsA]
            · exact upS_ne (kp0 b o h1 h2 e) (k6' _ _ h1 h2 (kp b o h1 h2 e))
          · rw [rngL_len] at hI
            obtain ⟨ml, ms, ma, mi, mb, eL5, eB, eA, eI, hLa5, tb5, kp5⟩ := hI
            rw [List.take_of_length_le (by rw [friNext_len]; omega)] at eB
            have kpL : ∀ b o, b ≠ 64 → b ≠ 71 → σ b = some o → b ≠ Ln := fun b o h1 h2 e z => by
              rw [z] at e; rw [kp3 _ _ (z ▸ h1) (z ▸ h2) e] at hLn; cases hLn
            repeat walk_at "st"
            refine e_meth (id := "list.append") ?_
            repeat walk_at "st"
            refine ⟨meth_list PySem.F.slot_list_append (by rfl) eL5, ?_⟩
            repeat walk_at "st"
            refine m_append eL5 (by rw [sizeLine_eq]; omega) ⟨nofun, ?_⟩
            repeat walk_at "st"
            refine ⟨j, by omega, ⟨acc ++ [friNext above line], line, friNext above line, vs ++ [.ref Bw], hrun, by simp; omega, by simp; omega, ?_, ?_, hll, by rw [friNext_len]; omega, upS_eq, ?_, ?_⟩, by walk_at "lk", by walk_at "lk", tb5.setL eL5, fun b o h1 h2 e => upS_ne (kpL b o h1 h2 e) (kp5 b o h1 h2 e)⟩
            · rw [show (acc ++ [friNext above line]).length - 2 = acc.length - 1 by rw [List.length_append, List.length_singleton]; omega, List.getElem?_append_left (by omega)]; exact hl
            · rw [show (acc ++ [friNext above line]).length - 1 = acc.length by simp, List.getElem?_append_right (Nat.le_refl _)]; simp
            · have hs := hLa5.snoc eB
              refine hs.mono fun a row e hv => upS_ne (fun z => ?_) e
              obtain ⟨i, hv⟩ := hv
              rw [z] at hv
              rcases Nat.lt_or_ge i vs.length with q | q
              · rw [List.getElem?_append_left q] at hv; exact hnL i hv
              · rw [List.getElem?_append_right q] at hv
                rcases Nat.eq_zero_or_pos (i - vs.length) with z | z
                · rw [z] at hv; exact hLB (by simpa using hv.symm)
                · rw [List.getElem?_eq_none (by simp; omega)] at hv; cases hv
            · intro i hv
              rcases Nat.lt_or_ge i vs.length with q | q
              · rw [List.getElem?_append_left q] at hv; exact hnL i hv
              · rw [List.getElem?_append_right q] at hv
                rcases Nat.eq_zero_or_pos (i - vs.length) with z | z
                · rw [z] at hv; exact hLB (by simpa using hv.symm)
                · rw [List.getElem?_eq_none (by simp; omega)] at hv; cases hv
        · rw [if_neg hok] at hrun; cases hrun
      · intro hge
        have hge := of_decide_eq_false hge
        have hj : j = 0 := by omega
        subst hj
        unfold friRun at hrun
        cases hrun
        repeat walk_at "st"
        exact h Ln σ4 kp tb (hLa.rd eL)
end
/-! Comp2 -/
section
variable {elt iter iter2 : Expr} {x y : Str} {px py : Pos} {test : Expr} {scope : Scope} {pos : Pos} {it acc : Value} {env : Env}
noncomputable abbrev lc2 (elt iter iter2 test : Expr) (x y : Str) (px py : Pos) (scope : Scope) (pos : Pos) : Expr := .ListComp elt [⟨.Name x px, iter, [], 0⟩, ⟨.Name y py, iter2, [test], 0⟩] scope pos
theorem compTurn_two0 : compTurn (lc2 elt iter iter2 test x y px py scope pos) 0 it acc env = (do
      standAt iter.pos
      match ← pyNext it with
      | none => pure (.done .next)
      | some v =>
        letOwnedTupleGo (.Name x px) it v
        assign (.Name x px) env v
        let mut ok := true
        for c in ([] : List Expr) do
          if ok then ok ← isTrue c env (eval c env)
        if ok then
          let z ← eval iter2 env
          standAt iter2.pos
          let z ← foldedSetIterable iter2 env z
          let _ ← runOwn (.compStart (lc2 elt iter iter2 test x y px py scope pos) 1 (← holding [z] (pyIter z)) acc env) env
        again (.compLoop (lc2 elt iter iter2 test x y px py scope pos) 0 it acc env)) := by rfl
theorem compTurn_two1 : compTurn (lc2 elt iter iter2 test x y px py scope pos) 1 it acc env = (do
      standAt iter2.pos
      match ← pyNext it with
      | none => pure (.done .next)
      | some v =>
        letOwnedTupleGo (.Name y py) it v
        assign (.Name y py) env v
        let mut ok := true
        for c in [test] do
          if ok then ok ← isTrue c env (eval c env)
        if ok then
          (do let _ ← call (.builtin "list.append") [acc, ← eval elt env])
        again (.compLoop (lc2 elt iter iter2 test x y px py scope pos) 1 it acc env)) := by rfl

variable {prog : Program} {w : World} {A : Around} {R : Result → Shared → Prop} {s : Shared}
theorem codeAny_start1
    (h0 : codeAny (model prog w) A (.compLoop (lc2 elt iter iter2 test x y px py scope pos) 1 it acc env) R s)
    (h : wpAny (model prog w) A (pyIter it) (fun it' s' => codeAny (model prog w) A (.compLoop (lc2 elt iter iter2 test x y px py scope pos) 1 it' acc env) R s')
      (notedBy (model prog w) A env fun x s' => R (.error x) s') s) :
    codeAny (model prog w) A (.compStart (lc2 elt iter iter2 test x y px py scope pos) 1 it acc env) R s := by
  refine codeAny_of_tree ?_
  show wpAny _ _ ((compStart (lc2 elt iter iter2 test x y px py scope pos) 1 it acc env).onRaise (fun x => do noteFrame x env; standAt theWindowsPlace)) _ _ s
  refine wpAny_notedAt ?_
  unfold compStart
  show wpAny _ _ (ask >>= _) _ _ s
  refine wpAny_bind (wpAny_askSetting (wpAny_ite ?_))
  split
  · first
      | exact wpAny_bind (wpAny_pure (wpAny_pure (And.intro rfl h0)))
      | exact wpAny_pure (And.intro rfl h0)
  · first
      | exact wpAny_bind (wpAny_rule (wpAny_bind (wpAny_standAt (wpAny_bind (wpAny_mono h (fun it' s' h' => wpAny_pure (And.intro rfl h')) fun _ _ x => x)))))
      | (refine wpAny_bind (wpAny_rule ?_); show wpAny _ _ (standAt iter2.pos >>= _) _ _ s; exact wpAny_bind (wpAny_standAt (wpAny_bind (wpAny_mono h (fun it' s' h' => wpAny_pure (And.intro rfl h')) fun _ _ x => x))))
theorem codeAny_loop1 (I : Nat → Shared → Prop)
    (turn : ∀ n s, I n s → wpAny (model prog w) A (pyNext it) (fun r s₁ => match r with
      | none => R (.ok .next) s₁
      | some v => wpAny (model prog w) A (assign (.Name y py) env v) (fun _ s₂ =>
          wpAny (model prog w) A (isTrue test env (eval test env)) (fun ok s₃ =>
            if ok = true then wpAny (model prog w) A (eval elt env) (fun x s₄ =>
              wpAny (model prog w) A (call (.builtin "list.append") [acc, x]) (fun _ s₅ => ∃ m, m < n ∧ I m s₅) NoE s₄) NoE s₃
            else ∃ m, m < n ∧ I m s₃) NoE s₂) NoE s₁) NoE s)
    (n : Nat) (h : I n s) (ht : ∀ v, letOwnedTupleGo (.Name y py) it v = pure () := by intro _; rfl) :
    codeAny (model prog w) A (.compLoop (lc2 elt iter iter2 test x y px py scope pos) 1 it acc env) R s := by
  refine codeAny_loop rfl I (fun n s hI => ?_) n h
  show wpAny _ A ((compTurn (lc2 elt iter iter2 test x y px py scope pos) 1 it acc env).onRaise (fun x => do noteFrame x env; theTreesLotGoes x)) _ _ s
  refine wpAny_noted ?_
  rw [compTurn_two1]
  refine wpAny_bind (wpAny_standAt (wpAny_bind (wpAny_mono (turn n s hI) (fun r s₁ h₁ => ?_) fun _ _ h' => h'.elim)))
  cases r with
  | none => exact wpAny_pure h₁
  | some v =>
    refine wpAny_bind (wpAny_of_eq (ht v) ?_)
    refine wpAny_bind (wpAny_mono h₁ (fun _ s₂ h₂ => wpAny_bind (wpAny_tests_one (wpAny_mono h₂ (fun ok s₃ h₃ => ?_) fun _ _ h' => h'.elim))) fun _ _ h' => h'.elim)
    cases ok with
    | false => exact wpAny_pure ⟨rfl, h₃⟩
    | true =>
      exact wpAny_bind (wpAny_bind (wpAny_mono h₃ (fun x s₄ h₄ => wpAny_bind (wpAny_mono h₄ (fun _ s₅ h₅ => wpAny_pure (wpAny_pure ⟨rfl, h₅⟩)) fun _ _ h' => h'.elim)) fun _ _ h' => h'.elim))
theorem codeAny_loop0 (I : Nat → Shared → Prop)
    (turn : ∀ n s, I n s → wpAny (model prog w) A (pyNext it) (fun r s₁ => match r with
      | none => R (.ok .next) s₁
      | some v => wpAny (model prog w) A (assign (.Name x px) env v) (fun _ s₂ =>
          wpAny (model prog w) A (eval iter2 env) (fun z s₃ => wpAny (model prog w) A (pyIter z) (fun it' s₄ =>
            codeAny (model prog w) A (.compStart (lc2 elt iter iter2 test x y px py scope pos) 1 it' acc env) (fun r s₅ => match r with | .ok _ => ∃ m, m < n ∧ I m s₅ | .error _ => False) s₄) NoE s₃) NoE s₂) NoE s₁) NoE s)
    (hs : ∀ z, foldedSetIterable iter2 env z = pure z)
    (n : Nat) (h : I n s) (ht : ∀ v, letOwnedTupleGo (.Name x px) it v = pure () := by intro _; rfl) :
    codeAny (model prog w) A (.compLoop (lc2 elt iter iter2 test x y px py scope pos) 0 it acc env) R s := by
  refine codeAny_loop rfl I (fun n s hI => ?_) n h
  show wpAny _ A ((compTurn (lc2 elt iter iter2 test x y px py scope pos) 0 it acc env).onRaise (fun x => do noteFrame x env; theTreesLotGoes x)) _ _ s
  refine wpAny_noted ?_
  rw [compTurn_two0]
  refine wpAny_bind (wpAny_standAt (wpAny_bind (wpAny_mono (turn n s hI) (fun r s₁ h₁ => ?_) fun _ _ h' => h'.elim)))
  cases r with
  | none => exact wpAny_pure h₁
  | some v =>
    refine wpAny_bind (wpAny_of_eq (ht v) ?_)
    refine wpAny_bind (wpAny_mono h₁ (fun _ s₂ h₂ => ?_) fun _ _ h' => h'.elim)
    refine wpAny_bind (wpAny_tests_nil ?_)
    rw [if_pos rfl]
    refine wpAny_bind (wpAny_mono h₂ (fun z s₃ h₃ => ?_) fun _ _ h' => h'.elim)
    refine wpAny_bind (wpAny_standAt (wpAny_bind (wpAny_of_eq (hs z) ?_)))
    refine wpAny_bind (wpAny_holding (wpAny_mono h₃ (fun it' s₄ h₄ => ?_) fun _ _ h' => h'.elim))
    refine wpAny_bind (wpAny_runOwn (h := none) (codeAny_mono h₄ fun r s' hr => ?_))
    cases r with
    | ok f => exact wpAny_pure ⟨rfl, hr⟩
    | error e => exact hr.elim
end
/-! Comp3 -/
section
variable {prog : Program} {w : World} {n : Nat} {L : Addr} {m : Loc} {σ : Sto} {env : Env}
/-- the inner clause, one turn of the outer -/
theorem comp_inner {elt iter iter2 test : Expr} {x y : Str} {px py pos : Pos} {scope : Scope} {cenv : Env} {g : Frm} {A : Around} {s : Shared} {I : Addr} {is : Nat → Obj → Prop} {o : Obj} {us : List AV} {need : Sto → Prop} {u : AV} {C D : Addr} {acc : List AV}
    {Inv : Nat → List AV → Sto → Prop} {R : Result → Shared → Prop}
    (hA : AOk n A) (hR : Rel w g C (upL noL x u) σ s.heap) (IT : Iter prog w I us need is) (eI : s.heap.get? I = some o) (hi : is 0 o) (hsI : σ I = Option.none) (hgI : g I = Option.none) (hIC : I ≠ C)
    (hCl : cenv.locals = C) (hkind : cenv.scope.kind = .function) (hy : cenv.kindOf y = some .local) (hxy : x ≠ y)
    (eD : σ D = some (.list acc)) (h0 : Inv 0 acc σ) (hneed : ∀ j acc σ, Inv j acc σ → need σ ∧ acc.length ≤ 100000)
    (turn : ∀ j u2 acc σ, us[j]? = some u2 → Inv j acc σ → σ D = some (.list acc) → TB prog w n C (upL (upL noL x u) y u2) σ (PySem.isTrue test cenv (eval test cenv)) (fun b m1 σ1 => m1 = upL (upL noL x u) y u2 ∧
      (b = true → TE prog w n C m1 σ1 (eval elt cenv) (fun z m2 σ' => m2 = upL (upL noL x u) y u2 ∧ σ' D = some (.list acc) ∧ Inv (j + 1) (acc ++ [z]) (upS σ' D (.list (acc ++ [z]))))) ∧
      (b = false → σ1 D = some (.list acc) ∧ Inv (j + 1) acc σ1)))
    (fin : ∀ acc σ' h' tk, Inv us.length acc σ' → σ' D = some (.list acc) → Rel w g C noL σ' h' → R (.ok .next) { s with heap := h', toks := tk }) :
    codeAny (model prog w) A (.compStart (lc2 elt iter iter2 test x y px py scope pos) 1 (.ref I) (.ref D) cenv) R s := by
  have loop : codeAny (model prog w) A (.compLoop (lc2 elt iter iter2 test x y px py scope pos) 1 (.ref I) (.ref D) cenv) R s := by
    refine codeAny_loop1 (fun j s' => ∃ i acc mC σ' o' h' tk, s' = { s with heap := h', toks := tk } ∧ j + i = us.length ∧ Rel w (insF g I o') C mC σ' h' ∧ (∀ z v, (upL noL x u) z = some v → mC z = some v) ∧ is i o' ∧ σ' D = some (.list acc) ∧ Inv i acc σ') ?_ us.length
      ⟨0, acc, _, σ, o, s.heap, s.toks, rfl, rfl, hR.ins eI hsI hgI hIC, fun _ _ e => e, hi, eD, h0⟩
    rintro j s' ⟨i, acc, mC, σ', o', h', tk, rfl, hj, R', hmC, hi', eD, hI⟩
    by_cases hlt : i < us.length
    · obtain ⟨u2, hu⟩ : ∃ u2, us[i]? = some u2 := ⟨us[i], by simp [hlt]⟩
      refine IT.item A _ _ C mC σ' _ i u2 o' hA.1 R' (hneed _ _ _ hI).1 R'.insAt hi' hu fun c h3 t3 o3 rc hk3 e3 hi3 => ?_
      have R3 : Rel w (insF g I o3) C mC σ' h3 := ((R'.del hR.base hgI).butI hk3 hgI R'.insS R'.insL).ins e3 R'.insS hgI R'.insL
      refine wpAny_assign_Name ?_
      refine s_store (env := cenv) (P := fun _ m2 σ2 => m2 = upL mC y u2 ∧ σ2 = σ') rc ⟨rfl, rfl⟩ hCl hkind hy _ A _ _ hA R3 fun _ _ m4 σ4 h4 t4 p4 _ R4 => ?_
      obtain ⟨rfl, rfl⟩ := p4
      have R4' : Rel w (insF g I o3) C (upL (upL noL x u) y u2) σ4 h4 := R4.weaken (fun z v e => by
        unfold upL at e ⊢
        split at e
        · rename_i q; rw [if_pos q]; exact e
        · rename_i q; rw [if_neg q]; exact hmC z v e) fun _ _ e => e
      refine turn i u2 acc σ4 hu hI eD _ A _ _ hA R4' fun b b' m5 σ5 h5 t5 p5 r5 R5 => ?_
      subst r5
      obtain ⟨rfl, p5⟩ := p5
      have hxm : ∀ z v, (upL noL x u) z = some v → (upL (upL noL x u) y u2) z = some v := fun z v e => by
        have hz : z = x := by
          unfold upL at e
          split at e
          · assumption
          · cases e
        refine upL_ne (fun q => hxy (hz ▸ q)) e
      cases b with
      | true =>
        rw [if_pos rfl]
        refine p5.1 rfl _ A _ _ hA R5 fun z c m6 σ6 h6 t6 p6 r6 R6 => ?_
        obtain ⟨rfl, eD6, hI6⟩ := p6
        refine m_append (P := fun v m7 σ7 => v = .none ∧ σ7 = upS σ6 D (.list (acc ++ [z])) ∧ m7 = upL (upL noL x u) y u2) eD6 (by rw [sizeLine_eq]; have := (hneed _ _ _ hI).2; omega) ⟨rfl, rfl, rfl⟩ (.ref D) [c] (.ref D) (.cons r6 .nil) _ A _ _ hA R6 fun v7 c7 m7 σ7 h7 t7 p7 r7 R7 => ?_
        obtain ⟨rfl, rfl, rfl⟩ := p7
        exact ⟨j - 1, by omega, i + 1, acc ++ [z], _, _, o3, h7, t7, rfl, by omega, R7, hxm, hi3, upS_eq, hI6⟩
      | false =>
        rw [if_neg Bool.false_ne_true]
        obtain ⟨eD5, hI5⟩ := p5.2 rfl
        exact ⟨j - 1, by omega, i + 1, acc, _, _, o3, h5, t5, rfl, by omega, R5, hxm, hi3, eD5, hI5⟩
    · have hlen : i = us.length := by omega
      subst hlen
      refine IT.done A _ _ C mC σ' _ o' hA.1 R' (hneed _ _ _ hI).1 R'.insAt hi' fun h3 t3 hk3 => ?_
      have R3 : Rel w g C mC σ' h3 := (R'.del hR.base hgI).butI hk3 hgI R'.insS R'.insL
      exact fin acc σ' h3 t3 hI eD (R3.weaken (fun z v e => by cases e) fun _ _ e => e)
  exact codeAny_start1 loop (wpAny_noRaise (IT.self A _ _ 0 o hA.1 eI hi loop))

theorem comp_body2 {elt iter iter2 test : Expr} {x y : Str} {px py pos : Pos} {scope : Scope} {cl : List (Str × Addr)} {g : Frm} {A : Around} {s : Shared} {I : Addr} {is : Nat → Obj → Prop} {o : Obj} {vs us : List AV} {need need2 : Sto → Prop} {Inv : Addr → Nat → List AV → Sto → Prop} {Inv2 : Addr → Nat → Nat → List AV → Sto → Prop}
    {RR : Value → Addr → Result → Shared → Prop}
    (hA : AOk n A) (R : Rel w g L m σ s.heap) (IT : Iter prog w I vs need is) (eI : s.heap.get? I = some o) (hi : is 0 o) (hsI : σ I = Option.none) (hgI : g I = Option.none) (hIL : I ≠ L)
    (hcell : ∀ y ∈ scope.names, y.2 ≠ .cell) (hkind : scope.kind = .function) (hx : (relabel scope env).names.lookup x = some .local) (hy : (relabel scope env).names.lookup y = some .local) (hxy : x ≠ y) (hs2 : ∀ (e : Env) z, foldedSetIterable iter2 e z = pure z)
    (h0 : ∀ D, σ D = Option.none → Inv D 0 [] (upS σ D (.list []))) (hneed : ∀ D i acc σ, Inv D i acc σ → need σ)
    (turn0 : ∀ C D i u acc σ, vs[i]? = some u → Inv D i acc σ → σ D = some (.list acc) → TE prog w n C (upL noL x u) σ (eval iter2 (compEnvC scope cl C env)) (fun v2 m1 σ' => m1 = upL noL x u ∧ Iterable prog w v2 us σ' σ' need2 ∧ σ' D = some (.list acc) ∧ Inv2 D i 0 acc σ'))
    (hneed2 : ∀ D i j acc σ, Inv2 D i j acc σ → need2 σ ∧ acc.length ≤ 100000)
    (turn : ∀ C D i u j u2 acc σ, vs[i]? = some u → us[j]? = some u2 → Inv2 D i j acc σ → σ D = some (.list acc) → TB prog w n C (upL (upL noL x u) y u2) σ (PySem.isTrue test (compEnvC scope cl C env) (eval test (compEnvC scope cl C env))) (fun b m1 σ1 => m1 = upL (upL noL x u) y u2 ∧
      (b = true → TE prog w n C m1 σ1 (eval elt (compEnvC scope cl C env)) (fun z m2 σ' => m2 = upL (upL noL x u) y u2 ∧ σ' D = some (.list acc) ∧ Inv2 D i (j + 1) (acc ++ [z]) (upS σ' D (.list (acc ++ [z]))))) ∧
      (b = false → σ1 D = some (.list acc) ∧ Inv2 D i (j + 1) acc σ1)))
    (fin1 : ∀ D i acc σ, Inv2 D i us.length acc σ → Inv D (i + 1) acc σ)
    (fin : ∀ D C acc σ' h' tk, Inv D vs.length acc σ' → σ' D = some (.list acc) → Rel w g L m σ' h' → (∃ mc, h'.Ns C mc) → g C = Option.none → σ' C = Option.none → C ≠ L → RR (.ref D) C (.ok .next) { s with heap := h', toks := tk }) :
    wpAny (model prog w) A (newList []) (fun acc s₃ => wpAny (model prog w) A (newFunctionEnv scope env.globals cl [] env.qual Option.none .none (some env)) (fun cenv s₄ =>
      codeAny (model prog w) A (.compStart (lc2 elt iter iter2 test x y px py scope pos) 0 (.ref I) acc { cenv with scope := relabel scope env }) (RR acc cenv.locals) s₄) NoE s₃) NoE s := by
  refine wpAny_newObj_type ?_
  have R1 := R.push (o := listO [] 0) (.list 0 .nil) rfl
  have hDn := R.fresh
  generalize hD : s.heap.objs.size = D at R1 hDn ⊢
  generalize hH1 : s.heap.push (listO [] 0) = H1 at R1
  have eI1 : H1.get? I = some o := hH1 ▸ Heap.get?_push_of_some _ eI
  have hID : I ≠ D := fun q => by rw [q, ← hD, size_none] at eI; cases eI
  have hsI1 : upS σ D (.list []) I = Option.none := upS_ne hID hsI
  refine wpAny_newFunctionEnv hcell (by intro y hy; simp at hy) (fun h₁ hns hsb => ?_) hkind
  dsimp only at hns hsb ⊢
  generalize hC : H1.objs.size = C at hns hsb ⊢
  have hCn : H1.get? C = Option.none := hC ▸ size_none
  have hk₁ : ∀ a ob, H1.get? a = some ob → h₁.get? a = some ob := fun a ob e => (hsb.2 a (fun q => by rw [q, hCn] at e; cases e)).trans (Heap.get?_push_of_some _ e)
  let f := frmBut (upS σ D (.list [])) H1 I
  have hf : ∀ a ob, f a = some ob → H1.get? a = some ob ∧ upS σ D (.list []) a = Option.none := fun a ob e => by
    show _ ∧ _
    change (if a = I then Option.none else frmOf (upS σ D (.list [])) H1 a) = some ob at e
    split at e
    · cases e
    · exact ⟨(frmOf_some e).2, (frmOf_some e).1⟩
  have hg : ∀ a ob, g a = some ob → f a = some ob := fun a ob e => by
    show (if a = I then Option.none else frmOf (upS σ D (.list [])) H1 a) = some ob
    rw [if_neg (fun q => by rw [q, hgI] at e; cases e)]
    exact R1.frm e
  have hfL : ∀ ob, H1.get? L = some ob → f L = some ob := fun ob e => by
    show (if L = I then Option.none else frmOf (upS σ D (.list [])) H1 L) = some ob
    rw [if_neg (Ne.symm hIL)]
    rw [frmOf_none]
    · exact e
    · cases q : upS σ D (.list []) L with
      | none => rfl
      | some ao => exact absurd rfl (R1.apart L ao q).1
  have hfI : f I = Option.none := if_pos rfl
  have R2 : Rel w f C noL (upS σ D (.list [])) h₁ := R1.enterF hf hg hk₁ hCn hns (fun y v e => by cases e)
  have hIC : I ≠ C := fun q => by rw [q, hCn] at eI1; cases eI1
  obtain ⟨hgC, hsC, hCL⟩ := R1.noneAt hCn
  have loop : ∀ s₃ : Shared, s₃ = { s with heap := h₁, toks := s.toks + ([] : List (Str × Value)).length } →
      codeAny (model prog w) A (.compLoop (lc2 elt iter iter2 test x y px py scope pos) 0 (.ref I) (.ref D) (compEnvC scope cl C env)) (RR (.ref D) C) s₃ := by
    rintro s₃ rfl
    refine codeAny_loop0 (fun j s' => ∃ i acc mC σ' o' h' tk, s' = { s with heap := h', toks := tk } ∧ j + i = vs.length ∧ Rel w (insF f I o') C mC σ' h' ∧ is i o' ∧ σ' D = some (.list acc) ∧ Inv D i acc σ') ?_ (hs2 _) vs.length
      ⟨0, [], noL, upS σ D (.list []), o, h₁, _, rfl, rfl, R2.ins (hk₁ _ _ eI1) hsI1 hfI hIC, hi, upS_eq, h0 D hDn⟩
    rintro j s' ⟨i, acc, mC, σ', o', h', tk, rfl, hj, R', hi', eD, hI⟩
    by_cases hlt : i < vs.length
    · obtain ⟨u, hu⟩ : ∃ u, vs[i]? = some u := ⟨vs[i], by simp [hlt]⟩
      refine IT.item A _ _ C mC σ' _ i u o' hA.1 R' (hneed _ _ _ _ hI) R'.insAt hi' hu fun c h3 t3 o3 rc hk3 e3 hi3 => ?_
      have R3 : Rel w (insF f I o3) C mC σ' h3 := ((R'.del R2.base hfI).butI hk3 hfI R'.insS R'.insL).ins e3 R'.insS hfI R'.insL
      refine wpAny_assign_Name ?_
      refine s_store (env := compEnvC scope cl C env) (P := fun _ m2 σ2 => m2 = upL mC x u ∧ σ2 = σ') rc ⟨rfl, rfl⟩ rfl hkind hx _ A _ _ hA R3 fun _ _ m4 σ4 h4 t4 p4 _ R4 => ?_
      obtain ⟨rfl, rfl⟩ := p4
      have R4' : Rel w (insF f I o3) C (upL noL x u) σ4 h4 := R4.weaken (fun z v e => by
        unfold upL at e ⊢
        split at e
        · rename_i q; rw [if_pos q]; exact e
        · cases e) fun _ _ e => e
      refine turn0 C D i u acc σ4 hu hI eD _ A _ _ hA R4' fun v2 c2 m5 σ5 h5 t5 p5 r5 R5 => ?_
      obtain ⟨rfl, hit2, eD5, hI5⟩ := p5
      refine hit2 A _ _ C _ _ c2 hA.1 r5 R5 fun I2 is2 h6 t6 o6 IT2 R6 hsI2 hgI2 hI2C eI2 is20 _ => ?_
      refine comp_inner (R := fun r s₅ => match r with | .ok _ => ∃ m, m < j ∧ _ | .error _ => False) (Inv := Inv2 D i) hA R6 IT2 eI2 is20 hsI2 hgI2 hI2C rfl hkind hy hxy eD5 hI5 (fun j acc σ h => hneed2 D i j acc σ h)
        (fun j2 u2 acc σ h1 h2 h3 => turn C D i u j2 u2 acc σ hu h1 h2 h3) fun acc σ7 h7 t7 hI7 eD7 R7 => ?_
      exact ⟨j - 1, by omega, i + 1, acc, noL, σ7, o3, h7, t7, rfl, by omega, R7, hi3, eD7, fin1 _ _ _ _ hI7⟩
    · have hlen : i = vs.length := by omega
      subst hlen
      refine IT.done A _ _ C mC σ' _ o' hA.1 R' (hneed _ _ _ _ hI) R'.insAt hi' fun h3 t3 hk3 => ?_
      have R3 : Rel w f C mC σ' h3 := (R'.del R2.base hfI).butI hk3 hfI R'.insS R'.insL
      obtain ⟨mc, hn3, _⟩ := R3.ns
      refine fin D C acc σ' h3 t3 hI eD (R1.leaveF hg hfL R3) ⟨mc, hn3⟩ hgC ?_ hCL
      cases q : σ' C with
      | none => rfl
      | some ao => exact absurd rfl (R3.apart C ao q).1
  exact codeAny_compStart_list (loop _ rfl) (wpAny_noRaise (IT.self A _ _ 0 o hA.1 (hk₁ _ _ eI1) hi (loop _ rfl)))

theorem e_comp2 {elt iter iter2 test : Expr} {x y : Str} {px py pos : Pos} {scope : Scope} {cl : List (Str × Addr)} {P : AV → Loc → Sto → Prop}
    (h : TE prog w n L m σ (eval iter env) (fun v m1 σ1 => ∃ (vs us : List AV) (need need2 : Sto → Prop) (σ2 : Sto) (Inv : Addr → Nat → List AV → Sto → Prop) (Inv2 : Addr → Nat → Nat → List AV → Sto → Prop), Iterable prog w v vs σ1 σ2 need ∧ (∀ D, σ2 D = Option.none → Inv D 0 [] (upS σ2 D (.list []))) ∧ (∀ D i acc σ, Inv D i acc σ → need σ) ∧
      (∀ C D i u acc σ, vs[i]? = some u → Inv D i acc σ → σ D = some (.list acc) → TE prog w n C (upL noL x u) σ (eval iter2 (compEnvC scope cl C env)) (fun v2 m1 σ' => m1 = upL noL x u ∧ Iterable prog w v2 us σ' σ' need2 ∧ σ' D = some (.list acc) ∧ Inv2 D i 0 acc σ')) ∧
      (∀ D i j acc σ, Inv2 D i j acc σ → need2 σ ∧ acc.length ≤ 100000) ∧
      (∀ C D i u j u2 acc σ, vs[i]? = some u → us[j]? = some u2 → Inv2 D i j acc σ → σ D = some (.list acc) → TB prog w n C (upL (upL noL x u) y u2) σ (PySem.isTrue test (compEnvC scope cl C env) (eval test (compEnvC scope cl C env))) (fun b m1 σ1 => m1 = upL (upL noL x u) y u2 ∧
        (b = true → TE prog w n C m1 σ1 (eval elt (compEnvC scope cl C env)) (fun z m2 σ' => m2 = upL (upL noL x u) y u2 ∧ σ' D = some (.list acc) ∧ Inv2 D i (j + 1) (acc ++ [z]) (upS σ' D (.list (acc ++ [z]))))) ∧
        (b = false → σ1 D = some (.list acc) ∧ Inv2 D i (j + 1) acc σ1))) ∧
      (∀ D i acc σ, Inv2 D i us.length acc σ → Inv D (i + 1) acc σ) ∧
      (∀ D acc σ', Inv D vs.length acc σ' → σ' D = some (.list acc) → P (.ref D) m1 σ')))
    (hs : ∀ x, foldedSetIterable iter env x = pure x := by intro _; rfl) (hs2 : ∀ (e : Env) z, foldedSetIterable iter2 e z = pure z := by intro _ _; rfl) (hcl : closureFor scope env = pure cl := by rfl)
    (hcell : ∀ y ∈ scope.names, y.2 ≠ .cell := by decide) (hkind : scope.kind = .function := by rfl) (hx : (relabel scope env).names.lookup x = some .local := by rfl) (hy : (relabel scope env).names.lookup y = some .local := by rfl) (hxy : x ≠ y := by decide)
    (hnames : ∀ x ∈ scope.names, x.2 = .local → scope.names.lookup x.1 = some .local := by decide) :
    TE prog w n L m σ (eval (.ListComp elt [⟨.Name x px, iter, [], 0⟩, ⟨.Name y py, iter2, [test], 0⟩] scope pos) env) P := by
  intro g A s Q hA R k
  rw [eval_ListComp]
  refine wpAny_comprehension_free (use := Option.none) rfl hs hcl hkind hnames (h g A s _ hA R fun v c m1 σ1 h1 t1 p1 r1 R1 => ?_)
  obtain ⟨vs, us, need, need2, σ2, Inv, Inv2, hit, h0, hneed, turn0, hneed2, turn, fin1, fin⟩ := p1
  refine hit A _ g L m1 _ c hA.1 r1 R1 fun I is h2 t2 o IT R2 hsI hgI hLI eI is0 _ => ?_
  refine comp_body2 (RR := fun acc C r s' => compPost (model prog w) A NoE Option.none Q acc C r s') hA R2 IT eI is0 hsI hgI hLI hcell hkind hx hy hxy hs2 h0 hneed turn0 hneed2 turn fin1 ?_
  intro D C acc σ' h' tk hI eD R' hn hgC hsC hCL
  obtain ⟨mc, hn⟩ := hn
  refine ⟨mc, hn, fun h'' hs'' => ?_⟩
  exact k _ _ _ _ _ _ (fin D acc σ' hI eD) (.ref D) (R'.butI (fun b ob hb e => (hs''.2 b hb).trans e) hgC hsC hCL)
end
/-! Cho2 -/
/-- a list of lists -/
structure ListsAt (σ : Sto) (vs : List AV) (rows : List (List AV)) : Prop where
  len : vs.length = rows.length
  at' : ∀ (i : Nat) (row : List AV), rows[i]? = some row → ∃ a : Addr, vs[i]? = some (AV.ref a) ∧ σ a = some (.list row)
theorem ListsAt.mono {σ σ' : Sto} {vs : List AV} {rows : List (List AV)} (h : ListsAt σ vs rows) (k : ∀ a row, σ a = some (.list row) → (∃ i : Nat, vs[i]? = some (AV.ref a)) → σ' a = some (.list row)) : ListsAt σ' vs rows :=
  ⟨h.len, fun i row e => let ⟨a, h1, h2⟩ := h.at' i row e; ⟨a, h1, k a row h2 ⟨i, h1⟩⟩⟩
theorem ListsAt.nil {σ : Sto} : ListsAt σ [] [] := ⟨rfl, fun i row h => by simp at h⟩
theorem ListsAt.snoc {σ : Sto} {vs : List AV} {rows : List (List AV)} {a : Addr} {r : List AV} (h : ListsAt σ vs rows) (e : σ a = some (.list r)) : ListsAt σ (vs ++ [.ref a]) (rows ++ [r]) := by
  refine ⟨by simp [h.len], fun i row hi => ?_⟩
  rcases Nat.lt_or_ge i rows.length with q | q
  · rw [List.getElem?_append_left q] at hi
    obtain ⟨b, h1, h2⟩ := h.at' i row hi
    exact ⟨b, by rw [List.getElem?_append_left (by rw [h.len]; exact q)]; exact h1, h2⟩
  · rw [List.getElem?_append_right q] at hi
    have : i - rows.length = 0 := by
      rcases Nat.eq_zero_or_pos (i - rows.length) with z | z
      · exact z
      · rw [List.getElem?_eq_none (by simp; omega)] at hi; cases hi
    rw [this] at hi; cases hi
    exact ⟨a, by rw [List.getElem?_append_right (by rw [h.len]; exact q), h.len, this]; rfl, e⟩
noncomputable def letA (c : List Nat) : List AV := c.map fun a => .str (SL [a])
theorem empty_eq : Str.ofString "" = SL [] := by decide +kernel
noncomputable def wordsL (W : List (List Nat)) : List AV := W.map fun w => .str (SL w)
/-- the first ways -/
structure CI0 (σa : Sto) (D : Addr) (i : Nat) (acc : List AV) (σ : Sto) : Prop where
  new : σa D = Option.none
  kp : ∀ b o, σa b = some o → σ b = some o
  ls : ListsAt σ acc (List.replicate i [AV.str (SL [])])
  ne : ∀ j : Nat, acc[j]? ≠ some (AV.ref D)
  nw : ∀ (j : Nat) (a : Addr), acc[j]? = some (AV.ref a) → σa a = Option.none
/-- the outer loop -/
structure CO (S : Nat) (Ln Lc : Addr) (meets : List (List Nat)) (σ0 : Sto) (M : Addr) (Ls : List (List Nat)) (i : Nat) (m : Loc) (σ : Sto) : Prop where
  ex : ∃ j lines ways wvs lvs Wy, j + i = S - 1 ∧ chRun meets j (1 + i) lines ways = some Ls ∧ m "ways" = some (AV.ref Wy) ∧ σ Wy = some (AO.list wvs) ∧ ListsAt σ wvs (ways.map wordsL) ∧ ways.length = S ∧
    σ Ln = some (AO.list lvs) ∧ LinesAt σ lvs lines ∧ lines.length = i ∧ (∀ k : Nat, lvs[k]? ≠ some (AV.ref Ln)) ∧ Wy ≠ Ln ∧ (∀ k : Nat, wvs[k]? ≠ some (AV.ref Ln))
  mm : m "meets" = some (.ref M)
  ms : m "size" = some (.int S)
  ml : m "lines" = some (.ref Ln)
  cl : ∃ v0, σ Lc = some (.cell v0)
  kp : ∀ b o, σ0 b = some o → σ b = some o
/-- the lengths -/
structure CL (σ1 : Sto) (ways : List (List (List Nat))) (D : Addr) (i : Nat) (acc : List AV) (σ : Sto) : Prop where
  new : σ1 D = Option.none
  kp : ∀ b o, σ1 b = some o → σ b = some o
  eq : acc = numsA ((ways.take i).map List.length)
/-- the inner loop -/
structure CJ (S : Nat) (Ln Lc F Wy : Addr) (meets : List (List Nat)) (σ0 : Sto) (M : Addr) (i : Nat) (lines : List (List Nat)) (lvs : List AV) (ways : List (List (List Nat))) (wvs : List AV) (k : Nat) (m : Loc) (σ : Sto) : Prop where
  ex : ∃ fvs, σ F = some (AO.list fvs) ∧ ListsAt σ fvs (((chNext meets ways (1 + i)).take k).map wordsL) ∧ (∀ j : Nat, fvs[j]? ≠ some (AV.ref F)) ∧ (∀ j : Nat, fvs[j]? ≠ some (AV.ref Ln))
  mm : m "meets" = some (.ref M)
  ms : m "size" = some (.int S)
  ml : m "lines" = some (.ref Ln)
  mw : m "ways" = some (.ref Wy)
  mf : m "further" = some (.ref F)
  mp : m "span" = some (.int (1 + i))
  eW : σ Wy = some (.list wvs)
  hW : ListsAt σ wvs (ways.map wordsL)
  eL : σ Ln = some (.list lvs)
  hL : LinesAt σ lvs lines
  cl : ∃ v0, σ Lc = some (.cell v0)
  kp : ∀ b o, σ0 b = some o → σ b = some o
/-- the words -/
structure CW (σ1 : Sto) (acc0 : List (List Nat)) (D : Addr) (acc : List AV) (σ : Sto) : Prop where
  new : σ1 D = Option.none
  kp : ∀ b o, σ1 b = some o → σ b = some o
  eq : acc = wordsL acc0
theorem snoc_ne {vs : List AV} {a b : Addr} (h : ∀ j : Nat, vs[j]? ≠ some (AV.ref b)) (hab : a ≠ b) : ∀ j : Nat, (vs ++ [AV.ref a])[j]? ≠ some (AV.ref b) := by
  intro j hv
  rcases Nat.lt_or_ge j vs.length with q | q
  · rw [List.getElem?_append_left q] at hv; exact h j hv
  · rw [List.getElem?_append_right q] at hv
    rcases Nat.eq_zero_or_pos (j - vs.length) with z | z
    · rw [z] at hv; exact hab (by simpa using hv)
    · rw [List.getElem?_eq_none (by simp; omega)] at hv; cases hv
theorem ListsAt.ne {σ : Sto} {vs : List AV} {rows : List (List AV)} (h : ListsAt σ vs rows) {b : Addr} (e : σ b = Option.none) : ∀ j : Nat, vs[j]? ≠ some (AV.ref b) := by
  intro j hv
  have hj := (List.getElem?_eq_some_iff.mp hv).1
  obtain ⟨a, h1, h2⟩ := h.at' j _ (List.getElem?_eq_getElem (by rw [← h.len]; exact hj))
  rw [hv] at h1; cases h1; rw [e] at h2; cases h2
theorem LinesAt.ne {σ : Sto} {vs : List AV} {rows : List (List Nat)} (h : LinesAt σ vs rows) {b : Addr} (e : σ b = Option.none) : ∀ j : Nat, vs[j]? ≠ some (AV.ref b) := by
  intro j hv
  have hj := (List.getElem?_eq_some_iff.mp hv).1
  obtain ⟨a, h1, h2⟩ := h.at' j _ (List.getElem?_eq_getElem (by rw [← h.len]; exact hj))
  rw [hv] at h1; cases h1; rw [e] at h2; cases h2
theorem ListsAt.up {σ : Sto} {vs : List AV} {rows : List (List AV)} {b : Addr} {o : AO} (h : ListsAt σ vs rows) (e : ∀ j : Nat, vs[j]? ≠ some (AV.ref b)) : ListsAt (upS σ b o) vs rows :=
  h.mono fun a row ea hv => upS_ne (fun z => by obtain ⟨j, hv⟩ := hv; exact e j (z ▸ hv)) ea
theorem LinesAt.up {σ : Sto} {vs : List AV} {rows : List (List Nat)} {b : Addr} {o : AO} (h : LinesAt σ vs rows) (e : ∀ j : Nat, vs[j]? ≠ some (AV.ref b)) : LinesAt (upS σ b o) vs rows :=
  h.mono fun a row ea hv => upS_ne (fun z => by obtain ⟨j, hv⟩ := hv; exact e j (z ▸ hv)) ea
theorem ListsAt.sub {σ σ' : Sto} {vs : List AV} {rows : List (List AV)} (h : ListsAt σ vs rows) (k : ∀ b o, σ b = some o → σ' b = some o) : ListsAt σ' vs rows := h.mono fun a row e _ => k _ _ e
theorem LinesAt.sub {σ σ' : Sto} {vs : List AV} {rows : List (List Nat)} (h : LinesAt σ vs rows) (k : ∀ b o, σ b = some o → σ' b = some o) : LinesAt σ' vs rows := h.mono fun a row e _ => k _ _ e
theorem ListsAt.upC {σ : Sto} {vs : List AV} {rows : List (List AV)} {b : Addr} {v : Option AV} {o : AO} (h : ListsAt σ vs rows) (e : σ b = some (.cell v)) : ListsAt (upS σ b o) vs rows :=
  h.mono fun a row ea hv => upS_ne (fun z => by rw [z, e] at ea; cases ea) ea
theorem LinesAt.upC {σ : Sto} {vs : List AV} {rows : List (List Nat)} {b : Addr} {v : Option AV} {o : AO} (h : LinesAt σ vs rows) (e : σ b = some (.cell v)) : LinesAt (upS σ b o) vs rows :=
  h.mono fun a row ea hv => upS_ne (fun z => by rw [z, e] at ea; cases ea) ea
theorem LinesAt.nil {σ : Sto} : LinesAt σ [] [] := ⟨rfl, fun i row h => by simp at h⟩
theorem numsA_snoc (l : List Nat) (d : Nat) : numsA l ++ [.int d] = numsA (l ++ [d]) := by simp [numsA]
theorem wordsL_snoc (l : List (List Nat)) (d : List Nat) : wordsL l ++ [.str (SL d)] = wordsL (l ++ [d]) := by simp [wordsL]
theorem kpNew {σ σ' : Sto} {b : Addr} (k : ∀ b o, σ b = some o → σ' b = some o) (e : σ' b = Option.none) : σ b = Option.none := by
  cases z : σ b with
  | none => rfl
  | some o => rw [k _ _ z] at e; cases e
section
variable {prog : Program} {w : World} {n : Nat} {L : Addr} {m : Loc} {σ : Sto} {P : AV → Loc → Sto → Prop}
set_option maxHeartbeats 1000000 in
theorem c_choices {N : Nat} {M : Addr} {mvs : List AV} {meets : List (List Nat)} {Ls : List (List Nat)} (eM : σ M = some (.list mvs)) (hM : ListsAt σ mvs (meets.map letA)) (h2 : 2 ≤ meets.length) (h10 : meets.length ≤ 10) (hc : ∀ c ∈ meets, c.length ≤ 10) (hf : choices meets = some Ls)
    (h : ∀ R σ', (∀ b o, σ b = some o → σ' b = some o) → Rd σ' (.ref R) (dataL Ls) → P (.ref R) m σ') :
    ∀ ws, VRs [.ref M] ws → TE prog w (N + 1) L m σ (call (.ref 130) ws) P := by
  refine call_defC (f := 130) (xs := ["meets"]) (m0 := upL noL "meets" (.ref M)) (by rfl) (by rfl) (fun ws hws => ?_) ?_ ?_ ?_ ?_ (fun L' σ0 hext hcell => ?_)
  · rcases hws with _ | ⟨_, _ | _⟩; rfl
  · intro x hx
    rcases List.mem_cons.mp hx with rfl | hx
    · exact .inl rfl
    · cases hx
  · intro x v e
    unfold upL at e
    split at e
    · rename_i q; subst q; cases e; exact ⟨rfl, rfl⟩
    · cases e
  · decide
  · decide
  · obtain ⟨hC1, hC2⟩ := hcell "corner" _ rfl
    obtain ⟨S, hS⟩ : ∃ S, meets.length = S := ⟨_, rfl⟩
    have hml : mvs.length = S := by rw [hM.len]; simp [hS]
    have eM0 := hext _ _ eM
    repeat walk_at "st"
    refine e_builtin g_len rfl (.fn _) ?_
    repeat walk_at "st"
    refine b_lenL eM0 (by omega) ?_
    rw [hml]
    repeat walk_at "st"
    refine ⟨by decide, fun Ln hLn => ?_⟩
    repeat walk_at "st"
    have eMa := upS_old (o := AO.list []) hLn eM0
    have kpa : ∀ b o, σ b = some o → upS σ0 Ln (AO.list []) b = some o := fun b o e => upS_old hLn (hext b o e)
    have eLa : upS σ0 Ln (AO.list []) Ln = some (.list []) := upS_eq
    have eCa : upS σ0 Ln (AO.list []) (L' + 1) = _ := upS_old hLn hC2
    have hLnσ : σ Ln = Option.none := by
      cases z : σ Ln with
      | none => rfl
      | some o => rw [hext _ _ z] at hLn; cases hLn
    generalize upS σ0 Ln (AO.list []) = σa at eMa kpa eLa eCa ⊢
    refine s_assignComp ?_
    repeat walk_at "st"
    refine ⟨mvs, _, _, CI0 σa, it_list eMa, by omega, ?_, fun D i acc σ hI => hI.kp _ _ eMa, ?_, ?_⟩
    · intro D hD
      exact ⟨hD, fun b o e => upS_old hD e, ListsAt.nil, fun j => by simp, fun j a e => by simp at e⟩
    · intro C D i u acc σ1 hu hI eD
      repeat walk_at "st"
      refine ⟨by decide, fun a ha => ?_⟩
      rw [empty_eq]
      obtain ⟨hD, kp, ls, ne, nw⟩ := hI
      have haD : a ≠ D := fun z => by rw [z, eD] at ha; cases ha
      refine ⟨upS_old ha eD, hD, fun b o e => upS_ne (fun z => by rw [z, hD] at e; cases e) (upS_old ha (kp b o e)), ?_, ?_, ?_⟩
      · rw [List.replicate_succ']
        refine (ListsAt.snoc (ls.mono fun b row e hv => upS_old ha e) upS_eq).mono fun b row e hv => upS_ne (fun z => ?_) e
        obtain ⟨j, hv⟩ := hv
        rw [z] at hv
        rcases Nat.lt_or_ge j acc.length with q | q
        · rw [List.getElem?_append_left q] at hv; exact ne j hv
        · rw [List.getElem?_append_right q] at hv
          rcases Nat.eq_zero_or_pos (j - acc.length) with z | z
          · rw [z] at hv; exact haD (by simpa using hv)
          · rw [List.getElem?_eq_none (by simp; omega)] at hv; cases hv
      · intro j hv
        rcases Nat.lt_or_ge j acc.length with q | q
        · rw [List.getElem?_append_left q] at hv; exact ne j hv
        · rw [List.getElem?_append_right q] at hv
          rcases Nat.eq_zero_or_pos (j - acc.length) with z | z
          · rw [z] at hv; exact haD (by simpa using hv)
          · rw [List.getElem?_eq_none (by simp; omega)] at hv; cases hv
      · intro j b hv
        rcases Nat.lt_or_ge j acc.length with q | q
        · rw [List.getElem?_append_left q] at hv; exact nw j b hv
        · rw [List.getElem?_append_right q] at hv
          rcases Nat.eq_zero_or_pos (j - acc.length) with z | z
          · rw [z] at hv
            have : b = a := by simpa using hv.symm
            rw [this]
            cases q : σa a with
            | none => rfl
            | some o => rw [kp _ _ q] at ha; cases ha
          · rw [List.getElem?_eq_none (by simp; omega)] at hv; cases hv
    · intro Wy wvs σb hI eWy
      obtain ⟨hWya, kpb, lsb, neb, nwb⟩ := hI
      rw [hml] at lsb
      repeat walk_at "st"
      refine e_builtin g_range rfl (.ty _) ?_
      repeat walk_at "st"
      refine b_range2 fun r hr => ?_
      have hLb := hLn
      refine ⟨_, _, _, CO S Ln (L' + 1) meets σ M Ls, it_range (a := 1) (n := S - 1) (by rw [upS_eq, show (1 : Int) + ((S - 1 : Nat) : Int) = S by omega]) (by decide) (by omega), ?_, fun i m σ hI => trivial, fun i u m2 σ5 hu hI => ?_, fun m2 σ5 hI => ?_⟩
      · have kr : ∀ b o, σb b = some o → upS σb r (.rng 1 S) b = some o := fun b o e => upS_old hr e
        refine ⟨⟨S - 1, [], List.replicate S [[]], wvs, [], Wy, rfl, by unfold choices at hf; rw [hS] at hf; exact hf, by walk_at "lk", kr _ _ eWy, ?_, by simp, kr _ _ (kpb _ _ eLa), LinesAt.nil, rfl, fun k => by simp, ?_, ?_⟩, by walk_at "lk", by walk_at "lk", by walk_at "lk", ⟨_, kr _ _ (kpb _ _ eCa)⟩, fun b o e => kr _ _ (kpb _ _ (kpa _ _ e))⟩
        · rw [List.map_replicate]; exact lsb.sub kr
        · exact fun z => by rw [z, eLa] at hWya; cases hWya
        · intro k hv; have := nwb _ _ hv; rw [eLa] at this; cases this
      · obtain ⟨hiS, rfl⟩ := rngL_get hu
        obtain ⟨⟨j, lines, ways, wvs, lvs, Wy, hj, hrun, mw, eW, hW, hwl, eL, hLi, hll, hnL, hWL, hwL⟩, mm, ms, ml, ⟨v0, eC⟩, kp⟩ := hI
        obtain ⟨j, rfl⟩ : ∃ j', j = j' + 1 := ⟨j - 1, by omega⟩
        unfold chRun at hrun
        by_cases hok : chOk ways = true
        · rw [if_pos hok] at hrun
          have hwv : wvs.length = S := by rw [hW.len]; simp [hwl]
          have hlv : lvs.length = i := by rw [hLi.len, hll]
          repeat walk_at "st"
          refine e_meth (id := "list.append") ?_
          repeat walk_at "st"
          refine ⟨meth_list PySem.F.slot_list_append (by rfl) eL, ?_⟩
          repeat walk_at "st"
          refine e_comp ?_
          repeat walk_at "st"
          refine ⟨wvs, _, _, CL σ5 ways, it_list eW, by omega, ?_, fun D k acc σ hI => hI.kp _ _ eW, ?_, ?_⟩
          · intro D hD
            exact ⟨hD, fun b o e => upS_old hD e, rfl⟩
          · intro C D k u acc σ6 hu hI eD
            have hk : k < ways.length := by have := (List.getElem?_eq_some_iff.mp hu).1; omega
            obtain ⟨a, hv1, ha⟩ := hW.at' k (wordsL ways[k]) (by rw [List.getElem?_map, List.getElem?_eq_getElem hk]; rfl)
            rw [hu] at hv1; cases hv1
            have hsz : ways[k].length ≤ 1000 := by
              unfold chOk at hok
              have := List.all_eq_true.mp hok _ (List.getElem_mem hk)
              simp only [Bool.and_eq_true, decide_eq_true_eq] at this
              exact this.1
            repeat walk_at "st"
            refine e_builtin g_len rfl (.fn _) ?_
            repeat walk_at "st"
            refine b_lenL (hI.kp _ _ ha) (by simp [wordsL]; omega) ?_
            obtain ⟨hD, kpD, eq⟩ := hI
            refine ⟨eD, hD, fun b o e => upS_ne (fun z => by rw [z, hD] at e; cases e) (kpD b o e), ?_⟩
            rw [eq, List.take_add_one, List.getElem?_eq_getElem hk, show (wordsL ways[k]).length = ways[k].length by simp [wordsL], numsA_snoc, List.map_append]
            rfl
          · intro D acc σ6 hI eD
            obtain ⟨hD, kpD, eq⟩ := hI
            rw [hwv, ← hwl, List.take_length] at eq
            have hLD : Ln ≠ D := fun z => by rw [z, hD] at eL; cases eL
            repeat walk_at "st"
            refine m_append (kpD _ _ eL) (by rw [sizeLine_eq]; omega) ⟨nofun, ?_⟩
            have eL6 : upS σ6 Ln (.list (lvs ++ [.ref D])) Ln = some (.list (lvs ++ [.ref D])) := upS_eq
            have hLi6 : LinesAt (upS σ6 Ln (.list (lvs ++ [.ref D]))) (lvs ++ [.ref D]) (lines ++ [ways.map List.length]) :=
              LinesAt.up (LinesAt.snoc (hLi.sub kpD) (by rw [eD, eq])) (snoc_ne hnL (Ne.symm hLD))
            have hnL6 : ∀ k : Nat, (lvs ++ [AV.ref D])[k]? ≠ some (AV.ref Ln) := snoc_ne hnL (Ne.symm hLD)
            have eW6 : upS σ6 Ln (.list (lvs ++ [.ref D])) Wy = some (.list wvs) := upS_ne hWL (kpD _ _ eW)
            have hW6 : ListsAt (upS σ6 Ln (.list (lvs ++ [.ref D]))) wvs (ways.map wordsL) := ListsAt.up (hW.sub kpD) hwL
            have kpL : ∀ b o, σ b = some o → b ≠ Ln := fun b o e z => by rw [z, hLnσ] at e; cases e
            have kp6 : ∀ b o, σ b = some o → upS σ6 Ln (.list (lvs ++ [.ref D])) b = some o := fun b o e => upS_ne (kpL b o e) (kpD _ _ (kp b o e))
            have hCL : L' + 1 ≠ Ln := fun z => by rw [z] at eC; rw [eC] at eL; cases eL
            have eC6 : upS σ6 Ln (.list (lvs ++ [.ref D])) (L' + 1) = some (.cell v0) := upS_ne hCL (kpD _ _ eC)
            generalize upS σ6 Ln (.list (lvs ++ [.ref D])) = σ7 at eL6 hLi6 eW6 hW6 kp6 eC6 ⊢
            generalize lvs ++ [AV.ref D] = lvs' at eL6 hLi6 hnL6
            generalize hlin' : lines ++ [ways.map List.length] = lines' at hLi6 hrun
            have hll' : lines'.length = i + 1 := by rw [← hlin']; simp [hll]
            clear hlin'
            repeat walk_at "st"
            refine ⟨by decide, fun F hF => ?_⟩
            have hFL : F ≠ Ln := fun z => by rw [z, eL6] at hF; cases hF
            have hFW : F ≠ Wy := fun z => by rw [z, eW6] at hF; cases hF
            have hFC : F ≠ L' + 1 := fun z => by rw [z, eC6] at hF; cases hF
            have hwF := hW6.ne hF
            have hlF := hLi6.ne hF
            repeat walk_at "st"
            refine e_builtin g_range rfl (.ty _) ?_
            repeat walk_at "st"
            refine b_range1 fun r hr => ?_
            refine ⟨_, _, _, CJ S Ln (L' + 1) F Wy meets σ M i lines' lvs' ways wvs, it_range (a := 0) (n := S) (by rw [upS_eq]; simp) (by decide) (by omega), ?_, fun i m σ hI => trivial, fun k u m2 σ8 hu hI => ?_, fun m2 σ8 hI => ?_⟩
            · have kr : ∀ b o, σ7 b = some o → upS (upS σ7 F (.list [])) r (.rng 0 S) b = some o := fun b o e => upS_old hr (upS_old hF e)
              exact ⟨⟨[], upS_old hr upS_eq, ListsAt.nil, fun j => by simp, fun j => by simp⟩, by walk_at "lk", by walk_at "lk", by walk_at "lk", by walk_at "lk", by walk_at "lk", by walk_at "lk", kr _ _ eW6, hW6.sub kr, kr _ _ eL6, hLi6.sub kr, ⟨_, kr _ _ eC6⟩, fun b o e => kr _ _ (kp6 b o e)⟩
            · obtain ⟨hkS, rfl⟩ := rngL_get hu
              obtain ⟨⟨fvs, eF, hFv, hFF, hFLn⟩, mm, ms, ml, mw, mf, mp, eW, hW, eL, hLi, ⟨v0, eC⟩, kp⟩ := hI
              obtain ⟨q, hq⟩ : ∃ q, (k + (1 + i)) % S = q := ⟨_, rfl⟩
              have hqS : q < S := hq ▸ Nat.mod_lt _ (by omega)
              have hqm : q < meets.length := by omega
              obtain ⟨c, hcv, ec⟩ := hM.at' q (letA meets[q]) (by rw [List.getElem?_map, List.getElem?_eq_getElem hqm]; rfl)
              have hc10 := hc _ (List.getElem_mem hqm)
              have hkw : k < ways.length := by omega
              obtain ⟨a, hav, ea⟩ := hW.at' k (wordsL ways[k]) (by rw [List.getElem?_map, List.getElem?_eq_getElem hkw]; rfl)
              have hsz : ways[k].length ≤ 1000 ∧ ∀ wd ∈ ways[k], wd.length ≤ 100 := by
                unfold chOk at hok
                have := List.all_eq_true.mp hok _ (List.getElem_mem hkw)
                simp only [Bool.and_eq_true, decide_eq_true_eq, List.all_eq_true] at this
                exact this
              rw [show (0 : Int) + (k : Int) = k by omega]
              repeat walk_at "st"
              refine s_assignC (c := L' + 1) (by rfl) ?_
              repeat walk_at "st"
              refine o_fmod (by omega) ?_
              rw [show (((k : Int) + (1 + (i : Int))).fmod (S : Int)) = (((k + (1 + i)) % S : Nat) : Int) from (Int.ofNat_fmod (k + (1 + i)) _).symm, hq]
              refine x_item (kp _ _ eM) (by omega) (by omega) (by rw [Int.toNat_natCast]; exact hcv) ?_
              refine ⟨v0, eC, ?_⟩
              have eC9 : upS σ8 (L' + 1) (.cell (some (.ref c))) (L' + 1) = some (.cell (some (.ref c))) := upS_eq
              have kC : ∀ b vs, σ8 b = some (.list vs) → upS σ8 (L' + 1) (.cell (some (.ref c))) b = some (.list vs) := fun b vs e => upS_ne (fun z => by rw [z, eC] at e; cases e) e
              have hFv9 := hFv.upC (o := .cell (some (.ref c))) eC
              have hW9 := hW.upC (o := .cell (some (.ref c))) eC
              have hLi9 := hLi.upC (o := .cell (some (.ref c))) eC
              have kp9 : ∀ b o, σ b = some o → upS σ8 (L' + 1) (.cell (some (.ref c))) b = some o := fun b o e => upS_ne (fun z => by rw [z, hC1] at e; cases e) (kp b o e)
              have eF9 := kC _ _ eF
              have eW9 := kC _ _ eW
              have eL9 := kC _ _ eL
              have ea9 := kC _ _ ea
              have ec9 := kp9 _ _ ec
              generalize upS σ8 (L' + 1) (.cell (some (.ref c))) = σ9 at eC9 hFv9 hW9 hLi9 kp9 eF9 eW9 eL9 ea9 ec9 ⊢
              repeat walk_at "st"
              refine e_meth (id := "list.append") ?_
              repeat walk_at "st"
              refine ⟨meth_list PySem.F.slot_list_append (by rfl) eF9, ?_⟩
              repeat walk_at "st"
              refine e_comp2 ?_
              repeat walk_at "st"
              refine x_item eW9 (by omega) (by omega) (by rw [Int.toNat_natCast]; exact hav) ?_
              generalize hwk : ways[k] = wk at ea9 hsz
              generalize hcq : meets[q] = cq at ec9 hc10
              refine ⟨wordsL wk, letA cq, _, fun σ => σ c = some (.list (letA cq)), _, fun D k acc σ => CW σ9 (chWays cq (wk.take k)) D acc σ,
                fun D k j acc σ => k < wk.length ∧ CW σ9 (chWays cq (wk.take k) ++ ((cq.take j).filter fun a => !decide (a ∈ wk[k]?.getD [])).map fun a => wk[k]?.getD [] ++ [a]) D acc σ, it_list ea9, ?_, fun D k acc σ hI => hI.kp _ _ ea9, ?_, ?_, ?_, ?_, ?_⟩
              · intro D hD
                exact ⟨hD, fun b o e => upS_old hD e, by simp [chWays, wordsL]⟩
              · intro C D k' u acc σ10 hu hI eD
                refine e_cell (by rfl) (hI.kp _ _ eC9) ⟨rfl, it_list (hI.kp _ _ ec9), eD, by have := (List.getElem?_eq_some_iff.mp hu).1; simpa [wordsL] using this, hI.new, hI.kp, by rw [hI.eq]; simp⟩
              · rintro D k' j acc σ10 ⟨hk', hI⟩
                refine ⟨hI.kp _ _ ec9, ?_⟩
                rw [hI.eq]
                unfold wordsL
                rw [List.length_map, List.length_append, List.length_map]
                have h1 := chWays_len cq hc10 (wk.take k')
                have h2 : (wk.take k').length ≤ 1000 := by rw [List.length_take]; have := hsz.1; omega
                have h3 := List.length_filter_le (fun a => !decide (a ∈ wk[k']?.getD [])) (cq.take j)
                have h4 : (cq.take j).length ≤ 10 := by rw [List.length_take]; omega
                omega
              · rintro C D k' u j u2 acc σ10 hu hu2 ⟨hk', hI⟩ eD
                have hj' : j < cq.length := by have := (List.getElem?_eq_some_iff.mp hu2).1; simpa [letA] using this
                obtain rfl : u = .str (SL wk[k']) := by unfold wordsL at hu; rw [List.getElem?_map, List.getElem?_eq_getElem hk'] at hu; cases hu; rfl
                obtain rfl : u2 = .str (SL [cq[j]]) := by unfold letA at hu2; rw [List.getElem?_map, List.getElem?_eq_getElem hj'] at hu2; cases hu2; rfl
                have hwlen := hsz.2 _ (List.getElem_mem hk')
                have hst := filter_take (P := fun a => !decide (a ∈ wk[k']?.getD [])) (List.getElem?_eq_getElem hj')
                rw [List.getElem?_eq_getElem hk', Option.getD_some] at hst
                repeat walk_at "st"
                refine notin_one ?_
                repeat walk_at "st"
                refine ⟨rfl, fun hb => ?_, fun hb => ?_⟩
                · repeat walk_at "st"
                  refine o_addL rfl rfl (by simp; omega) ?_
                  refine ⟨rfl, eD, hk', hI.new, fun b o e => upS_ne (fun z => by rw [z, hI.new] at e; cases e) (hI.kp b o e), ?_⟩
                  rw [hI.eq, wordsL_snoc, List.getElem?_eq_getElem hk', Option.getD_some, hst, if_pos hb, List.map_append, List.append_assoc]; rfl
                · refine ⟨eD, hk', hI.new, hI.kp, ?_⟩
                  rw [hI.eq, List.getElem?_eq_getElem hk', Option.getD_some, hst, if_neg (by rw [hb]; decide), List.append_nil]
              · rintro D k' acc σ10 ⟨z, hI⟩
                refine ⟨hI.new, hI.kp, ?_⟩
                rw [hI.eq, show (letA cq).length = cq.length by simp [letA], List.take_length]
                rw [chWays_snoc cq wk k' _ (List.getElem?_eq_getElem z), List.getElem?_eq_getElem z]; rfl
              · intro D acc σ10 hI eD
                obtain ⟨hD, kpD, eq⟩ := hI
                rw [show (wordsL wk).length = wk.length by simp [wordsL], List.take_length] at eq
                repeat walk_at "st"
                refine m_append (kpD _ _ eF9) (by rw [sizeLine_eq, hFv.len]; simp; omega) ⟨nofun, ?_⟩
                repeat walk_at "st"
                have hFD : D ≠ F := fun z => by rw [z, eF9] at hD; cases hD
                have hDL : D ≠ Ln := fun z => by rw [z, eL9] at hD; cases hD
                refine ⟨⟨fvs ++ [.ref D], upS_eq, ?_, snoc_ne hFF hFD, snoc_ne hFLn hDL⟩, by walk_at "lk", by walk_at "lk", by walk_at "lk", by walk_at "lk", by walk_at "lk", by walk_at "lk", upS_ne (Ne.symm hFW) (kpD _ _ eW9), (hW9.sub kpD).up hwF, upS_ne (Ne.symm hFL) (kpD _ _ eL9), (hLi9.sub kpD).up hlF, ⟨_, upS_ne (Ne.symm hFC) (kpD _ _ eC9)⟩, fun b o e => upS_ne (fun z => ?_) (kpD _ _ (kp9 b o e))⟩
                · have e1 : chWays (meets[(k + (1 + i)) % meets.length]?.getD []) (ways[k]?.getD []) = chWays cq wk := by
                    rw [hS, hq, List.getElem?_eq_getElem hqm, List.getElem?_eq_getElem hkw, hcq, hwk]; rfl
                  rw [chNext_take (by omega), e1, List.map_append]
                  refine ListsAt.up (ListsAt.snoc (hFv9.sub kpD) ?_) (snoc_ne hFF hFD)
                  rw [eD, eq]
                · rw [z] at e; rw [kp6 _ _ e] at hF; cases hF
            · rw [rngL_len] at hI
              obtain ⟨⟨fvs, eF, hFv, hFF, hFLn⟩, mm, ms, ml, mw, mf, mp, eW, hW, eL, hLi, hcl, kp⟩ := hI
              rw [List.take_of_length_le (by rw [chNext_len]; omega)] at hFv
              repeat walk_at "st"
              exact ⟨⟨j, lines', chNext meets ways (1 + i), fvs, lvs', F, by omega, hrun, by walk_at "lk", eF, hFv, by rw [chNext_len]; exact hS, eL, hLi, hll', hnL6, hFL, hFLn⟩, by walk_at "lk", by walk_at "lk", by walk_at "lk", hcl, kp⟩
        · rw [if_neg hok] at hrun; cases hrun
      · rw [rngL_len] at hI
        obtain ⟨⟨j, lines, ways, wvs, lvs, Wy, hj, hrun, mw, eW, hW, hwl, eL, hLi, hll, hnL, hWL, hwL⟩, mm, ms, ml, ⟨v0, eC⟩, kp⟩ := hI
        obtain rfl : j = 0 := by omega
        unfold chRun at hrun
        cases hrun
        repeat walk_at "st"
        exact h Ln σ5 kp (hLi.rd eL)
end
/-! Try1 -/
section
variable {prog : Program} {w : World} {A : Around} {E : Value → Shared → Prop} {s : Shared}
/-- next at the end of a list -/
theorem next_end {T l : Addr} {i : Nat} {items : Array Value} {Q : Value → Shared → Prop} (hh : A.handled = Option.none) (e1 : s.heap.get? T = some (litO l i)) (hl : s.heap.IsList l items) (hx : items[i]? = Option.none)
    (h : ∀ h1 h' e tk, (∀ b o, b ≠ T → s.heap.get? b = some o → h1.get? b = some o) → Heap.NewExc h1 h' e "StopIteration" → E (.ref e) { s with heap := h', toks := tk }) :
    wpAny (model prog w) A (call (.builtin "next") [.ref T]) Q E s := by
  have hit : s.heap.IsListIter T l i := ⟨_, e1, rfl, rfl⟩
  obtain ⟨ol, hol, _, nl, hdl⟩ := hl
  refine call_function_entry (by decide +kernel) (by decide +kernel) e_next1 (kdk_args_next _) ?_
  unfold Builtin.«next»
  refine wpAny_bind (m := someArgs "next" 1 2 _) (wpAny_of_eq (a := [Value.ref T]) (by first | rfl | kernel_rfl!) ?_)
  dsimp only
  refine wpAny_bind (wpAny_specialOf (name := Str.ofString "__next__") hit.typeIs slot_listiter_next.lookup ?_)
  refine wpAny_ite_split (fun hab => absurd hab (by decide)) (fun _ => ?_)
  refine wpAny_bind (wpAny_callSpecial?_slot (name := Str.ofString "__next__") hit.typeIs slot_listiter_next
    (wpAny_call_entry slot_listiter_next hit.typeIs entry_listiter_next ?_ (args_listiter_next _)))
  show wpAny _ _ (field (.ref T) 0 >>= _) _ _ s
  refine wpAny_bind (wpAny_field e1 rfl (x := .ref l) rfl ?_)
  show wpAny _ _ (if (Value.ref l == Value.none) = true then _ else _) _ _ s
  rw [if_neg (show ¬ ((Value.ref l == Value.none) = true) from Bool.false_ne_true)]
  show wpAny _ _ (field (.ref T) 1 >>= _) _ _ s
  refine wpAny_bind (wpAny_field e1 rfl (x := .int i 0) rfl ?_)
  show wpAny _ _ (seqItems? (.ref l) >>= _) _ _ s
  refine wpAny_bind (wpAny_seqItems hol hdl ?_)
  simp only [Int.toNat_natCast, hx]
  refine wpAny_bind (wpAny_rule (wpAny_bind (wpAny_setField e1 rfl (by simp) ?_)))
  show wpAny _ _ (newExc (.type "StopIteration") [] >>= _) _ _ _
  refine wpAny_bind ?_
  simp only [newExc, newTuple]
  refine wpAny_bind (wpAny_newObj_type ?_ (by size_fits))
  refine wpAny_bind (m := firstArgMember _ _) (wpAny_of_eq (a := Value.none) (by first | rfl | (simp only [firstArgMember]; rfl)) ?_)
  refine wpAny_newObj_type ?_ (by size_fits)
  simp only [raiseNew]
  refine wpAny_bind (wpAny_handled ?_)
  rw [show A.in1.in1.handled = Option.none from hh]
  refine wpAny_bind (wpAny_pure (wpAny_throw ?_))
  refine h _ _ _ s.toks (fun b o hb e => ((Heap.SameBut.update ..).2 b hb).trans e) ⟨fun b o e => Heap.get?_push_of_some _ (Heap.get?_push_of_some _ e), ?_, ⟨_, _, Heap.get?_push_size _ rfl, rfl, rfl⟩⟩
  exact Heap.get?_none_of_le (by rw [Heap.size_push]; omega)
end

section
variable {prog : Program} {w : World} {E : Value → Shared → Prop} {s : Shared} {n : Nat} {L : Addr} {m : Loc} {σ : Sto} {g : Frm}
theorem e_noE {α : Type} {M : Model} {A : Around} {t : Sem α} {Q : α → Shared → Prop} (h : wpAny M A t Q NoE s) : wpAny M A t Q E s := wpAny_mono h (fun _ _ x => x) fun _ _ x => x.elim

theorem call_defE {f : Addr} {name qual : Str} {params : Arguments} {body : List Stmt} {scope : Scope} {dV kV doc pm cdv ct oc : Value} {an od : Option Addr} {osl : Array (Option Value)} {xs : List Str} {vs : List AV} {ws : List Value} {A : Around} {Q : Value → Shared → Prop}
    (ho : (KF w).lookup f = some ⟨oc, od, .func (fnOf name qual params body scope dV kV doc pm an cdv ct), osl⟩) (hcd : codeIn (KF w) cdv qual = true)
    (hbind : bindArgs (fnOf name qual params body scope dV kV doc pm an cdv ct) ⟨ws, []⟩ = pure (xs.zip ws))
    (hloc : ∀ x ∈ xs, scope.names.lookup x = some .local) (hcell : ∀ x ∈ scope.names, x.2 ≠ .cell) (hA : AOk (n + 1) A) (R : Rel w g L m σ s.heap) (hws : VRs vs ws)
    (h : ∀ h₀ tk, (∀ b o, s.heap.get? b = some o → h₀.get? b = some o) → (∃ mc', h₀.Ns s.heap.objs.size mc') → Rel w (frmOf σ s.heap) s.heap.objs.size (bnd xs vs noL) σ h₀ → wpAny (model prog w) (A.deeper (envX qual scope s.heap.objs.size f cdv [])) (execs body (envX qual scope s.heap.objs.size f cdv [])) (fun fl s' => Q (match fl with | .ret v => v | _ => .none) s')
      (fun e s' => wpAny (model prog w) (A.deeper (envX qual scope s.heap.objs.size f cdv [])) (leaving (envX qual scope s.heap.objs.size f cdv []) e) (fun _ s'' => E e s'') (fun e' s'' => E e' s'') s') { s with heap := h₀, toks := tk })
    (hco : scope.isCoroutine = false := by rfl) (hgen : scope.isGenerator = false := by rfl) (hk : scope.kind = .function := by rfl) :
    wpAny (model prog w) A (call (.ref f) ws) Q E s := by
  obtain ⟨mg, mb, X, ⟨p, loose, mean, T⟩, _, _⟩ := R.world
  refine wpAny_call (codeAny_call_def (fd := fnOf name qual params body scope dV kV doc pm an cdv ct) (body := body) (binds := xs.zip ws) (by show A.depth < 1000; have := hA.2.1; omega) (X _ _ ho) rfl T.nolimit (codeRec_of X hcd) rfl
    (.of_eq hbind) hcell (fun y hy => hloc y.1 (List.of_mem_zip hy).1) (fun h₀ hn hk₀ => ?_) hco hgen hk)
  have R' : Rel w (frmOf σ s.heap) s.heap.objs.size (bnd xs vs noL) σ h₀ := R.enter hk₀ (Heap.get?_none_of_le (Nat.le_refl _)) hn
    (fun y v e => by simpa using bnd_rel xs vs ws [] noL hws (fun y v e => by cases e) y v e)
  exact h h₀ _ hk₀ ⟨_, hn⟩ R'
theorem varint_end {T O a : Addr} {i : Nat} {vs : List AV} {name : Str} {scope : Scope} {cd : Value} {hb : Heap} {Q : Value → Shared → Prop} (hA : AOk (n + 1) (callerA.deeper (envOf name scope L a cd))) (R : Rel w g L m σ s.heap)
    (hk : scope.kind = .function) (hg : ∀ b o, hb.get? b = some o → g b = some o) (hsz : hb.objs.size ≤ L) (eT : σ T = some (.lit O i)) (eO : σ O = some (.list vs)) (hi : vs.length ≤ i)
    (h : ∀ G mc news h' e tk, Fr hb L G mc → (∀ h'', Fr hb L h'' mc → (∀ q ∈ news, h''.get? q.1 = some q.2) → Rel w g L m (dropS σ T) h'') →
      RaisedN hb [envOf name scope L a cd] e (.type "StopIteration") news h' → G.UpToSlots h' → E (.ref e) { s with heap := h', toks := tk }) :
    wpAny (model prog w) (callerA.deeper (envOf name scope L a cd)) (call (.ref 97) [.ref T]) Q E s := by
  refine call_defE (f := 97) (xs := ["iterator"]) (vs := [.ref T]) (by rfl) (by rfl) (by rfl) (by decide) (by decide) hA R (.cons (.ref T) .nil) fun h₀ tk hk₀ hn R' => ?_
  refine wpAny_execs_cons (wpAny_Assign_Name (Call_ (e_noE (e_builtin (P := fun v m1 σ1 => v = .fn "next" ∧ m1 = _ ∧ σ1 = _) g_next rfl (.fn _) ⟨rfl, rfl, rfl⟩ rfl rfl rfl rfl (by decide) (by decide) _ _ _ _ hA.deeper R' fun x c m1 σ1 h1 t1 p1 r1 R1 => ?_)) (by rfl)) (by rfl))
  obtain ⟨rfl, rfl, hσ1⟩ := p1
  have hσ1 := hσ1.symm
  subst hσ1
  cases r1
  refine PyProof.Rows.callWith_builtin1 (e_noE (l_cons (P := fun vs m2 σ2 => vs = [.ref T] ∧ σ2 = _) (e_local (v := .ref T) (by rfl) (l_nil ⟨rfl, rfl⟩)) rfl _ _ _ _ hA.deeper R1 fun x c m2 σ2 h2 t2 p2 r2 R2 => ?_)) (by rfl) (by rfl)
  obtain ⟨rfl, hσ2⟩ := p2
  have hσ2 := hσ2.symm
  subst hσ2
  rcases r2 with _ | ⟨hc, _ | _⟩
  cases hc
  obtain ⟨o, e1, e2⟩ := R2.sto T _ eT
  cases e2
  obtain ⟨ws, nn, e3, r, hl⟩ := R2.list eO
  refine next_end (hA.deeper.1) e1 hl (by rw [List.getElem?_toArray]; exact List.getElem?_eq_none (by rw [← r.length]; exact hi)) fun h3 h4 e tk hs3 hx => ?_
  obtain ⟨mc, hns, hmc⟩ := R.ns
  obtain ⟨mc3, hns3, _⟩ := R2.ns
  have hbk : ∀ b o, hb.get? b = some o → s.heap.get? b = some o := fun b o e => R.keep b o (hg b o e)
  have hbL : hb.get? L = Option.none := Heap.get?_none_of_le hsz
  have hσb : ∀ b o, hb.get? b = some o → σ b = Option.none := fun b o e => by
    cases q : σ b with
    | none => rfl
    | some ao => have := (R.apart b ao q).2; rw [hg b o e] at this; cases this
  have hσL : σ L = Option.none := by
    cases q : σ L with
    | none => rfl
    | some ao => exact absurd rfl (R.apart L ao q).1
  have hTL : T ≠ L := (R.apart T _ eT).1
  have hgT : g T = Option.none := (R.apart T _ eT).2
  have hTL' : T ≠ s.heap.objs.size := (R2.apart T _ eT).1
  obtain ⟨hid, hhid⟩ : ∃ hid : List Addr, ∀ b, b ∈ hid ↔ b < s.heap.objs.size ∧ b ≠ L ∧ hb.get? b = Option.none :=
    ⟨(List.range s.heap.objs.size).filter fun b => decide (b ≠ L) && (hb.get? b).isNone, fun b => by simp [List.mem_filter]⟩
  obtain ⟨news, hnews⟩ : ∃ news : List (Addr × Obj), ∀ b o, (b, o) ∈ news ↔ h2.get? b = some o ∧ b ≠ L ∧ b ≠ T ∧ b ≠ s.heap.objs.size ∧ hb.get? b = Option.none :=
    ⟨(allOf h2 L).filter fun p => decide (p.1 ≠ T) && decide (p.1 ≠ s.heap.objs.size) && (hb.get? p.1).isNone, fun b o => by
      rw [List.mem_filter, mem_allOf]; simp; constructor
      · rintro ⟨⟨h1, h2⟩, ⟨h3, h4⟩, h5⟩; exact ⟨h2, h1, h3, h4, h5⟩
      · rintro ⟨h2, h1, h3, h4, h5⟩; exact ⟨⟨h1, h2⟩, ⟨h3, h4⟩, h5⟩⟩
  have hG1 : ∀ b o, hb.get? b = some o → (hideAll s.heap hid).get? b = some o := fun b o e => hideAll_get _ (hbk b o e) fun hm => by
    have := ((hhid b).mp hm).2.2; rw [e] at this; cases this
  have hG2 : ∀ b o, (hideAll s.heap hid).get? b = some o → s.heap.get? b = some o ∧ (b = L ∨ hb.get? b = some o) := fun b o e => by
    have e1 := of_hideAll _ e
    refine ⟨e1, ?_⟩
    rcases Nat.decEq b L with q | q
    · right
      cases z : hb.get? b with
      | none =>
        have := hideAll_none hid (h := s.heap) ((hhid b).mpr ⟨Heap.lt_size e1, q, z⟩)
        rw [this] at e; cases e
      | some o' => rw [hbk b o' z] at e1; exact e1
    · exact .inl q
  have FG : Fr hb L (hideAll s.heap hid) mc := ⟨hns.at' fun o e => hideAll_get _ e fun hm => ((hhid L).mp hm).2.1 rfl, hG1, hsz⟩
  have K : Below (callerA.deeper (envOf name scope L a cd)) hb [envOf name scope L a cd] (hideAll s.heap hid) := (below_caller hb).push FG hk
  have k2 : ∀ b o, s.heap.get? b = some o → σ b = Option.none → h2.get? b = some o := fun b o e q => R2.keep b o (by rw [frmOf_none q]; exact e)
  have F3 : Fr (hideAll s.heap hid) s.heap.objs.size h3 mc3 := by
    refine ⟨hns3.at' fun o e => hs3 _ _ (Ne.symm hTL') e, fun b o e => ?_, by rw [hideAll_size]; exact Nat.le_refl _⟩
    obtain ⟨e1, q⟩ := hG2 b o e
    rcases q with rfl | q
    · exact hs3 _ _ (Ne.symm hTL) (k2 _ _ e1 hσL)
    · exact hs3 _ _ (fun z => by rw [z] at q; have := hg _ _ q; rw [hgT] at this; cases this) (k2 _ _ e1 (hσb _ _ q))
  have N3 : News (hideAll s.heap hid) s.heap.objs.size h3 news := by
    rintro ⟨b, o⟩ hm
    obtain ⟨q1, q2, q3, q4, q5⟩ := (hnews b o).mp hm
    refine ⟨hs3 _ _ q3 q1, q4, ?_⟩
    cases z : (hideAll s.heap hid).get? b with
    | none => rfl
    | some o' =>
      rcases (hG2 b o' z).2 with x | x
      · exact absurd x q2
      · rw [q5] at x; cases x
  refine leave_newK K hx F3 N3 (fun h' hR hU => h (hideAll s.heap hid) mc news h' e tk FG (fun h'' F'' hn'' => ?_) hR hU) rfl
  refine ⟨R.base, fun b o e => ?_, ⟨mc, F''.ns, hmc⟩, R.gL, fun b ao e => ?_, fun b ao e => ?_⟩
  · cases z : hb.get? b with
    | some o' =>
      have := hg b o' z; rw [e] at this; cases this
      exact F''.keep b o z
    | none =>
      have q : σ b = Option.none := by
        cases q : σ b with
        | none => rfl
        | some ao => have := (R.apart b ao q).2; rw [e] at this; cases this
      exact hn'' (b, o) ((hnews b o).mpr ⟨k2 b o (R.keep b o e) q, (fun z => by rw [z, R.gL] at e; cases e), (fun z => by rw [z, hgT] at e; cases e), (fun z => by have := R.keep b o e; rw [z, size_none] at this; cases this), z⟩)
  · unfold dropS at e
    split at e
    · cases e
    · rename_i hbT
      obtain ⟨o, e1, e2⟩ := R2.sto b ao e
      have hap := R.apart b ao e
      refine ⟨o, hn'' (b, o) ((hnews b o).mpr ⟨e1, hap.1, hbT, (R2.apart b ao e).1, ?_⟩), e2⟩
      cases z : hb.get? b with
      | none => rfl
      | some o' => have := hg b o' z; rw [hap.2] at this; cases this
  · unfold dropS at e
    split at e
    · cases e
    · exact R.apart b ao e

theorem s_tryStop {T O a : Addr} {i : Nat} {vs : List AV} {name : Str} {scope : Scope} {cd : Value} {hb : Heap} {Q : Flow → Shared → Prop} {p : Program} {loose : List Str} {mg mb : Str → Option Value} {q1 q2 q3 q4 q5 q6 q7 q8 : Pos} {rest : List Stmt}
    (hA : AOk (n + 1) (callerA.deeper (envOf name scope L a cd))) (R : Rel w g L m σ s.heap)
    (hg : ∀ b o, hb.get? b = some o → g b = some o) (hsz : hb.objs.size ≤ L) (eT : σ T = some (.lit O i)) (eO : σ O = some (.list vs)) (hi : vs.length ≤ i) (mT : m "tape" = some (.ref T))
    (hT : TopRead p loose mg mb hb) (h1 : Str.ofString "StopIteration" ∉ startupNames) (h2 : Str.ofString "StopIteration" ∉ loose) (h3 : Str.ofString "StopIteration" ∉ (recsOf p).map (·.name)) (h4 : Str.ofString "StopIteration" ∉ (litsOf p).map (·.1)) (h5 : Str.ofString "StopIteration" ∉ (clssOf p loose).map (·.name))
    (k : ∀ h' tk, Rel w g L m (dropS σ T) h' → Q .next { s with heap := h', toks := tk })
    (hk : scope.kind = .function) (hin : interactive (envOf name scope L a cd) = false) (hx1 : (envOf name scope L a cd).kindOf "_parse_varint" = some .globalImplicit) (hx2 : (envOf name scope L a cd).kindOf "tape" = some .local) (hx3 : (envOf name scope L a cd).kindOf "StopIteration" = some .globalImplicit) :
    wpAny (model prog w) (callerA.deeper (envOf name scope L a cd)) (exec (.Try (.Expr (.Call (.Name "_parse_varint" q1) [.Name "tape" q2] [] q3) q4 :: rest) [.ExceptHandler (some (.Name "StopIteration" q5)) none [.Pass q6] q7] [] [] q8) (envOf name scope L a cd)) Q NoE s := by
  refine wpAny_Try_except (wpAny_execs_cons (wpAny_Expr (Call_ (e_noE (e_global (P := fun v m1 σ1 => v = .ref 97 ∧ m1 = _ ∧ σ1 = _) (x := "_parse_varint") (by rfl) (.ref _) ⟨rfl, rfl, rfl⟩ rfl hk hx1 (by decide) _ _ _ _ hA R fun x c m1 σ1 hp1 t1 p1 r1 R1 => ?_)) (by rfl)) hin (by rfl)))
  obtain ⟨rfl, rfl, hσ1⟩ := p1
  have hσ1 := hσ1.symm
  subst hσ1
  cases r1
  obtain ⟨mg1, mb1, X, _⟩ := R1.world
  refine callWith_K X (by rfl) (e_noE (l_cons (P := fun vs m2 σ2 => vs = [.ref T] ∧ m2 = _ ∧ σ2 = _) (e_local (v := .ref T) mT (l_nil ⟨rfl, rfl, rfl⟩) rfl hk hx2 (by decide)) rfl _ _ _ _ hA R1 fun x c m2 σ2 hp2 t2 p2 r2 R2 => ?_)) (by rfl) (by rfl)
  obtain ⟨rfl, rfl, hσ2⟩ := p2
  have hσ2 := hσ2.symm
  subst hσ2
  rcases r2 with _ | ⟨hc, _ | _⟩
  cases hc
  obtain ⟨mg2, mb2, X2, _⟩ := R2.world
  refine ⟨by exact X2, varint_end hA (by exact R2) hk hg hsz eT eO hi fun G mc news h' e tk FG hRel hR hU => ?_⟩
  refine caught_N0 (below_caller hb) FG hU hR hT PyProof.Rows.Boot.«StopIteration» (by rw [isSubtype_type]; kernel_rfl) (by kernel_rfl) (by rw [isSubtype_type]; kernel_rfl) (fun h6 F6 N6 => ?_) h1 h2 h3 h4 h5 (by decide) hk hx3 (by decide)
  refine wpAny_execs_cons (wpAny_Pass (wpAny_execs_nil (k h6 tk (hRel h6 F6 fun q hq => (N6 q hq).1))))
end
/-! Law0 -/
section
variable {prog : Program} {w : World} {n : Nat} {L : Addr} {m : Loc} {σ : Sto} {P : AV → Loc → Sto → Prop} {env : Env}
/-- iter of a list -/
theorem b_iter {l : Addr} {vs : List AV} (e : σ l = some (.list vs)) (h : ∀ T, σ T = Option.none → P (.ref T) m (upS σ T (.lit l 0))) :
    ∀ ws, VRs [.ref l] ws → TE prog w n L m σ (call (.builtin "iter") ws) P := by
  rintro _ (_ | ⟨hv, _ | _⟩) g A s Q hA R k
  cases hv
  obtain ⟨ws, nn, e1, r, hl⟩ := R.list e
  refine call_function_entry (by decide +kernel) (by decide +kernel) kdk_entry_iter (kdk_args_iter _) ?_
  unfold Builtin.«iter»
  refine wpAny_bind (m := someArgs "iter" 1 2 _) (wpAny_of_eq (a := [Value.ref l]) (by first | rfl | kernel_rfl!) ?_)
  show wpAny _ _ (pyIter (.ref l) >>= _) _ _ _
  refine wpAny_bind (wpAny_pyIter_list hl ?_)
  refine wpAny_pure ⟨_, rfl, ?_⟩
  exact k _ _ _ _ _ _ (h _ R.fresh) (.ref _) (R.push (.lit l 0) rfl)
/-- is not, of two truths -/
theorem q_isnotB {a b : Bool} {P : Bool → Loc → Sto → Prop} (h : P (a != b) m σ) : ∀ u v, VR (.bool a) u → VR (.bool b) v → TE prog w n L m σ (compareOp .IsNot u v) (fun c m σ => ∃ d, c = .bool d ∧ P d m σ) := by
  intro u v hu hv g A s Q hA R k
  cases hu; cases hv
  refine wpAny_isNot_plain (by rfl) ?_
  have e : (!(Value.bool a == Value.bool b)) = (a != b) := by cases a <;> cases b <;> rfl
  rw [e]
  exact k (.bool (a != b)) _ m σ s.heap s.toks ⟨_, rfl, h⟩ (.bool _) R
/-- a slice of a display -/
theorem e_sliceFromT {value lower : Expr} {p pos : Pos} (h : TE prog w n L m σ (eval value env) (fun o m1 σ1 => TE prog w n L m1 σ1 (eval lower env) (fun i m2 σ2 => ∃ l vs b, o = .ref l ∧ i = .int (b : Nat) ∧ σ2 l = some (.list vs) ∧ vs.length ≤ sizeLine ∧
      ∀ a, σ2 a = Option.none → P (.ref a) m2 (upS σ2 a (.list (vs.drop b)))))) :
    TE prog w n L m σ (eval (.Subscript value (.Slice (some lower) Option.none Option.none p) pos) env) P := by
  intro g A s Q hA R k
  refine Subscript_ (h g A s _ hA R fun x a m1 σ1 h1 t1 p1 r1 R1 => wpAny_Slice (evalPart_some_step (p1 g A _ _ hA R1 fun y c m2 σ2 h2 t2 p2 r2 R2 => evalPart_none_step (evalPart_none_step ?_))))
  obtain ⟨l, vs, b, rfl, rfl, e, hz, hP⟩ := p2
  cases r1
  cases r2
  rename_i u
  obtain ⟨ws, nn, e1, r, hl⟩ := R2.list e
  have R3 : Rel w g L m2 σ2 (h2.push { cls := .type "slice", data := .fields #[.int b u, .none, .none] }) := R2.keeps fun a o e => Heap.get?_push_of_some _ e
  have R4 := R3.push (o := listO (ws.drop b) 0) (.list 0 (r.drop b)) rfl
  have hf := R3.fresh
  have hl3 : (Shared.mk (h2.push { cls := .type "slice", data := .fields #[.int b u, .none, .none] }) s.gens s.drawn t2 s.os).heap.IsList l ws.toArray := hl.push { cls := .type "slice", data := .fields #[.int b u, .none, .none] }
  unfold subscriptTail
  refine wpAny_bind ?_
  rw [getitemInPython_of_ne hl3.typeIs.not_modules]
  refine wpAny_bind (wpAny_specialOf hl3.typeIs slot_list_getitem.lookup ?_)
  refine wpAny_pure (wpAny_bind ?_)
  show wpAny _ _ (operate [_, _] (getItem _ _)) _ _ _
  refine wpAny_operating ?_
  refine wpAny_getItem_list_slice hl3 (Heap.IsSliceOf.new ..) (.int b u) .none .none (by simp) (wpAny_bind (wpAny_letTemporaryGo (wpAny_pure ?_))) (by rw [List.size_toArray, ← r.length]; exact hz)
  rw [slicePick_from']
  exact k _ _ _ _ _ _ (hP _ hf) (.ref _) R4
end
/-! data -/
theorem canAll_strs (W : List (List Nat)) (h : ∀ w ∈ W, ∀ a ∈ w, a < 1114112) : PyData.canLayAll0 (W.map fun w => PyData.str (SL w)) = true := by
  induction W with
  | nil => rfl
  | cons w W ih =>
    simp only [List.map_cons, PyData.canLayAll0, PyData.canLay0, Bool.and_eq_true]
    refine ⟨?_, ih fun w hw => h w (.tail _ hw)⟩
    unfold PyData.strOk SL
    rw [List.all_toArray, List.all_eq_true]
    exact fun a ha => decide_eq_true (h w (.head _) a ha)
theorem depthAll_strs (W : List (List Nat)) : PyData.depthAll (W.map fun w => PyData.str (SL w)) = 0 := by
  induction W with
  | nil => rfl
  | cons w W ih => simp only [List.map_cons, PyData.depthAll, PyData.depth, ih, Nat.max_self]
theorem shaped_strs (W : List (List Nat)) (h : ∀ w ∈ W, ∀ a ∈ w, a < 1114112) : SeqAt.shaped (.list (W.map fun w => PyData.str (SL w))) = true := by
  unfold SeqAt.shaped
  simp only [PyData.canLay0, PyData.depth, canAll_strs W h, depthAll_strs]
  decide
theorem canAll_ints (r : List Nat) : PyData.canLayAll0 (r.map fun (d : Nat) => PyData.int (d : Int)) = true := by
  induction r with
  | nil => rfl
  | cons w W ih => simp only [List.map_cons, PyData.canLayAll0, PyData.canLay0, ih]; rfl
theorem depthAll_ints (r : List Nat) : PyData.depthAll (r.map fun (d : Nat) => PyData.int (d : Int)) = 0 := by
  induction r with
  | nil => rfl
  | cons w W ih => simp only [List.map_cons, PyData.depthAll, PyData.depth, ih, Nat.max_self]
theorem canAll_dataL (Ls : List (List Nat)) : PyData.canLayAll0 (Ls.map fun r => PyData.list (r.map fun (d : Nat) => .int (d : Int))) = true := by
  induction Ls with
  | nil => rfl
  | cons w W ih => simp only [List.map_cons, PyData.canLayAll0, PyData.canLay0, canAll_ints, ih]; rfl
theorem depthAll_dataL (Ls : List (List Nat)) : PyData.depthAll (Ls.map fun r => PyData.list (r.map fun (d : Nat) => .int (d : Int))) ≤ 1 := by
  induction Ls with
  | nil => decide
  | cons w W ih => simp only [List.map_cons, PyData.depthAll, PyData.depth, depthAll_ints]; omega
theorem shaped_dataL (Ls : List (List Nat)) : SeqAt.shaped (dataL Ls) = true := by
  unfold SeqAt.shaped dataL
  simp only [PyData.canLay0, PyData.depth, canAll_dataL]
  have := depthAll_dataL Ls
  rw [Bool.true_and]
  exact decide_eq_true (by omega)
theorem rds_strs {σ : Sto} : ∀ W : List (List Nat), Rds σ (W.map fun w => AV.str (SL w)) (W.map fun w => PyData.str (SL w))
  | [] => .nil
  | w :: W => .cons .str (rds_strs W)
theorem rd_rows {σ : Sto} {l : Addr} {W : List (List Nat)} (e : σ l = some (.list (rowsA W))) : Rd σ (.ref l) (.list ((W.map row).map fun w => PyData.str (SL w))) := by
  refine .list e ?_
  have := rds_strs (σ := σ) (W.map row)
  rw [List.map_map] at this
  exact this
/-! the body of law: the frames are known -/
noncomputable def TA (A0 : Around) (hb : Heap) (prog : Program) (w : World) (L : Addr) (m : Loc) (σ : Sto) (t : Sem Flow) (P : AFl → Loc → Sto → Prop) : Prop :=
  ∀ (g : Frm) (s : Shared) (Q : Flow → Shared → Prop), (∀ b o, hb.get? b = some o → g b = some o) → Rel w g L m σ s.heap →
    (∀ b a m' σ' h' tk, P b m' σ' → FR b a → Rel w g L m' σ' h' → Q a { s with heap := h', toks := tk }) → wpAny (model prog w) A0 t Q NoE s
section
variable {prog : Program} {w : World} {n : Nat} {L : Addr} {m : Loc} {σ : Sto} {A0 : Around} {hb : Heap} {env : Env} {P : AFl → Loc → Sto → Prop}
theorem a_of {t : Sem Flow} (hA : AOk n A0) (h : TF prog w n L m σ t P) : TA A0 hb prog w L m σ t P := fun g s Q _ R k => h g A0 s Q hA R k
theorem a_cons {st : Stmt} {rest : List Stmt} (h : TA A0 hb prog w L m σ (exec st env) (Seq P fun m1 σ1 => TA A0 hb prog w L m1 σ1 (execs rest env) P)) : TA A0 hb prog w L m σ (execs (st :: rest) env) P :=
  fun g s Q hg R k => wpAny_execs_cons (h g s _ hg R fun f a m1 σ1 h1 t1 p1 r1 R1 => by
    cases r1 with
    | next => exact p1 g _ _ hg R1 fun f2 a2 m2 σ2 h2 t2 p2 r2 R2 => k f2 a2 m2 σ2 h2 t2 p2 r2 R2
    | brk => exact k .brk _ m1 σ1 h1 t1 p1 .brk R1
    | cont => exact k .cont _ m1 σ1 h1 t1 p1 .cont R1
    | ret r => exact k (.ret _) _ m1 σ1 h1 t1 p1 (.ret r) R1)
theorem a_tryStop {T O a : Addr} {i : Nat} {vs : List AV} {name : Str} {scope : Scope} {cd : Value} {p : Program} {loose : List Str} {mg mb : Str → Option Value} {q1 q2 q3 q4 q5 q6 q7 q8 : Pos} {rest : List Stmt}
    (hA : AOk (n + 1) (callerA.deeper (envOf name scope L a cd))) (hsz : hb.objs.size ≤ L) (eT : σ T = some (.lit O i)) (eO : σ O = some (.list vs)) (hi : vs.length ≤ i) (mT : m "tape" = some (.ref T))
    (hT : TopRead p loose mg mb hb) (h1 : Str.ofString "StopIteration" ∉ startupNames) (h2 : Str.ofString "StopIteration" ∉ loose) (h3 : Str.ofString "StopIteration" ∉ (recsOf p).map (·.name)) (h4 : Str.ofString "StopIteration" ∉ (litsOf p).map (·.1)) (h5 : Str.ofString "StopIteration" ∉ (clssOf p loose).map (·.name))
    (h : P .next m (dropS σ T))
    (hk : scope.kind = .function := by rfl) (hin : interactive (envOf name scope L a cd) = false := by rfl) (hx1 : (envOf name scope L a cd).kindOf "_parse_varint" = some .globalImplicit := by rfl) (hx2 : (envOf name scope L a cd).kindOf "tape" = some .local := by rfl) (hx3 : (envOf name scope L a cd).kindOf "StopIteration" = some .globalImplicit := by rfl) :
    TA (callerA.deeper (envOf name scope L a cd)) hb prog w L m σ (exec (.Try (.Expr (.Call (.Name "_parse_varint" q1) [.Name "tape" q2] [] q3) q4 :: rest) [.ExceptHandler (some (.Name "StopIteration" q5)) none [.Pass q6] q7] [] [] q8) (envOf name scope L a cd)) P :=
  fun g s Q hg R k => s_tryStop hA R hg hsz eT eO hi mT hT h1 h2 h3 h4 h5 (fun h' tk R' => k .next .next _ _ h' tk h .next R') hk hin hx1 hx2 hx3
end
noncomputable def TAE (A0 : Around) (hb : Heap) (prog : Program) (w : World) (L : Addr) (m : Loc) (σ : Sto) (t : Sem Value) (P : AV → Loc → Sto → Prop) : Prop :=
  ∀ (g : Frm) (s : Shared) (Q : Value → Shared → Prop), (∀ b o, hb.get? b = some o → g b = some o) → Rel w g L m σ s.heap →
    (∀ b a m' σ' h' tk, P b m' σ' → VR b a → Rel w g L m' σ' h' → Q a { s with heap := h', toks := tk }) → wpAny (model prog w) A0 t Q NoE s
section
variable {prog : Program} {w : World} {n : Nat} {L : Addr} {m : Loc} {σ : Sto} {A0 : Around} {hb : Heap} {env : Env}
theorem a_sliceTo {x : Str} {l : Addr} {vs : List AV} {ws : List Value} {b k : Nat} {p q1 q2 pos : Pos} {P : AV → Loc → Sto → Prop} (hA : AOk n A0) (hl : hb.IsList l ws.toArray) (r : VRs vs ws) (hz : vs.length ≤ sizeLine) (hx : m x = some (.ref l))
    (h : ∀ a, σ a = Option.none → P (.ref a) m (upS σ a (.list (vs.take b))))
    (hL : env.locals = L := by rfl) (hk : env.scope.kind = .function := by rfl) (hxl : env.kindOf x = some .local := by rfl) (hd : (x == ("__debug__" : Str)) = false := by decide) :
    TAE A0 hb prog w L m σ (eval (.Subscript (.Name x q1) (.Slice Option.none (some (.Constant (.int (b : Nat)) k q2)) Option.none p) pos) env) P := by
  intro g s Q hg R kk
  refine wpAny_Subscript_list_slice (e_local (P := fun v m1 σ1 => v = .ref l ∧ m1 = m ∧ σ1 = σ) hx ⟨rfl, rfl, rfl⟩ hL hk hxl hd g A0 s _ hA R fun x a m1 σ1 h1 t1 p1 r1 R1 => evalPart_none_step (evalPart_some_step (e_int (n := n) (P := fun v m2 σ2 => v = .int (b : Nat) ∧ m2 = m1 ∧ σ2 = σ1) ⟨rfl, rfl, rfl⟩ g A0 _ _ hA R1 fun y c m2 σ2 h2 t2 p2 r2 R2 => ?_))) (by intro _ _; rfl)
  obtain ⟨rfl, rfl, rfl⟩ := p1
  obtain ⟨rfl, rfl, rfl⟩ := p2
  cases r1
  cases r2
  rename_i u
  have hl2 : h2.IsList l ws.toArray := by
    obtain ⟨o, e, rest⟩ := hl
    exact ⟨o, R2.keep _ _ (hg _ _ e), rest⟩
  refine ⟨l, _, Option.none, some (b : Int), rfl, hl2, by rw [List.size_toArray, ← r.length]; exact hz, .none, .int _ _, ?_⟩
  rw [slicePick_upto']
  have R3 : Rel w g L m2 σ2 (h2.push { cls := .type "slice", data := .fields #[.none, .int b u, .none] }) := R2.keeps fun a o e => Heap.get?_push_of_some _ e
  have R4 := R3.push (o := listO (ws.take b) 0) (.list 0 (r.take b)) rfl
  have hf := R3.fresh
  rw [Heap.size_push] at R4 hf
  exact kk _ _ _ _ _ _ (h _ hf) (.ref _) R4
theorem a_assignComp {y : Str} {py spos : Pos} {elt iter : Expr} {x : Str} {px pos : Pos} {scope : Scope} {cl : List (Str × Addr)} {P : AFl → Loc → Sto → Prop} (hA : AOk n A0)
    (h : TAE A0 hb prog w L m σ (eval iter env) (fun v m1 σ1 => ∃ (vs : List AV) (need : Sto → Prop) (σ2 : Sto) (Inv : Addr → Nat → List AV → Sto → Prop), Iterable prog w v vs σ1 σ2 need ∧ vs.length ≤ 1000000 ∧ (∀ D, σ2 D = Option.none → Inv D 0 [] (upS σ2 D (.list []))) ∧ (∀ D i acc σ, Inv D i acc σ → need σ) ∧
      (∀ C D i u acc σ, vs[i]? = some u → Inv D i acc σ → σ D = some (.list acc) → TE prog w n C (upL noL x u) σ (eval elt (compEnvC scope cl C env)) (fun y _ σ' => σ' D = some (.list acc) ∧ Inv D (i + 1) (acc ++ [y]) (upS σ' D (.list (acc ++ [y]))))) ∧
      (∀ D acc σ', Inv D vs.length acc σ' → σ' D = some (.list acc) → P .next (upL m1 y (.ref D)) σ')))
    (hsw : swapsWith (.ListComp elt [⟨.Name x px, iter, [], 0⟩] scope pos) (some (.Name y py)) spos.line env = pure true := by rfl)
    (hs : ∀ x, foldedSetIterable iter env x = pure x := by intro _; rfl) (hcl : closureFor scope env = pure cl := by rfl)
    (hcell : ∀ y ∈ scope.names, y.2 ≠ .cell := by decide) (hkind : scope.kind = .function := by rfl) (hx : (relabel scope env).names.lookup x = some .local := by rfl)
    (hnames : ∀ x ∈ scope.names, x.2 = .local → scope.names.lookup x.1 = some .local := by decide)
    (hL : env.locals = L := by rfl) (hk : env.scope.kind = .function := by rfl) (hy : env.kindOf y = some .local := by rfl) :
    TA A0 hb prog w L m σ (exec (.Assign [.Name y py] (.ListComp elt [⟨.Name x px, iter, [], 0⟩] scope pos) spos) env) P := by
  intro g s Q hg R k
  rw [exec_Assign_Name_used _ _ _ _ hsw]
  refine wpAny_bind (wpAny_standAt (wpAny_bind ?_))
  show wpAny _ A0 (do let _ ← comprehension (.ListComp elt [⟨.Name x px, iter, [], 0⟩] scope pos) scope env _ (newList []) false (eval iter env) (some (assign (.Name y py) env))) _ _ s
  refine wpAny_bind (wpAny_mono (wpAny_comprehension_free (use := some (assign (.Name y py) env)) (Q := fun _ s' => Q .next s') rfl hs hcl hkind hnames (h g s _ hg R fun v c m1 σ1 h1 t1 p1 r1 R1 => ?_))
    (fun _ s' hq => wpAny_pure (wpAny_pure hq)) fun _ _ e => e)
  obtain ⟨vs, need, σ2, Inv, hit, hz, h0, hneed, turn, fin⟩ := p1
  refine hit A0 _ g L m1 _ c hA.1 r1 R1 fun I is h2 t2 o IT R2 hsI hgI hLI eI is0 _ => ?_
  refine comp_body (RR := fun acc C r s' => compPost (model prog w) A0 NoE (some (assign (.Name y py) env)) (fun _ s' => Q .next s') acc C r s') hA R2 IT eI is0 hsI hgI hLI hcell hkind hx hz h0 hneed turn ?_
  intro D C acc σ' h' tk hI eD R' hn hgC hsC hCL
  obtain ⟨mc, hn⟩ := hn
  obtain ⟨oC, es, ep, eC, hrest⟩ := id hn
  refine wpAny_assign_Name (s_store (P := fun _ m2 σ2 => m2 = upL m1 y (.ref D) ∧ σ2 = σ') (.ref D) ⟨rfl, rfl⟩ hL hk hy _ A0 _ _ hA (R'.ins eC hsC hgC hCL) fun _ _ m4 σ4 h4 t4 p4 _ R4 => ?_)
  obtain ⟨rfl, rfl⟩ := p4
  refine ⟨mc, ⟨oC, es, ep, R4.insAt, hrest⟩, fun h'' hs'' => ?_⟩
  exact k .next .next _ _ _ _ (fin D acc σ4 hI eD) .next ((R4.del R.base hgC).butI (fun b ob hb e => (hs''.2 b hb).trans e) hgC hsC hCL)
end
/-! Law1 -/
--/ST
theorem vrs_ints {vs : List Value} {xs : List Int} (h : IntsAre vs xs) : VRs (xs.map AV.int) vs := by
  induction h with
  | nil => exact .nil
  | cons i t _ ih => exact .cons (.int _ _) ih
theorem grown_of {w : World} {g : Frm} {L : Addr} {m : Loc} {σ : Sto} {h : Heap} (R : Rel w g L m σ h) (t : tabs σ) : GrownAll [(75, 71), (68, 64)] h := by
  have one : ∀ {P : Addr} {i j : Int} {q : Str}, TabOk σ P i j q → GrownAt P h := fun {P i j q} hT => by
    rcases hT with e | ⟨c, e, _⟩
    · obtain ⟨o, e1, e2⟩ := R.sto P _ e; cases e2; exact ⟨_, e1⟩
    · obtain ⟨o, e1, e2⟩ := R.sto P _ e; cases e2; exact ⟨_, e1⟩
  exact ⟨one t.2, one t.1, True.intro⟩
theorem law_join {prog : Program} {w : World} {A0 : Around} {L : Addr} {hb : Heap} {t : Sem Flow} {Q : Flow → Shared → Prop} {E : Value → Shared → Prop} {s : Shared} {p : Program} {loose : List Str} {mean : ExcName → Option Value} {mg mb mc : Str → Option Value} {w2 : Addr}
    (X' : (KF w).In hb) (T' : Top p loose mean mg mb hb) (F' : Fr hb L s.heap mc) (c1 : CodeHd hb 75 71) (c2 : CodeHd hb 68 64) (N' : News hb L s.heap [(71, tabObj #[]), (64, tabObj #[])]) (hmc : mc "script" = some (.ref w2))
    (hTA : ∀ σ0, tabs σ0 → TA A0 hb prog w L (upL noL "script" (.ref w2)) σ0 t (fun f _ σ => f = .ret (.bool true) ∧ tabs σ))
    (fin : ∀ h' tk mc', Fr hb L h' mc' → GrownAll [(75, 71), (68, 64)] h' → Q (.ret (.bool true)) { s with heap := h', toks := tk }) : wpAny (model prog w) A0 t Q E s := by
  obtain ⟨q1, q2, q3⟩ := N' _ (.head _)
  obtain ⟨r1, r2, r3⟩ := N' _ (.tail _ (.head _))
  have hL : hb.get? L = Option.none := Heap.get?_none_of_le F'.above
  have R : Rel w (fun b => hb.get? b) L (upL noL "script" (.ref w2)) (upS (upS (fun _ => Option.none) 71 (.obj (tabObj #[]))) 64 (.obj (tabObj #[]))) s.heap := by
    refine ⟨⟨hb, mg, mb, ⟨X', ⟨p, loose, mean, T'⟩, c1, c2, q3, r3⟩, fun _ _ e => e⟩, F'.keep, ⟨mc, F'.ns, fun x v e => ?_⟩, hL, fun b ao e => ?_, fun b ao e => ?_⟩
    · unfold upL at e
      split at e
      · rename_i q; subst q; cases e; exact ⟨_, hmc, .ref _⟩
      · cases e
    · unfold upS at e
      split at e
      · rename_i q; subst q; cases e; exact ⟨_, r1, .obj _⟩
      · split at e
        · rename_i q; subst q; cases e; exact ⟨_, q1, .obj _⟩
        · cases e
    · unfold upS at e
      split at e
      · rename_i q; subst q; exact ⟨r2, r3⟩
      · split at e
        · rename_i q; subst q; exact ⟨q2, q3⟩
        · cases e
  refine e_noE (hTA _ ⟨.inl upS_eq, .inl (upS_ne (by decide) upS_eq)⟩ _ s Q (fun _ _ e => e) R fun f a m' σ' h' tk hp r R' => ?_)
  obtain ⟨rfl, tb⟩ := hp
  cases r with
  | ret r =>
    cases r
    obtain ⟨mc', hn, _⟩ := R'.ns
    exact fin h' tk mc' ⟨hn, fun b o e => R'.keep b o e, F'.above⟩ (grown_of R' tb)
structure CN (σ1 : Sto) (X : List AV) (D : Addr) (i : Nat) (acc : List AV) (σ : Sto) : Prop where
  new : σ1 D = Option.none
  kp : ∀ b o, σ1 b = some o → σ b = some o
  eq : acc = X.take i
theorem CN.zero {σ1 : Sto} {X : List AV} {D : Addr} (h : σ1 D = Option.none) : CN σ1 X D 0 [] (upS σ1 D (.list [])) := ⟨h, fun b o e => upS_old h e, rfl⟩
theorem CN.step {σ1 σ : Sto} {X acc : List AV} {D : Addr} {i : Nat} {v : AV} {o : AO} (h : CN σ1 X D i acc σ) (e : X[i]? = some v) : CN σ1 X D (i + 1) (acc ++ [v]) (upS σ D o) :=
  ⟨h.new, fun b o e => upS_ne (fun z => by rw [z, h.new] at e; cases e) (h.kp b o e), by rw [h.eq, List.take_add_one, e]; rfl⟩
noncomputable def modN (x : Int) : Nat := (x.fmod 262144).toNat
theorem modN_eq (x : Int) : x.fmod 262144 = (modN x : Nat) := by
  have : 0 ≤ x.fmod 262144 := Int.fmod_nonneg_of_pos _ (by decide)
  unfold modN; omega
theorem modN_lt (x : Int) : modN x < 2 ^ 18 := by
  have := Int.fmod_lt_of_pos x (show (0 : Int) < 262144 by decide)
  unfold modN; omega
noncomputable def numsOf (ws : List Int) : List Nat := (ws.take 4).map modN
noncomputable def numsX (ws : List Int) : List Nat := numsOf ws ++ [6, 77].drop (numsOf ws).length
theorem numsOf_len (ws : List Int) : (numsOf ws).length ≤ 4 := by unfold numsOf; rw [List.length_map, List.length_take]; omega
theorem numsX_len (ws : List Int) : 2 ≤ (numsX ws).length ∧ (numsX ws).length ≤ 4 := by
  unfold numsX
  have := numsOf_len ws
  rw [List.length_append, List.length_drop, show [6, 77].length = 2 from rfl]; omega
theorem numsX_lt (ws : List Int) : ∀ x ∈ numsX ws, x < 2 ^ 18 := by
  intro x hx
  rcases List.mem_append.mp hx with h | h
  · unfold numsOf at h
    obtain ⟨a, _, rfl⟩ := List.mem_map.mp h
    exact modN_lt a
  · have := List.mem_of_mem_drop h
    simp at this; omega
theorem g_iter {w : World} : nsIn (KF w) mainGlobals (Str.ofString "iter") = some Option.none := by rfl
theorem g_oct {w : World} : nsIn (KF w) mainGlobals (Str.ofString "_law_octets") = some (some (.ref 111)) := by rfl
theorem g_grown {w : World} : nsIn (KF w) mainGlobals (Str.ofString "_law_grown") = some (some (.ref 118)) := by rfl
theorem g_frz {w : World} : nsIn (KF w) mainGlobals (Str.ofString "_law_frieze") = some (some (.ref 125)) := by rfl
theorem g_chs {w : World} : nsIn (KF w) mainGlobals (Str.ofString "_law_choices") = some (some (.ref 130)) := by rfl
theorem tabs.sub {σ σ' : Sto} (h : tabs σ) (k : ∀ b o, σ b = some o → σ' b = some o) : tabs σ' := ⟨h.keep64 fun b o _ e => k b o e, h.keep71 fun b o _ e => k b o e⟩
theorem g_ellm {w : World} : nsIn (KF w) mainGlobals (Str.ofString "_ellipsis_match") = some (some (.ref 104)) := by rfl
theorem dropS_ne {σ : Sto} {T b : Addr} {r : Option AO} (h : b ≠ T) (e : σ b = r) : dropS σ T b = r := (if_neg h).trans e
theorem TabOk.drop {σ : Sto} {P a : Addr} {i j : Int} {q : Str} {ao : AO} (h : TabOk σ P i j q) (e : σ a = some ao) (hn : ∀ o, ao ≠ .obj o) : TabOk (dropS σ a) P i j q := by
  have hP : P ≠ a := fun z => by rcases h with e1 | ⟨_, e1, _⟩ <;> rw [z, e] at e1 <;> cases e1 <;> exact hn _ rfl
  rcases h with e1 | ⟨c, e1, hc⟩
  · exact .inl (dropS_ne hP e1)
  · refine .inr ⟨c, dropS_ne hP e1, hc.mono fun o eo => dropS_ne (fun z => ?_) eo⟩
    obtain ⟨_, _, _, e2, _⟩ := hc.ex
    rw [z, e] at e2; cases e2; exact hn _ rfl
theorem tabs.drop {σ : Sto} {a : Addr} {ao : AO} (h : tabs σ) (e : σ a = some ao) (hn : ∀ o, ao ≠ .obj o) : tabs (dropS σ a) := ⟨h.1.drop e hn, h.2.drop e hn⟩
theorem SL_len (l : List Nat) : (SL l).length = l.length := by
  show l.toArray.size = _
  rw [List.size_toArray]
theorem e_compareB {prog : Program} {w : World} {n : Nat} {L : Addr} {m : Loc} {σ : Sto} {env : Env} {l r : Expr} {op : CmpOp} {pos : Pos} {P : AV → Loc → Sto → Prop}
    (h : TE prog w n L m σ (eval l env) (fun x m1 σ1 => TE prog w n L m1 σ1 (eval r env) (fun y m2 σ2 => ∀ a b, VR x a → VR y b → TE prog w n L m2 σ2 (compareOp op a b) (fun c m3 σ3 => ∃ d, c = .bool d ∧ P (.bool d) m3 σ3))))
    (hb : behindInMarks op r = false := by rfl) : TE prog w n L m σ (eval (.Compare l [op] [r] pos) env) P :=
  e_compare (h.mono fun x m1 σ1 h1 => h1.mono fun y m2 σ2 h2 a b ra rb => (h2 a b ra rb).mono fun c m3 σ3 h3 => by obtain ⟨d, rfl, p⟩ := h3; exact p) hb
/-- the meets -/
structure LM (W : List (List Nat)) (Rr Ww Lt Me : Addr) (k : Nat) (m : Loc) (σ : Sto) : Prop where
  ex : ∃ mvs, σ Me = some (AO.list mvs) ∧ ListsAt σ mvs (((meetsOf W).take k).map letA) ∧ (∀ j : Nat, mvs[j]? ≠ some (AV.ref Me))
  mr : m "rows" = some (.ref Rr)
  mw : m "words" = some (.ref Ww)
  ml : m "letters" = some (.ref Lt)
  mm : m "meets" = some (.ref Me)
  eR : σ Rr = some (.list (rowsA W))
  eW : σ Ww = some (.list (wordsA W))
  eL : σ Lt = some (.list (letA (lettersN W.length)))
  tb : tabs σ
/-- the letters of one corner -/
structure LC (W : List (List Nat)) (Rr Ww Lt Me Cn : Addr) (k : Nat) (mvs : List AV) (wd : List Nat) (j : Nat) (m : Loc) (σ : Sto) : Prop where
  mr : m "rows" = some (.ref Rr)
  mw : m "words" = some (.ref Ww)
  ml : m "letters" = some (.ref Lt)
  mm : m "meets" = some (.ref Me)
  mkk : m "k" = some (.int k)
  mc : m "corner" = some (.ref Cn)
  eM : σ Me = some (AO.list mvs)
  hM : ListsAt σ mvs (((meetsOf W).take k).map letA)
  eC : σ Cn = some (.list (letA (((lettersN W.length).take j).filter fun c => decide (c ∈ wd))))
  eR : σ Rr = some (.list (rowsA W))
  eW : σ Ww = some (.list (wordsA W))
  eL : σ Lt = some (.list (letA (lettersN W.length)))
  tb : tabs σ
theorem lettersN_mem {S a : Nat} (hS : S ≤ 7) (h : a ∈ lettersN S) : a ∈ letters ∧ 97 ≤ a ∧ a ≤ 101 := by
  unfold lettersN at h
  obtain ⟨k, hk, rfl⟩ := List.mem_map.mp h
  have := List.mem_range.mp hk
  refine ⟨?_, by omega, by omega⟩
  unfold letters
  have : k = 0 ∨ k = 1 ∨ k = 2 ∨ k = 3 ∨ k = 4 := by omega
  rcases this with rfl | rfl | rfl | rfl | rfl <;> decide
theorem in_row {c : Nat} {wd : List Nat} (h : 97 ≤ c) : decide (c ∈ row wd) = decide (c ∈ wd) := by
  unfold row
  have : c ∈ List.replicate wd.length 46 ++ wd ↔ c ∈ wd := by
    rw [List.mem_append, List.mem_replicate]
    constructor
    · rintro (⟨_, e⟩ | e)
      · omega
      · exact e
    · exact .inr
  exact decide_eq_decide.mpr this
theorem letA_snoc (l : List Nat) (c : Nat) : letA l ++ [.str (SL [c])] = letA (l ++ [c]) := by simp [letA]
theorem dots3' : Str.ofString "..." = SL [46, 46, 46] := by decide +kernel
theorem lettersN_len (S : Nat) : (lettersN S).length = S - 2 := by simp [lettersN]
theorem meets_step {W : List (List Nat)} {k : Nat} {wd : List Nat} (h : W[k]? = some wd) : ((meetsOf W).take (k + 1)).map letA = ((meetsOf W).take k).map letA ++ [letA ((lettersN W.length).filter fun c => decide (c ∈ wd))] := by
  have e : (meetsOf W)[k]? = some ((lettersN W.length).filter fun c => decide (c ∈ wd)) := by unfold meetsOf; rw [List.getElem?_map, h]; rfl
  rw [List.take_add_one, e, List.map_append]; rfl
theorem meets_short {W : List (List Nat)} (h : W.length ≤ 7) : ∀ c ∈ meetsOf W, c.length ≤ 10 := by
  intro c hc
  unfold meetsOf at hc
  obtain ⟨wd, _, rfl⟩ := List.mem_map.mp hc
  have h1 := List.length_filter_le (fun c => decide (c ∈ wd)) (lettersN W.length)
  rw [lettersN_len] at h1
  omega
theorem meets_len (W : List (List Nat)) : (meetsOf W).length = W.length := by simp [meetsOf]
theorem dots_len (W : List (List Nat)) : (dotsOf W).length = W.length := by simp [dotsOf]
/-! Law2 -/
local macro_rules | `(tactic| walk_at "st") => `(tactic| ((with_reducible show Tr _ _ _ _ _ _ _ (eval (Expr.Subscript _ (Expr.Slice (some _) Option.none Option.none _) _) _) _); refine e_sliceFromT ?_))
local macro_rules | `(tactic| walk_at "st") => `(tactic| ((with_reducible show Tr _ _ _ _ _ _ _ (eval (Expr.Compare _ [_] [_] _) _) _); refine e_compareB ?_))
set_option maxHeartbeats 8000000 in
theorem law_holds : PySem.Challenge.rw_ty0025_01.Holds := hd (by
  k_go0
  rename_i w5 hs hlay0 hL1 hr1 hl2 w4 w3 w2 w1 w0 hL ra wl r0 hI hr hc1 hc2 hD h1 X' T' K' F' cH N' l0
  refine law_join X' T' F' cH codeHd N' (by rfl) (fun σ0 ht => ?_) (fun h' tk mc' F2 gr => ?_)
  · dsimp only
    have hA : ∀ name scope L a cd, AOk 100 (callerA.deeper (envOf name scope L a cd)) := fun name scope L a cd => ⟨rfl, by show callerA.depth + 1 + 100 ≤ 990; decide, by show callerA.units + 3 + 4 * 100 + 8 ≤ 9900; decide⟩
    have h63 : w5.length ≤ 63 := by omega
    refine a_cons ?_
    refine a_assignComp (hA _ _ _ _ _) ?_
    refine a_sliceTo (b := 4) (ws := w1) (vs := w5.map .int) (hA _ _ _ _ _) lifted (vrs_ints hI) (by rw [List.length_map, sizeLine_eq]; omega) (by walk_at "lk") fun l1 hl1 => ?_
    have hTR := topRead_of T'
    have hsz := F'.above
    clear T' K' F' cH codeHd N' l0 lifted hI hr hD X' h1 r0 wl ra hL w0 hL1 hs hlay0 hr1 hl2
    refine ⟨_, _, _, CN (upS σ0 l1 (.list ((w5.map AV.int).take 4))) (numsA (numsOf w5)), it_list upS_eq, by simp; omega, fun D hD => CN.zero hD, fun D i acc σ hI => hI.kp _ _ upS_eq, ?_, ?_⟩
    · intro C D i u acc σ hu hI eD
      rw [← List.map_take, List.getElem?_map] at hu
      obtain ⟨x, hx, rfl⟩ := Option.map_eq_some_iff.mp hu
      repeat walk_at "st"
      refine o_fmod (by decide) ?_
      rw [modN_eq]
      refine ⟨eD, hI.step ?_⟩
      unfold numsA numsOf
      rw [List.getElem?_map, List.getElem?_map, hx]; rfl
    · intro l2 acc σ1 hI el2
      obtain ⟨hl2, kp1, eq⟩ := hI
      rw [List.take_of_length_le (by simp [numsA, numsOf])] at eq
      subst eq
      have tb1 : tabs σ1 := (ht.new hl1).sub kp1
      have hn4 := numsOf_len w5
      clear kp1 hl1 ht hl2
      refine seqN ?_
      refine a_cons (a_of (hA _ _ _ _ _) ?_)
      repeat walk_at "st"
      refine ⟨by show 2 ≤ sizeLine; decide, fun l3 hl3 => ?_⟩
      repeat walk_at "st"
      refine e_builtin g_len rfl (.fn _) ?_
      repeat walk_at "st"
      refine b_lenL (upS_old hl3 el2) (by simp [numsA]; omega) ?_
      refine ⟨l3, _, (numsOf w5).length, rfl, by simp [numsA], upS_eq, by show 2 ≤ sizeLine; decide, fun l4 hl4 => ?_⟩
      have el4 := upS_old (o := .list ([AV.int 6, AV.int 77].drop (numsOf w5).length)) hl4 (upS_old (o := .list [AV.int 6, AV.int 77]) hl3 el2)
      have tb4 := (tb1.new (o := .list [AV.int 6, AV.int 77]) hl3).new (o := .list ([AV.int 6, AV.int 77].drop (numsOf w5).length)) hl4
      have eq4 : upS (upS σ1 l3 (.list [AV.int 6, AV.int 77])) l4 (.list ([AV.int 6, AV.int 77].drop (numsOf w5).length)) l4 = some (.list ([AV.int 6, AV.int 77].drop (numsOf w5).length)) := upS_eq
      generalize upS (upS σ1 l3 (.list [AV.int 6, AV.int 77])) l4 (.list ([AV.int 6, AV.int 77].drop (numsOf w5).length)) = σ4 at el4 tb4 eq4 ⊢
      refine o_catL el4 eq4 (by simp [numsA]; omega) fun l5 hl5 => ?_
      have e5 : numsA (numsOf w5) ++ [AV.int 6, AV.int 77].drop (numsOf w5).length = numsA (numsX w5) := by
        unfold numsX
        rw [show ([AV.int 6, AV.int 77] : List AV) = numsA [6, 77] from rfl]
        simp [numsA, List.map_drop]
      rw [e5]
      have tb5 := tb4.new (o := .list (numsA (numsX w5))) hl5
      have el5 : upS σ4 l5 (.list (numsA (numsX w5))) l5 = some (.list (numsA (numsX w5))) := upS_eq
      generalize upS σ4 l5 (.list (numsA (numsX w5))) = σ5 at tb5 el5 ⊢
      obtain ⟨hX2, hX4⟩ := numsX_len w5
      have hX18 := numsX_lt w5
      generalize numsX w5 = X at tb5 el5 hX2 hX4 hX18 ⊢
      clear e5 eq4 tb4 el4 hn4 tb1 el2
      refine seqN ?_
      refine a_cons (a_of (hA _ _ _ _ _) ?_)
      repeat walk_at "st"
      refine e_builtin g_iter rfl (.fn _) ?_
      repeat walk_at "st"
      refine e_global g_oct (.ref _) ?_
      refine c_def (by rfl) ?_
      repeat walk_at "st"
      refine c_octets (N := 99) (X := X) (by exact el5) (fun x hx => by have := hX18 x hx; omega) hX4 fun O σ6 kp6 hO eO => ?_
      repeat walk_at "st"
      refine b_iter eO fun T hT => ?_
      have tb7 := (tb5.sub kp6).new (o := .lit O 0) hT
      have eT7 : upS σ6 T (.lit O 0) T = some (.lit O 0) := upS_eq
      have eO7 : upS σ6 T (.lit O 0) O = some (.list (numsA (X.flatMap enc))) := upS_old hT eO
      have el7 : upS σ6 T (.lit O 0) l5 = some (.list (numsA X)) := upS_old hT (kp6 _ _ el5)
      generalize upS σ6 T (.lit O 0) = σ7 at tb7 eT7 eO7 el7 ⊢
      refine seqN ?_
      refine a_cons (a_of (hA _ _ _ _ _) ?_)
      clear tb5 el5 kp6 eO hO
      repeat walk_at "st"
      refine e_global g_grown (.ref _) ?_
      refine c_def (by rfl) ?_
      repeat walk_at "st"
      refine c_grown (N := 79) el7 eT7 eO7 tb7 hX18 hX4 fun t Rr Ww σ8 kp8 tb8 et eR eW eT8 => ?_
      have eO8 := kp8 O _ (tabs.ne tb7 eO7).1 (tabs.ne tb7 eO7).2 (fun q => by rw [q, eT7] at eO7; cases eO7) eO7
      refine ⟨t, _, _, rfl, et, ?_⟩
      obtain ⟨ok, hWl⟩ := okW_all hX4 X.length (Nat.le_refl _)
      rw [List.take_length] at ok hWl
      obtain ⟨Ls, hfr, hch⟩ := law_plain hX2 hX4
      have hoc : (numsA (X.flatMap enc)).length ≤ (X.flatMap enc).length := by simp [numsA]
      generalize growAll X = W at eR eW ok hWl hfr hch ⊢
      generalize (X.flatMap enc).length = q at hoc eT8 ⊢
      clear kp8 et tb7 eT7 eO7 el7
      refine seqN ?_
      refine a_cons (a_of (hA _ _ _ _ _) ?_)
      repeat walk_at "st"
      refine e_comp ?_
      repeat walk_at "st"
      refine ⟨_, _, _, CN σ8 (rowsA W), it_list eW, by simp [wordsA]; omega, fun D hD => CN.zero hD, fun D i acc σ hI => hI.kp _ _ eW, ?_, ?_⟩
      · intro C D i u acc σ hu hI eD
        unfold wordsA at hu
        rw [List.getElem?_map] at hu
        obtain ⟨wd, hwd, rfl⟩ := Option.map_eq_some_iff.mp hu
        have hs := ok.short wd (List.mem_of_getElem? hwd)
        have h7 := ok.len7
        repeat walk_at "st"
        refine e_builtin g_len rfl (.fn _) ?_
        repeat walk_at "st"
        refine b_lenS (x := SL wd) (by rw [SL_len]; omega) ?_
        rw [SL_len, dot_eq]
        refine o_mulS rfl (by omega) ?_
        repeat walk_at "st"
        refine o_addL rfl rfl (by simp; omega) ?_
        refine ⟨eD, hI.step ?_⟩
        unfold rowsA
        rw [List.getElem?_map, hwd]; rfl
      intro l9 acc σ9 hI e9
      obtain ⟨h9, kp9, eq9⟩ := hI
      rw [List.take_of_length_le (by simp [rowsA, wordsA])] at eq9
      subst eq9
      refine q_neD (rd_rows (kp9 _ _ eR)) (rd_rows e9) (shaped_strs _ fun r hr a ha => ?_) (by decide) ?_
      · obtain ⟨wd, hwd, rfl⟩ := List.mem_map.mp hr
        rcases List.mem_append.mp ha with ha | ha
        · rw [(List.mem_replicate.mp ha).2]; decide
        · have := (ok.abc _ hwd a ha).2; omega
      refine ⟨fun e => (by cases e), fun _ => ?_⟩
      repeat walk_at "st"
      have tb9 := tb8.sub kp9
      have eR9 := kp9 _ _ eR
      have eW9 := kp9 _ _ eW
      have eT9 := kp9 _ _ eT8
      have eO9 := kp9 _ _ eO8
      clear kp9 e9 h9 tb8 eR eW eT8 eO8
      refine a_cons ?_
      refine a_tryStop (n := 99) (hA _ _ _ _ _) hsz eT9 eO9 hoc (by walk_at "lk") hTR (by decide +kernel) (by decide +kernel) (by decide +kernel) (by decide +kernel) (by decide +kernel) ?_
      refine seqN ?_
      have tb10 := tb9.drop eT9 (lit_ne _ _)
      have eR10 : dropS σ9 T Rr = some (.list (rowsA W)) := dropS_ne (fun z => by rw [z, eT9] at eR9; cases eR9) eR9
      have eW10 : dropS σ9 T Ww = some (.list (wordsA W)) := dropS_ne (fun z => by rw [z, eT9] at eW9; cases eW9) eW9
      generalize dropS σ9 T = σ10 at tb10 eR10 eW10 ⊢
      clear tb9 eR9 eW9 eT9 eO9 hoc
      obtain ⟨S, hS⟩ : ∃ S, W.length = S := ⟨_, rfl⟩
      have hS5 : 5 ≤ S ∧ S ≤ 7 := by omega
      refine a_cons (a_of (hA _ _ _ _ _) ?_)
      refine s_assignComp ?_
      repeat walk_at "st"
      refine e_builtin g_range rfl (.ty _) ?_
      repeat walk_at "st"
      refine e_builtin g_len rfl (.fn _) ?_
      repeat walk_at "st"
      refine b_lenL eR10 (by simp [rowsA]; omega) ?_
      repeat walk_at "st"
      refine b_range1 fun r hr => ?_
      rw [show (((rowsA W).length : Nat) : Int) - 2 = 0 + ((S - 2 : Nat) : Int) by simp [rowsA]; omega]
      refine ⟨_, _, _, CN (upS σ10 r (.rng 0 (0 + ((S - 2 : Nat) : Int)))) (letA (lettersN S)), it_range upS_eq (by decide) (by omega), by rw [rngL_len]; omega, fun D hD => CN.zero hD, fun D i acc σ hI => trivial, ?_, ?_⟩
      · intro C D i u acc σ hu hI eD
        obtain ⟨hi, rfl⟩ := rngL_get hu
        repeat walk_at "st"
        refine e_builtin g_chr rfl (.fn _) ?_
        repeat walk_at "st"
        refine b_chr (c := 97 + i) (by omega) (by omega) ?_
        refine ⟨eD, hI.step ?_⟩
        unfold letA lettersN
        rw [List.getElem?_map, List.getElem?_map, List.getElem?_range hi]; rfl
      intro Lt acc σ11 hI eLt
      obtain ⟨h11, kp11, eq11⟩ := hI
      rw [rngL_len, List.take_of_length_le (by simp [letA, lettersN])] at eq11
      subst eq11
      have tb11 := (tb10.new hr).sub kp11
      have eR11 := kp11 _ _ (upS_old hr eR10)
      have eW11 := kp11 _ _ (upS_old hr eW10)
      clear kp11 hr h11 tb10 eR10 eW10
      refine seqN ?_
      refine a_cons (a_of (hA _ _ _ _ _) ?_)
      repeat walk_at "st"
      refine ⟨by decide, fun Me hMe => ?_⟩
      repeat walk_at "st"
      have hRM : Rr ≠ Me := fun z => by rw [z, hMe] at eR11; cases eR11
      have hWM : Ww ≠ Me := fun z => by rw [z, hMe] at eW11; cases eW11
      have hLM : Lt ≠ Me := fun z => by rw [z, hMe] at eLt; cases eLt
      have tb12 := tb11.new (o := .list []) hMe
      have eM12 : upS σ11 Me (.list []) Me = some (.list []) := upS_eq
      have eR12 := upS_old (o := .list []) hMe eR11
      have eW12 := upS_old (o := .list []) hMe eW11
      have eL12 := upS_old (o := .list []) hMe eLt
      generalize upS σ11 Me (.list []) = σ12 at tb12 eM12 eR12 eW12 eL12 ⊢
      clear tb11 eR11 eW11 eLt hMe
      refine a_cons (a_of (hA _ _ _ _ _) ?_)
      repeat walk_at "st"
      refine e_builtin g_range rfl (.ty _) ?_
      repeat walk_at "st"
      refine e_builtin g_len rfl (.fn _) ?_
      repeat walk_at "st"
      refine b_lenL eR12 (by simp [rowsA]; omega) ?_
      repeat walk_at "st"
      refine b_range1 fun r hr => ?_
      rw [show ((rowsA W).length : Int) = 0 + (S : Int) by simp [rowsA]; omega]
      refine ⟨_, _, _, LM W Rr Ww Lt Me, it_range (a := 0) (n := S) upS_eq (by decide) (by omega), ?_, fun i m σ hI => trivial, fun k u m2 σ13 hu hI => ?_, fun m2 σ13 hI => ?_⟩
      · exact ⟨⟨[], upS_old hr eM12, ListsAt.nil, fun j => by simp⟩, by walk_at "lk", by walk_at "lk", by walk_at "lk", by walk_at "lk", upS_old hr eR12, upS_old hr eW12, by rw [hS]; exact upS_old hr eL12, tb12.new hr⟩
      · obtain ⟨hkS, rfl⟩ := rngL_get hu
        obtain ⟨⟨mvs, eM, hM, hMM⟩, mr, mw, ml, mm, eR, eW, eL, tb⟩ := hI
        have hkW : k < W.length := by omega
        obtain ⟨wd, hwd⟩ : ∃ wd, W[k] = wd := ⟨_, rfl⟩
        have hwm : wd ∈ W := hwd ▸ List.getElem_mem hkW
        have hsh := ok.short _ hwm
        have h7 := ok.len7
        rw [show (0 : Int) + (k : Int) = k by omega]
        repeat walk_at "st"
        refine ⟨by decide, fun Cn hCn => ?_⟩
        have hCR : Rr ≠ Cn := fun z => by rw [z, hCn] at eR; cases eR
        have hCW : Ww ≠ Cn := fun z => by rw [z, hCn] at eW; cases eW
        have hCL : Lt ≠ Cn := fun z => by rw [z, hCn] at eL; cases eL
        have hCM : Me ≠ Cn := fun z => by rw [z, hCn] at eM; cases eM
        have hMC := hM.ne hCn
        repeat walk_at "st"
        refine ⟨_, _, _, LC W Rr Ww Lt Me Cn k mvs wd, it_list (upS_old hCn eL), ?_, fun i m σ hI => hI.eL, fun j u m3 σ14 hu hI => ?_, fun m3 σ14 hI => ?_⟩
        · exact ⟨by walk_at "lk", by walk_at "lk", by walk_at "lk", by walk_at "lk", by walk_at "lk", by walk_at "lk", upS_old hCn eM, hM.sub fun b o e => upS_old hCn e, upS_eq, upS_old hCn eR, upS_old hCn eW, upS_old hCn eL, tb.new hCn⟩
        · unfold letA at hu
          rw [List.getElem?_map] at hu
          obtain ⟨c, hc, rfl⟩ := Option.map_eq_some_iff.mp hu
          obtain ⟨hcl, hc97, hc101⟩ := lettersN_mem ok.len7 (List.mem_of_getElem? hc)
          obtain ⟨mr, mw, ml, mm, mk, mc, eM, hM, eC, eR, eW, eL, tb⟩ := hI
          have hrow : (rowsA W)[k]? = some (.str (SL (row wd))) := by unfold rowsA; rw [List.getElem?_map, List.getElem?_eq_getElem hkW, hwd]; rfl
          have hword : (wordsA W)[k]? = some (.str (SL wd)) := by unfold wordsA; rw [List.getElem?_map, List.getElem?_eq_getElem hkW, hwd]; rfl
          repeat walk_at "st"
          refine e_global g_ellm (.ref _) ?_
          refine c_def (by rfl) ?_
          repeat walk_at "st"
          refine o_addL (b := [c]) dots3' rfl (by simp) ?_
          repeat walk_at "st"
          refine o_addL rfl dots3' (by simp) ?_
          repeat walk_at "st"
          refine x_item eR (by omega) (by omega) (by rw [Int.toNat_natCast]; exact hrow) ?_
          repeat walk_at "st"
          refine c_ellipsis (N := 99) (c := c) (r := row wd) hcl (by simp [row]; omega) fun σ15 kp15 => ?_
          rw [in_row hc97]
          have eM15 := kp15 _ _ eM
          have hM15 := hM.sub kp15
          have eC15 := kp15 _ _ eC
          have eR15 := kp15 _ _ eR
          have eW15 := kp15 _ _ eW
          have eL15 := kp15 _ _ eL
          have tb15 := tb.sub kp15
          have hst := filter_take (P := fun c => decide (c ∈ wd)) hc
          clear kp15 eM hM eC eR eW eL tb
          repeat walk_at "st"
          refine x_item eW15 (by omega) (by omega) (by rw [Int.toNat_natCast]; exact hword) ?_
          refine in_one ?_
          refine q_isnotB ?_
          refine ⟨fun e => (by simp at e), fun _ => ?_⟩
          repeat walk_at "st"
          refine ⟨fun e => ?_, fun e => ?_⟩
          · repeat walk_at "st"
            refine e_meth (id := "list.append") ?_
            repeat walk_at "st"
            refine ⟨meth_list PySem.F.slot_list_append (by rfl) eC15, ?_⟩
            repeat walk_at "st"
            refine m_append eC15 (by
              have h1 := List.length_filter_le (fun c => decide (c ∈ wd)) ((lettersN W.length).take j)
              rw [List.length_take, lettersN_len] at h1
              rw [sizeLine_eq]; simp only [letA, List.length_map]; omega) ⟨nofun, ?_⟩
            repeat walk_at "st"
            refine ⟨by walk_at "lk", by walk_at "lk", by walk_at "lk", by walk_at "lk", by walk_at "lk", by walk_at "lk", upS_ne hCM eM15, hM15.up hMC, ?_, upS_ne hCR eR15, upS_ne hCW eW15, upS_ne hCL eL15, tb15.setL eC15⟩
            rw [upS_eq, hst, if_pos e, letA_snoc]
          · repeat walk_at "st"
            refine ⟨by walk_at "lk", by walk_at "lk", by walk_at "lk", by walk_at "lk", by walk_at "lk", by walk_at "lk", eM15, hM15, ?_, eR15, eW15, eL15, tb15⟩
            rw [eC15, hst, if_neg (by rw [e]; decide), List.append_nil]
        · rw [show (letA (lettersN W.length)).length = (lettersN W.length).length by simp [letA]] at hI
          obtain ⟨mr, mw, ml, mm, mk, mc, eM, hM, eC, eR, eW, eL, tb⟩ := hI
          rw [List.take_length] at eC
          have hml : mvs.length = k := by rw [hM.len]; simp [meetsOf]; omega
          repeat walk_at "st"
          refine e_meth (id := "list.append") ?_
          repeat walk_at "st"
          refine ⟨meth_list PySem.F.slot_list_append (by rfl) eM, ?_⟩
          repeat walk_at "st"
          refine m_append eM (by rw [sizeLine_eq]; omega) ⟨nofun, ?_⟩
          repeat walk_at "st"
          refine ⟨⟨mvs ++ [.ref Cn], upS_eq, ?_, snoc_ne hMM (Ne.symm hCM)⟩, by walk_at "lk", by walk_at "lk", by walk_at "lk", by walk_at "lk", upS_ne hRM eR, upS_ne hWM eW, upS_ne hLM eL, tb.setL eM⟩
          rw [meets_step (by rw [List.getElem?_eq_getElem hkW, hwd])]
          exact (hM.snoc eC).up (snoc_ne hMM (Ne.symm hCM))
      · rw [rngL_len] at hI
        obtain ⟨⟨mvs, eM, hM, hMM⟩, mr, mw, ml, mm, eR, eW, eL, tb⟩ := hI
        refine seqN ?_
        refine a_cons (a_of (hA _ _ _ _ _) ?_)
        refine s_assignComp ?_
        repeat walk_at "st"
        refine ⟨_, _, _, CN σ13 (numsA (dotsOf W)), it_list eR, by simp [rowsA]; omega, fun D hD => CN.zero hD, fun D i acc σ hI => hI.kp _ _ eR, ?_, ?_⟩
        · intro C D i u acc σ hu hI eD
          unfold rowsA at hu
          rw [List.getElem?_map] at hu
          obtain ⟨wd, hwd, rfl⟩ := Option.map_eq_some_iff.mp hu
          have hwm := List.mem_of_getElem? hwd
          have hsh := ok.short wd hwm
          have h7 := ok.len7
          repeat walk_at "st"
          refine e_builtin g_len rfl (.fn _) ?_
          repeat walk_at "st"
          refine b_lenS (x := SL (row wd)) (by rw [SL_len]; simp [row]; omega) ?_
          repeat walk_at "st"
          refine e_builtin g_len rfl (.fn _) ?_
          repeat walk_at "st"
          refine e_meth (id := "str.lstrip") ?_
          repeat walk_at "st"
          refine ⟨meth_str PySem.F.slot_str_lstrip (by rfl), ?_⟩
          repeat walk_at "st"
          rw [dot_eq]
          refine b_lstrip (d := wd.length) (wd := wd) (fun e => ?_) (by omega) ?_
          · obtain ⟨x, l, rfl⟩ := List.exists_cons_of_ne_nil (ok.ne wd hwm)
            have := (ok.abc _ hwm x (.head _)).1
            simp at e; omega
          repeat walk_at "st"
          refine b_lenS (x := SL wd) (by rw [SL_len]; omega) ?_
          repeat walk_at "st"
          rw [SL_len, SL_len, show ((row wd).length : Int) - (wd.length : Int) = (wd.length : Nat) by simp [row]]
          refine ⟨eD, hI.step ?_⟩
          unfold numsA dotsOf
          rw [List.getElem?_map, List.getElem?_map, hwd]; rfl
        intro Dt acc σ14 hI eDt
        obtain ⟨h14, kp14, eq14⟩ := hI
        rw [List.take_of_length_le (by simp [numsA, dotsOf, rowsA])] at eq14
        subst eq14
        have tb14 := tb.sub kp14
        have eM14 := kp14 _ _ eM
        have hM14 := hM.sub kp14
        rw [List.take_of_length_le (by rw [meets_len]; omega)] at hM14
        refine seqN ?_
        refine a_cons (a_of (hA _ _ _ _ _) ?_)
        repeat walk_at "st"
        refine e_global g_frz (.ref _) ?_
        refine c_def (by rfl) ?_
        repeat walk_at "st"
        refine c_frieze (N := 79) eDt (by rw [dots_len]; omega) (by rw [dots_len]; omega) hfr tb14 fun R1 σ15 kp15 tb15 hR1 => ?_
        have eM15 := kp15 _ _ (tabs.ne tb14 eM14).1 (tabs.ne tb14 eM14).2 eM14
        have hM15 : ListsAt σ15 mvs ((meetsOf W).map letA) := hM14.mono fun a row e _ => kp15 _ _ (tabs.ne tb14 e).1 (tabs.ne tb14 e).2 e
        repeat walk_at "st"
        refine e_global g_chs (.ref _) ?_
        refine c_def (by rfl) ?_
        repeat walk_at "st"
        refine c_choices (N := 99) eM15 hM15 (by rw [meets_len]; omega) (by rw [meets_len]; omega) (meets_short ok.len7) hch fun R2 σ16 kp16 hR2 => ?_
        refine q_eqD (Rd.mono hR1 kp16) hR2 (shaped_dataL Ls) (by decide) ?_
        exact ⟨rfl, tb15.sub kp16⟩
  · refine ⟨goodW_bool F2 (by assumption) (fun cls => by rfl) ?_, gr⟩
    kc_post)
end Mine
theorem PySem.Challenge.cw_ty0025_01_holds : PySem.Challenge.rw_ty0025_01.Holds := by
  exact Mine.law_holds
