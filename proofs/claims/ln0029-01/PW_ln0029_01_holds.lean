import PyProof.Rows.All
import Wide.All
import OpenK.AllK
import Wide.FinOn
import PySem.Challenge.RW_ln0029_01
set_option Elab.async false
set_option linter.unusedVariables false
namespace Mine
open PySem PySem.W PyProof.Rows PySem.Calls
theorem mod32 {prog : Program} {w : World} {A : Around} {E : Value → Shared → Prop} {s : Shared} {Q : Value → Shared → Prop} {a b : Int} {t u : Tok} (hb : b = 4294967296)
    (h : ∀ x : Int, 0 ≤ x → x < 4294967296 → Q (.int x s.toks) { s with toks := s.toks + 1 }) :
    wpAny (model prog w) A (binaryOp .Mod (.int a t) (.int b u)) Q E s := by
  subst hb
  refine mod_int' (by decide) (h _ ?_ ?_)
  · rw [Int.fmod_eq_emod_of_nonneg _ (by decide)]; omega
  · rw [Int.fmod_eq_emod_of_nonneg _ (by decide)]; omega
theorem modT {prog : Program} {w : World} {A : Around} {E : Value → Shared → Prop} {s : Shared} {Q : Value → Shared → Prop} {a : Int} {t u : Tok}
    (h : ∀ x : Int, a.fmod 32 = x → 0 ≤ x → x < 32 → Q (.int x s.toks) { s with toks := s.toks + 1 }) :
    wpAny (model prog w) A (binaryOp .Mod (.int a t) (.int 32 u)) Q E s := by
  refine mod_int' (by decide) (h _ rfl ?_ ?_)
  · rw [Int.fmod_eq_emod_of_nonneg _ (by decide)]; omega
  · rw [Int.fmod_eq_emod_of_nonneg _ (by decide)]; omega
def bitAt (n k : Int) : Int := (n.fdiv (2 ^ (31 - k).toNat)).fmod 2
def bitL (n : Int) : List Int := List.map (fun k' => (n.fdiv (2 ^ (31 - k').toNat)).fmod 2) (rangeKs 0 ((32 : Int) - 0).toNat)
theorem bitAt_or (n k : Int) : bitAt n k = 0 ∨ bitAt n k = 1 := by
  unfold bitAt
  rw [Int.fmod_eq_emod_of_nonneg _ (by decide)]
  omega
theorem bitL_length (n : Int) : (bitL n).length = 32 := by
  unfold bitL
  rw [List.length_map, rangeKs_length]; rfl
theorem bitL_get {n k : Int} (h0 : 0 ≤ k) (h1 : k < 32) : (bitL n)[k.toNat]? = some (bitAt n k) := by
  unfold bitL bitAt rangeKs
  rw [List.map_map, List.getElem?_map]
  have hk : k.toNat < ((32 : Int) - 0).toNat := by
    have : ((32 : Int) - 0).toNat = 32 := rfl
    omega
  rw [List.getElem?_range hk]
  simp only [Option.map_some, Function.comp]
  have e : (0 : Int) + (k.toNat : Int) = k := by omega
  rw [e]
def lf (n t : Int) : Nat → Int
  | 0 => 0
  | j+1 => 2 * lf n t j + bitAt n (((j : Int) + t).fmod 32)
def rf (n t : Int) : Nat → Int
  | 0 => 0
  | j+1 => 2 * rf n t j + bitAt n (((j : Int) - t).fmod 32)
theorem lf_bd (n t : Int) : ∀ j, 0 ≤ lf n t j ∧ lf n t j < 2 ^ j
  | 0 => by simp [lf]
  | j+1 => by
    have ⟨h0, h1⟩ := lf_bd n t j
    have hb := bitAt_or n (((j : Int) + t).fmod 32)
    simp only [lf]
    rw [Int.pow_succ]
    omega
theorem rf_bd (n t : Int) : ∀ j, 0 ≤ rf n t j ∧ rf n t j < 2 ^ j
  | 0 => by simp [rf]
  | j+1 => by
    have ⟨h0, h1⟩ := rf_bd n t j
    have hb := bitAt_or n (((j : Int) - t).fmod 32)
    simp only [rf]
    rw [Int.pow_succ]
    omega
theorem pow_le32 {j : Nat} (h : j ≤ 32) : (2 : Int) ^ j ≤ 4294967296 := by
  have : (2 : Int) ^ j ≤ 2 ^ 32 := by
    have := Nat.pow_le_pow_right (n := 2) (by decide) h
    exact_mod_cast this
  simpa using this
theorem turn1 {num trn l r ix iy k : Int} {pre : List Int} (hl : l = lf num trn pre.length) (hr : r = rf num trn pre.length) (hk : k = 0 + (pre.length : Int)) (hlt : pre.length < ((32 : Int) - 0).toNat)
    (hix : (k + trn).fmod 32 = ix) (hiy : (k - trn).fmod 32 = iy) :
    2 * l + bitAt num ix = lf num trn (pre ++ [k]).length ∧ 2 * r + bitAt num iy = rf num trn (pre ++ [k]).length ∧ 0 ≤ 2 * l + bitAt num ix ∧ 2 * l + bitAt num ix < 4294967296 ∧ 0 ≤ 2 * r + bitAt num iy ∧ 2 * r + bitAt num iy < 4294967296 ∧ (pre ++ [k]).length ≤ 32 := by
  have e32 : ((32 : Int) - 0).toNat = 32 := rfl
  have hlen : (pre ++ [k]).length = pre.length + 1 := by simp
  have ek : k = (pre.length : Int) := by omega
  have e1 : 2 * l + bitAt num ix = lf num trn (pre ++ [k]).length := by rw [hlen, ← hix, hl, ek]; rfl
  have e2 : 2 * r + bitAt num iy = rf num trn (pre ++ [k]).length := by rw [hlen, ← hiy, hr, ek]; rfl
  have hle : (pre ++ [k]).length ≤ 32 := by omega
  have hp := pow_le32 hle
  have b1 := lf_bd num trn (pre ++ [k]).length
  have b2 := rf_bd num trn (pre ++ [k]).length
  rw [e1, e2]
  exact ⟨rfl, rfl, b1.1, Int.lt_of_lt_of_le b1.2 hp, b2.1, Int.lt_of_lt_of_le b2.2 hp, hle⟩
theorem item_bit {prog : Program} {w : World} {A : Around} {E : Value → Shared → Prop} {s : Shared} {value slice : PySem.Expr} {l : Addr} {vs : List Value} {n k : Int} {u : Tok} {Q : Value → Shared → Prop} (hl : s.heap.IsList l vs.toArray) (hi : IntsAre vs (bitL n))
    (h0 : 0 ≤ k) (h1 : k < 32) (h : ∀ t, Q (.int (bitAt n k) t) s)
    (hs : subscripted slice false (.ref l) (.int k u) = operate [.ref l, .int k u] (getItem (.ref l) (.int k u)) := by with_unfolding_all rfl) :
    wpAny (model prog w) A (subscriptTail value slice (.ref l) (.int k u)) Q E s := by
  refine item_anyK hl hi h0 (by rw [bitL_length]; exact h1) (by omega) ?_ hs
  intro t
  rw [List.getD_eq_getElem?_getD, bitL_get h0 h1]
  exact h t
theorem item_bit' {prog : Program} {w : World} {A : Around} {E : Value → Shared → Prop} {s : Shared} {value slice : PySem.Expr} {l : Addr} {vs : List Value} {n k : Int} {u : Tok} {Q : Value → Shared → Prop} (hl : s.heap.IsList l vs.toArray) (hi : IntsAre vs (bitL n))
    (h0 : 0 ≤ k) (h1 : k < 0 + ((((32 : Int) - 0).toNat : Nat) : Int)) (h : ∀ t, Q (.int (bitAt n k) t) s)
    (hs : subscripted slice false (.ref l) (.int k u) = operate [.ref l, .int k u] (getItem (.ref l) (.int k u)) := by with_unfolding_all rfl) :
    wpAny (model prog w) A (subscriptTail value slice (.ref l) (.int k u)) Q E s :=
  item_bit hl hi h0 (by have : (((32 : Int) - 0).toNat : Int) = 32 := rfl; omega) h hs
def gOnes (n : Int) (l : List Int) (k : Int) : List Int := if bitAt n k = 1 then l ++ [k] else l
theorem gOnes_pos {n k : Int} {l : List Int} (h : bitAt n k = 1) : gOnes n l k = l ++ [k] := if_pos h
theorem gOnes_neg {n k : Int} {l : List Int} (h : ¬ bitAt n k = 1) : gOnes n l k = l := if_neg h
theorem gOnes_grows (n : Int) : KPfGrows (gOnes n) := by
  intro l k
  unfold gOnes
  split <;> simp
def onesL (n : Int) : List Int := (rangeKs 0 ((32 : Int) - 0).toNat).foldl (gOnes n) []
theorem gOnes_fold (n : Int) : ∀ (ks l : List Int), ks.foldl (gOnes n) l = l ++ ks.filter (fun k => bitAt n k = 1)
  | [], l => by simp
  | k :: ks, l => by
    rw [List.foldl_cons, gOnes_fold n ks]
    unfold gOnes
    by_cases h : bitAt n k = 1
    · simp [h]
    · simp [h]
theorem onesL_eq (n : Int) : onesL n = (rangeKs 0 ((32 : Int) - 0).toNat).filter (fun k => bitAt n k = 1) := by
  unfold onesL
  rw [gOnes_fold]; simp
theorem bitAt_nat (N k : Nat) (h : k < 32) : bitAt (N : Int) (k : Int) = ((N / 2 ^ (31 - k) % 2 : Nat) : Int) := by
  unfold bitAt
  have e : ((31 : Int) - (k : Int)).toNat = 31 - k := by omega
  rw [e, Int.fdiv_eq_ediv_of_nonneg _ (Int.le_of_lt (kbt_pos _)), Int.fmod_eq_emod_of_nonneg _ (by decide), ← kbt_cast, Int.natCast_emod, Int.natCast_ediv]
  rfl
theorem half_pow (N k : Nat) : N / 2 ^ (k + 1) = N / 2 ^ k / 2 := by
  rw [Nat.pow_succ, Nat.div_div_eq_div_mul]
theorem lf_lo (N s : Nat) : ∀ j, s + j ≤ 32 → lf (N : Int) (s : Int) j = ((N / 2 ^ (32 - s - j) % 2 ^ j : Nat) : Int)
  | 0, _ => by simp [lf, Nat.mod_one]
  | j+1, h => by
    have ih := lf_lo N s j (by omega)
    show 2 * lf (N : Int) (s : Int) j + bitAt (N : Int) (((j : Int) + (s : Int)).fmod 32) = _
    have e1 : ((j : Int) + (s : Int)).fmod 32 = ((j + s : Nat) : Int) := by
      rw [Int.fmod_eq_emod_of_nonneg _ (by decide)]; omega
    rw [ih, e1, bitAt_nat _ _ (by omega)]
    have e2 : 32 - s - j = (32 - s - (j + 1)) + 1 := by omega
    have e3 : 31 - (j + s) = 32 - s - (j + 1) := by omega
    rw [e2, half_pow, e3]
    generalize N / 2 ^ (32 - s - (j + 1)) = M
    have h4 := Nat.mod_mul (x := M) (a := 2) (b := 2 ^ j)
    rw [Nat.pow_succ, Nat.mul_comm (2 ^ j) 2, h4]
    omega
theorem lf_hi (N s : Nat) (hN : N < 2 ^ 32) (hs : s ≤ 32) : ∀ i, i ≤ s → lf (N : Int) (s : Int) (32 - s + i) = ((N % 2 ^ (32 - s) * 2 ^ i + N / 2 ^ (32 - i) : Nat) : Int)
  | 0, _ => by
    have h := lf_lo N s (32 - s) (by omega)
    have e : 32 - s - (32 - s) = 0 := by omega
    rw [e] at h
    rw [Nat.add_zero, h, Nat.sub_zero, Nat.div_eq_of_lt hN]
    simp
  | i+1, h => by
    have ih := lf_hi N s hN hs i (by omega)
    show 2 * lf (N : Int) (s : Int) (32 - s + i) + bitAt (N : Int) ((((32 - s + i : Nat) : Int) + (s : Int)).fmod 32) = _
    have e1 : (((32 - s + i : Nat) : Int) + (s : Int)).fmod 32 = (i : Int) := by
      rw [Int.fmod_eq_emod_of_nonneg _ (by decide)]; omega
    rw [ih, e1, bitAt_nat _ _ (by omega)]
    have e2 : 32 - i = (32 - (i + 1)) + 1 := by omega
    have e3 : 31 - i = 32 - (i + 1) := by omega
    rw [e2, half_pow, e3]
    generalize N / 2 ^ (32 - (i + 1)) = M
    rw [Nat.pow_succ, ← Nat.mul_assoc]
    omega
theorem lf_end (N s : Nat) (hN : N < 2 ^ 32) (hs : s ≤ 32) : lf (N : Int) (s : Int) 32 = ((N % 2 ^ (32 - s) * 2 ^ s + N / 2 ^ (32 - s) : Nat) : Int) := by
  have h := lf_hi N s hN hs s (Nat.le_refl _)
  have e : 32 - s + s = 32 := by omega
  rw [e] at h
  exact h
theorem or_parts (a b s : Nat) (hb : b < 2 ^ s) : Builtin.bitOr ((a * 2 ^ s : Nat) : Int) (b : Int) = ((a * 2 ^ s + b : Nat) : Int) := by
  rw [bitOr_and, bitAnd_pp (Int.natCast_nonneg _) (Int.natCast_nonneg _)]
  have h1 := nat_or_add_and (a * 2 ^ s) b
  have h2 := Nat.two_pow_add_eq_or_of_lt hb a
  rw [Nat.mul_comm] at h2
  simp only [Int.toNat_natCast]
  omega
theorem turn_left (N s : Nat) (hN : N < 2 ^ 32) (hs : s ≤ 32) : Builtin.bitOr (Builtin.bitAnd ((N : Int) * 2 ^ s) 4294967295) ((N : Int).fdiv (2 ^ (32 - s))) = lf (N : Int) (s : Int) 32 := by
  rw [lf_end N s hN hs, bitAnd_m32, Int.fdiv_eq_ediv_of_nonneg _ (Int.le_of_lt (kbt_pos _))]
  have e1 : (N : Int) * 2 ^ s % 4294967296 = ((N % 2 ^ (32 - s) * 2 ^ s : Nat) : Int) := by
    rw [← kbt_cast]
    have h := Nat.mul_mod_mul_right (2 ^ s) N (2 ^ (32 - s))
    rw [← Nat.pow_add, show 32 - s + s = 32 by omega] at h
    rw [← h]
    simp
  have e2 : (N : Int) / 2 ^ (32 - s) = ((N / 2 ^ (32 - s) : Nat) : Int) := by
    rw [← kbt_cast, Int.natCast_ediv]
  rw [e1, e2]
  refine or_parts _ _ _ ?_
  refine Nat.div_lt_of_lt_mul ?_
  rw [← Nat.pow_add, show 32 - s + s = 32 by omega]
  exact hN
theorem rf_lf (n : Int) (t : Int) : ∀ j, rf n t j = lf n (32 - t) j
  | 0 => rfl
  | j+1 => by
    show 2 * rf n t j + bitAt n (((j : Int) - t).fmod 32) = 2 * lf n (32 - t) j + bitAt n (((j : Int) + (32 - t)).fmod 32)
    rw [rf_lf n t j]
    have e : ((j : Int) - t).fmod 32 = ((j : Int) + (32 - t)).fmod 32 := by
      rw [Int.fmod_eq_emod_of_nonneg _ (by decide), Int.fmod_eq_emod_of_nonneg _ (by decide)]; omega
    rw [e]
theorem rotl_law {n t v : Int} {j : Nat} (h0 : 0 ≤ n) (h1 : n < 4294967296) (t0 : 0 ≤ t) (t1 : t < 32) (hj : j = 32) (hv : v = lf n t j) :
    Builtin.bitOr (Builtin.bitAnd (n * 2 ^ t.toNat) 4294967295) (n.fdiv (2 ^ (32 - t).toNat)) = v := by
  subst hj
  have h := turn_left n.toNat t.toNat (by omega) (by omega)
  have e1 : ((n.toNat : Nat) : Int) = n := by omega
  have e2 : ((t.toNat : Nat) : Int) = t := by omega
  have e3 : (32 - t).toNat = 32 - t.toNat := by omega
  rw [e1, e2] at h
  rw [e3, h, hv]
theorem rotr_law {n t v : Int} {j : Nat} (h0 : 0 ≤ n) (h1 : n < 4294967296) (t0 : 0 ≤ t) (t1 : t < 32) (hj : j = 32) (hv : v = rf n t j) :
    Builtin.bitOr (n.fdiv (2 ^ t.toNat)) (Builtin.bitAnd (n * 2 ^ (32 - t).toNat) 4294967295) = v := by
  subst hj
  have h := turn_left n.toNat (32 - t).toNat (by omega) (by omega)
  have e1 : ((n.toNat : Nat) : Int) = n := by omega
  have e2 : (((32 - t).toNat : Nat) : Int) = 32 - t := by omega
  have e3 : 32 - (32 - t).toNat = t.toNat := by omega
  rw [e1, e2, e3] at h
  rw [bitOr_comm, h, hv, rf_lf]
def IntBack (h₀ : Heap) (L : Addr) (m : Str → Option Value) (led : List (Addr × Obj)) (s : Shared) (x : Int) (v : Value) (s' : Shared) : Prop :=
  ∃ t h tk, v = .int x t ∧ s' = { s with heap := h, toks := tk } ∧ Fr h₀ L h m ∧ News h₀ L h led
theorem IntBack.mk {h₀ : Heap} {L : Addr} {m : Str → Option Value} {led : List (Addr × Obj)} {s : Shared} {x y : Int} {t : Tok} {h : Heap} {tk : Nat} (e : y = x) (F : Fr h₀ L h m) (N : News h₀ L h led) :
    IntBack h₀ L m led s x (.int y t) { s with heap := h, toks := tk } := ⟨t, h, tk, by rw [e], rfl, F, N⟩
theorem cut {M : Model} {A : Around} {E : Value → Shared → Prop} {s : Shared} {Q : Value → Shared → Prop} {c : Sem Value} {h₀ : Heap} {L : Addr} {m : Str → Option Value} {led : List (Addr × Obj)}
    (F : Fr h₀ L s.heap m) (N : News h₀ L s.heap led) (x : Int) (h1 : wpAny M A c (IntBack h₀ L m led s x) E s)
    (h2 : ∀ t h tk, Fr h₀ L h m → News h₀ L h led → Q (.int x t) { s with heap := h, toks := tk }) : wpAny M A c Q E s := by
  refine wpAny_mono h1 ?_ fun _ _ e => e
  rintro _ _ ⟨t, h, tk, rfl, rfl, F', N'⟩
  exact h2 t h tk F' N'
theorem cutOf {M : Model} {A : Around} {E : Value → Shared → Prop} {s : Shared} {Q : Value → Shared → Prop} {c : Sem Value} {h₀ : Heap} {L : Addr} {m : Str → Option Value} {led : List (Addr × Obj)} {x y : Int}
    (e : x = y) (F : Fr h₀ L s.heap m) (N : News h₀ L s.heap led) (h1 : wpAny M A c (IntBack h₀ L m led s x) E s)
    (h2 : ∀ t h tk, Fr h₀ L h m → News h₀ L h led → Q (.int x t) { s with heap := h, toks := tk }) : wpAny M A c Q E s := cut F N x h1 h2
section
variable {prog : Program} {w : World} {A : Around} {E : Value → Shared → Prop} {s : Shared} {Q : Value → Shared → Prop} {a b : Int} {t u : Tok}
theorem modTrn {x : Int} (e : a.fmod 32 = x) (h : Q (.int x s.toks) { s with toks := s.toks + 1 }) :
    wpAny (model prog w) A (binaryOp .Mod (.int a t) (.int 32 u)) Q E s := by
  refine mod_int' (by decide) ?_
  rw [e]; exact h
theorem shl {k : Int} (h0 : 0 ≤ a) (h1 : a < 4294967296) (t0 : 0 ≤ k) (t1 : k ≤ 32) (h : Q (.int (a * 2 ^ k.toNat) s.toks) { s with toks := s.toks + 1 }) :
    wpAny (model prog w) A (binaryOp .LShift (.int a t) (.int k u)) Q E s :=
  lshift_int_small t0 (by omega) (by omega) h
theorem orTo {x : Int} (e : Builtin.bitOr a b = x) (h : Q (.int x s.toks) { s with toks := s.toks + 1 }) :
    wpAny (model prog w) A (binaryOp .BitOr (.int a t) (.int b u)) Q E s := by
  refine or_int ?_
  rw [e]; exact h
end
def IntSuch (h₀ : Heap) (L : Addr) (m : Str → Option Value) (led : List (Addr × Obj)) (s : Shared) (P : Int → Prop) (v : Value) (s' : Shared) : Prop :=
  ∃ x t h tk, P x ∧ v = .int x t ∧ s' = { s with heap := h, toks := tk } ∧ Fr h₀ L h m ∧ News h₀ L h led
theorem IntSuch.mk {h₀ : Heap} {L : Addr} {m : Str → Option Value} {led : List (Addr × Obj)} {s : Shared} {P : Int → Prop} {y : Int} {t : Tok} {h : Heap} {tk : Nat} (e : P y) (F : Fr h₀ L h m) (N : News h₀ L h led) :
    IntSuch h₀ L m led s P (.int y t) { s with heap := h, toks := tk } := ⟨y, t, h, tk, e, rfl, rfl, F, N⟩
theorem cutP {M : Model} {A : Around} {E : Value → Shared → Prop} {s : Shared} {Q : Value → Shared → Prop} {c : Sem Value} {h₀ : Heap} {L : Addr} {m : Str → Option Value} {led : List (Addr × Obj)} (P : Int → Prop)
    (F : Fr h₀ L s.heap m) (N : News h₀ L s.heap led) (h1 : wpAny M A c (IntSuch h₀ L m led s P) E s)
    (h2 : ∀ x t h tk, P x → Fr h₀ L h m → News h₀ L h led → Q (.int x t) { s with heap := h, toks := tk }) : wpAny M A c Q E s := by
  refine wpAny_mono h1 ?_ fun _ _ e => e
  rintro _ _ ⟨x, t, h, tk, e, rfl, rfl, F', N'⟩
  exact h2 x t h tk e F' N'
/-- the noughts ahead -/
def IsClz (n b : Int) : Prop := 0 ≤ b ∧ b ≤ 32 ∧ (∀ k : Int, 0 ≤ k → k < b → bitAt n k = 0) ∧ (b < 32 → bitAt n b = 1)
/-- the noughts behind -/
def IsCtz (n b : Int) : Prop := 0 ≤ b ∧ b ≤ 32 ∧ (∀ k : Int, 0 ≤ k → k < b → bitAt n (31 - k) = 0) ∧ (b < 32 → bitAt n (31 - b) = 1)
def cntF (n : Int) : Nat → Int
  | 0 => 0
  | j+1 => cntF n j + bitAt n (31 - (j : Int))
section
variable {prog : Program} {w : World} {A : Around} {E : Value → Shared → Prop} {s : Shared} {Q : Value → Shared → Prop} {a b : Int} {t u : Tok}
theorem andTo {x : Int} (e : Builtin.bitAnd a b = x) (h : Q (.int x s.toks) { s with toks := s.toks + 1 }) :
    wpAny (model prog w) A (binaryOp .BitAnd (.int a t) (.int b u)) Q E s := by
  refine and_int ?_
  rw [e]; exact h
end
def ClzS (n : Int) (pre : List Int) (b a : Int) : Prop := b = (pre.length : Int) ∧ pre.length ≤ 32 ∧ a = n * 2 ^ pre.length ∧ ∀ k : Int, 0 ≤ k → k < (pre.length : Int) → bitAt n k = 0
def CtzS (n : Int) (pre : List Int) (b a : Int) : Prop := b = (pre.length : Int) ∧ pre.length ≤ 32 ∧ a = n.fdiv (2 ^ pre.length) ∧ ∀ k : Int, 0 ≤ k → k < (pre.length : Int) → bitAt n (31 - k) = 0
def PopS (n : Int) (pre : List Int) (b a : Int) : Prop := b = cntF n pre.length ∧ pre.length ≤ 32 ∧ a = n.fdiv (2 ^ pre.length)
theorem clz_bit {n a b : Int} {pre : List Int} (h : ClzS n pre b a) (hl : pre.length < ((32 : Int) - 0).toNat) (hn : 0 ≤ n) : Builtin.bitAnd a 2147483648 = bitAt n b * 2147483648 := by
  obtain ⟨hb, _, ha, _⟩ := h
  have e32 : ((32 : Int) - 0).toNat = 32 := rfl
  have hk := kbt_bit a 31
  have e1 : (2 : Int) ^ 31 = 2147483648 := by decide
  rw [e1] at hk
  rw [hk, ha, hb]
  have e2 : n * 2 ^ pre.length / 2147483648 % 2 = bitAt n (pre.length : Int) := by
    unfold bitAt
    rw [Int.fdiv_eq_ediv_of_nonneg _ (Int.le_of_lt (kbt_pos _)), Int.fmod_eq_emod_of_nonneg _ (by decide), ← e1]
    have e3 : (31 - (pre.length : Int)).toNat = 31 - pre.length := by omega
    have e4 : (2 : Int) ^ 31 = 2 ^ (31 - pre.length) * 2 ^ pre.length := by
      rw [← Int.pow_add]
      congr 1
      omega
    rw [e3, e4, Int.mul_ediv_mul_of_pos_left _ _ (kbt_pos _)]
  rw [e2]
theorem clz_start (n : Int) : ClzS n [] 0 n := ⟨rfl, by decide, by simp, fun k h0 h1 => by simp at h1; omega⟩
theorem clz_size {n a b : Int} {pre : List Int} (h : ClzS n pre b a) (hl : pre.length < ((32 : Int) - 0).toNat) (hn : 0 ≤ n) (hn1 : n < 4294967296) : a.natAbs < 2 ^ 64 := by
  obtain ⟨_, h2, ha, _⟩ := h
  have hp := kbt_pos pre.length
  have h3 := pow_le32 h2
  have h4 : 0 ≤ a := by rw [ha]; exact Int.mul_nonneg hn (Int.le_of_lt hp)
  have h5 : a ≤ n * 4294967296 := by rw [ha]; exact Int.mul_le_mul_of_nonneg_left h3 hn
  omega
theorem clz_turn {n a b k : Int} {pre : List Int} (h : ClzS n pre b a) (hl : pre.length < ((32 : Int) - 0).toNat) (hz : bitAt n b * 2147483648 = 0) : ClzS n (pre ++ [k]) (b + 1) (a * 2 ^ (1 : Int).toNat) := by
  obtain ⟨hb, h2, ha, h3⟩ := h
  have e32 : ((32 : Int) - 0).toNat = 32 := rfl
  have hlen : (pre ++ [k]).length = pre.length + 1 := by simp
  refine ⟨by rw [hlen, hb]; simp, by omega, ?_, ?_⟩
  · rw [hlen, ha, Int.pow_succ, Int.mul_assoc]; rfl
  · intro j h0 h1
    rw [hlen] at h1
    by_cases e : j < (pre.length : Int)
    · exact h3 j h0 e
    · have : j = b := by omega
      rw [this]; omega
theorem clz_brk {n a b : Int} {pre : List Int} (h : ClzS n pre b a) (hl : pre.length < ((32 : Int) - 0).toNat) (hz : ¬ bitAt n b * 2147483648 = 0) : IsClz n b := by
  obtain ⟨hb, h2, ha, h3⟩ := h
  have h4 := bitAt_or n b
  refine ⟨by omega, by omega, fun k h0 h1 => h3 k h0 (by omega), fun _ => by omega⟩
theorem clz_end {n a b : Int} {pre : List Int} (h : ClzS n pre b a) (hl : pre.length = 32) : IsClz n b := by
  obtain ⟨hb, h2, ha, h3⟩ := h
  exact ⟨by omega, by omega, fun k h0 h1 => h3 k h0 (by omega), fun _ => by omega⟩
theorem shr_bit {n a : Int} {j : Nat} (ha : a = n.fdiv (2 ^ j)) (hl : j < ((32 : Int) - 0).toNat) : Builtin.bitAnd a 1 = bitAt n (31 - (j : Int)) := by
  have e32 : ((32 : Int) - 0).toNat = 32 := rfl
  rw [bitAnd_m1, ha]
  unfold bitAt
  have e : (31 - (31 - (j : Int))).toNat = j := by omega
  rw [e, Int.fmod_eq_emod_of_nonneg _ (by decide)]
theorem shr_next {n a : Int} {j : Nat} (ha : a = n.fdiv (2 ^ j)) : a.fdiv (2 ^ (1 : Int).toNat) = n.fdiv (2 ^ (j + 1)) := by
  have hp := kbt_pos j
  have e1 : (2 : Int) ^ (1 : Int).toNat = 2 := by decide
  rw [ha, e1, Int.pow_succ, Int.fdiv_eq_ediv_of_nonneg _ (Int.le_of_lt hp), Int.fdiv_eq_ediv_of_nonneg _ (by decide), Int.fdiv_eq_ediv_of_nonneg _ (by omega), Int.ediv_ediv_of_nonneg (Int.le_of_lt hp)]
theorem ctz_start (n : Int) : CtzS n [] 0 n := ⟨rfl, by decide, by simp, fun k h0 h1 => by simp at h1; omega⟩
theorem ctz_bit {n a b : Int} {pre : List Int} (h : CtzS n pre b a) (hl : pre.length < ((32 : Int) - 0).toNat) : Builtin.bitAnd a 1 = bitAt n (31 - b) := by
  obtain ⟨hb, _, ha, _⟩ := h
  rw [shr_bit ha hl, hb]
theorem ctz_turn {n a b k : Int} {pre : List Int} (h : CtzS n pre b a) (hl : pre.length < ((32 : Int) - 0).toNat) (hz : bitAt n (31 - b) = 0) : CtzS n (pre ++ [k]) (b + 1) (a.fdiv (2 ^ (1 : Int).toNat)) := by
  obtain ⟨hb, h2, ha, h3⟩ := h
  have e32 : ((32 : Int) - 0).toNat = 32 := rfl
  have hlen : (pre ++ [k]).length = pre.length + 1 := by simp
  refine ⟨by rw [hlen, hb]; simp, by omega, ?_, ?_⟩
  · rw [hlen, shr_next ha]
  · intro j h0 h1
    rw [hlen] at h1
    by_cases e : j < (pre.length : Int)
    · exact h3 j h0 e
    · have : j = b := by omega
      rw [this]; omega
theorem ctz_brk {n a b : Int} {pre : List Int} (h : CtzS n pre b a) (hl : pre.length < ((32 : Int) - 0).toNat) (hz : ¬ bitAt n (31 - b) = 0) : IsCtz n b := by
  obtain ⟨hb, h2, ha, h3⟩ := h
  have h4 := bitAt_or n (31 - b)
  refine ⟨by omega, by omega, fun k h0 h1 => h3 k h0 (by omega), fun _ => by omega⟩
theorem ctz_end {n a b : Int} {pre : List Int} (h : CtzS n pre b a) (hl : pre.length = 32) : IsCtz n b := by
  obtain ⟨hb, h2, ha, h3⟩ := h
  exact ⟨by omega, by omega, fun k h0 h1 => h3 k h0 (by omega), fun _ => by omega⟩
theorem pop_start (n : Int) : PopS n [] 0 n := ⟨rfl, by decide, by simp⟩
theorem pop_bit {n a b : Int} {pre : List Int} (h : PopS n pre b a) (hl : pre.length < ((32 : Int) - 0).toNat) : Builtin.bitAnd a 1 = bitAt n (31 - (pre.length : Int)) := by
  obtain ⟨hb, _, ha⟩ := h
  rw [shr_bit ha hl]
theorem pop_one {n a b k : Int} {pre : List Int} (h : PopS n pre b a) (hl : pre.length < ((32 : Int) - 0).toNat) (hz : ¬ bitAt n (31 - (pre.length : Int)) = 0) : PopS n (pre ++ [k]) (b + 1) (a.fdiv (2 ^ (1 : Int).toNat)) := by
  obtain ⟨hb, h2, ha⟩ := h
  have e32 : ((32 : Int) - 0).toNat = 32 := rfl
  have hlen : (pre ++ [k]).length = pre.length + 1 := by simp
  have h4 := bitAt_or n (31 - (pre.length : Int))
  refine ⟨?_, by omega, ?_⟩
  · rw [hlen, hb]
    show _ = cntF n pre.length + bitAt n (31 - (pre.length : Int))
    omega
  · rw [hlen, shr_next ha]
theorem pop_no {n a b k : Int} {pre : List Int} (h : PopS n pre b a) (hl : pre.length < ((32 : Int) - 0).toNat) (hz : bitAt n (31 - (pre.length : Int)) = 0) : PopS n (pre ++ [k]) b (a.fdiv (2 ^ (1 : Int).toNat)) := by
  obtain ⟨hb, h2, ha⟩ := h
  have e32 : ((32 : Int) - 0).toNat = 32 := rfl
  have hlen : (pre ++ [k]).length = pre.length + 1 := by simp
  refine ⟨?_, by omega, ?_⟩
  · rw [hlen, hb]
    show _ = cntF n pre.length + bitAt n (31 - (pre.length : Int))
    omega
  · rw [hlen, shr_next ha]
theorem pop_end {n a b : Int} {pre : List Int} (h : PopS n pre b a) (hl : pre.length = 32) : b = cntF n 32 := by
  rw [h.1, hl]
theorem iteP {c : Prop} [Decidable c] {a b : Prop} (h1 : c → a) (h2 : ¬ c → b) : if c then a else b := by
  by_cases h : c
  · rw [if_pos h]; exact h1 h
  · rw [if_neg h]; exact h2 h
theorem mem_onesL {n k : Int} : k ∈ onesL n ↔ 0 ≤ k ∧ k < 32 ∧ bitAt n k = 1 := by
  rw [onesL_eq, List.mem_filter]
  have e32 : ((32 : Int) - 0).toNat = 32 := rfl
  unfold rangeKs
  rw [List.mem_map]
  simp only [List.mem_range, decide_eq_true_eq]
  constructor
  · rintro ⟨⟨j, h1, rfl⟩, h2⟩
    exact ⟨by omega, by omega, h2⟩
  · rintro ⟨h0, h1, h2⟩
    exact ⟨⟨k.toNat, by omega, by omega⟩, h2⟩
theorem onesL_len (n : Int) : (onesL n).length ≤ 32 := by
  rw [onesL_eq]
  refine Nat.le_trans (List.length_filter_le _ _) ?_
  rw [rangeKs_length]
  decide
theorem lenOnes {prog : Program} {w : World} {A : Around} {E : Value → Shared → Prop} {s : Shared} {Q : Value → Shared → Prop} {l : Addr} {zs : List Value} {n : Int} (hl : s.heap.IsList l zs.toArray) (hi : IntsAre zs (onesL n))
    (h : Q (.int ((onesL n).length : Int) (s.toks + 1)) { s with toks := s.toks + 1 + 1 }) : wpAny (model prog w) A (call (.builtin "len") [.ref l]) Q E s := by
  have e : zs.toArray.size = (onesL n).length := by rw [List.size_toArray, hi.length]
  have hb := onesL_len n
  exact len_list hl (by rw [e]; omega) (by rw [e]; exact h)
theorem clz_law {n b M : Int} (h : IsClz n b) (hm : M ∈ onesL n ++ [32]) (hle : ∀ a, a ∈ onesL n ++ [32] → M ≤ a) : b = M := by
  obtain ⟨h0, h1, h2, h3⟩ := h
  have hM : (0 ≤ M ∧ M < 32 ∧ bitAt n M = 1) ∨ M = 32 := by
    rcases List.mem_append.mp hm with h | h
    · exact .inl (mem_onesL.mp h)
    · exact .inr (by simpa using h)
  have hb : M ≤ b := by
    by_cases e : b < 32
    · exact hle b (List.mem_append.mpr (.inl (mem_onesL.mpr ⟨h0, e, h3 e⟩)))
    · have : b = 32 := by omega
      rw [this]
      exact hle 32 (by simp)
  rcases hM with ⟨m0, m1, m2⟩ | h
  · by_cases e : M < b
    · have := h2 M m0 e; omega
    · omega
  · omega
theorem ctz_law {n b M : Int} (h : IsCtz n b) (hm : M ∈ onesL n) (hle : ∀ a, a ∈ onesL n → a ≤ M) : b = 31 - M := by
  obtain ⟨h0, h1, h2, h3⟩ := h
  obtain ⟨m0, m1, m2⟩ := mem_onesL.mp hm
  by_cases e : 31 - M < b
  · have := h2 (31 - M) (by omega) e
    have e2 : 31 - (31 - M) = M := by omega
    rw [e2] at this; omega
  · have e3 : b < 32 := by omega
    have := hle (31 - b) (mem_onesL.mpr ⟨by omega, by omega, h3 e3⟩)
    omega
theorem ctz_none {n b : Int} {zs : List Value} (h : IsCtz n b) (hi : IntsAre zs (onesL n)) (hz : zs.isEmpty = true) : b = 32 := by
  obtain ⟨h0, h1, h2, h3⟩ := h
  have e : zs = [] := List.isEmpty_iff.mp hz
  have e1 := hi.length
  rw [e] at e1
  have e2 : onesL n = [] := List.eq_nil_of_length_eq_zero e1.symm
  by_cases e3 : b < 32
  · have : 31 - b ∈ onesL n := mem_onesL.mpr ⟨by omega, by omega, h3 e3⟩
    rw [e2] at this
    simp at this
  · omega
theorem ones_pos {n : Int} {zs : List Value} (hi : IntsAre zs (onesL n)) (hz : ¬ zs.isEmpty = true) : 0 < (onesL n).length := by
  rw [← hi.length]
  cases zs with
  | nil => exact absurd rfl hz
  | cons z r => simp
theorem filter_range (f : Nat → Bool) (j : Nat) : ((List.range (j + 1)).filter f).length = ((List.range j).filter f).length + (if f j then 1 else 0) := by
  rw [List.range_succ, List.filter_append, List.length_append]
  by_cases h : f j <;> simp [h]
theorem cnt_eq (n : Int) : ∀ j, j ≤ 32 → cntF n j = ((((List.range 32).filter (fun i : Nat => decide (bitAt n (i : Int) = 1))).length : Nat) : Int) - ((((List.range (32 - j)).filter (fun i : Nat => decide (bitAt n (i : Int) = 1))).length : Nat) : Int)
  | 0, _ => by simp [cntF]
  | j+1, h => by
    have ih := cnt_eq n j (by omega)
    show cntF n j + bitAt n (31 - (j : Int)) = _
    rw [ih]
    have e : 32 - j = (32 - (j + 1)) + 1 := by omega
    have hf := filter_range (fun i : Nat => decide (bitAt n (i : Int) = 1)) (32 - (j + 1))
    rw [e, hf]
    have e2 : ((32 - (j + 1) : Nat) : Int) = 31 - (j : Int) := by omega
    rw [e2]
    have hb := bitAt_or n (31 - (j : Int))
    by_cases hc : bitAt n (31 - (j : Int)) = 1
    · simp only [hc, decide_true, if_true]; omega
    · have h0 : bitAt n (31 - (j : Int)) = 0 := by omega
      simp [h0]
theorem pop_law (n : Int) : cntF n 32 = ((onesL n).length : Int) := by
  rw [cnt_eq n 32 (Nat.le_refl _), onesL_eq]
  unfold rangeKs
  have e32 : ((32 : Int) - 0).toNat = 32 := rfl
  rw [e32, List.filter_map, List.length_map]
  have e : ((fun k => decide (bitAt n k = 1)) ∘ fun (i : Nat) => (0 : Int) + (i : Int)) = fun i : Nat => decide (bitAt n (i : Int) = 1) := by
    funext i
    simp
  rw [e]
  simp
end Mine
open PySem PySem.W PyProof.Rows
local macro_rules | `(tactic| walk_at "subscriptTail List cons Slice ref ref") => `(tactic| (k_here; (refine kba_turn (value' := PySem.Expr.Name (PySem.Str.ofString "_") ⟨0, 0, 0, 0⟩) (fun _ => rfl) ?_); k_dflt (refine' kmk_slice_ints ?zF ?zN ?zl ?zp ?zq ?zi ?zm ?zc ?_ ?zs ?zt ?zz; (case zF => k_asm); (case zN => k_asm); (case zl => kmk_list); (case zp => exact IsPart.int _ _); (case zq => exact IsPart.none); (case zi => l_ints); (case zm => exact kmk_from (by l_ints) (by omega)); (case zc => exact List.length_drop ..); (case zs => with_unfolding_all rfl); (case zt => kmk_pure); (case zz => exact Nat.le_of_ble_eq_true rfl)); intro D' ws' h' F' N' l1 hI' hC' hL'; (try k_lt l1); (try k_sweep)))
local macro_rules | `(tactic| walk_at "execs cons") => `(tactic| (k_here; (conv => arg 6; dsimp only); (try k_gentoks); (refine wpAny_execs_cons ?_); (try dsimp only)))
local macro_rules | `(tactic| walk_at "binaryOp Pow int int") => `(tactic| (k_here; (with_reducible refine pow_int_small ?kb1 ?kb2 ?kb3 ?_); (case kb1 => omega); (case kb2 => omega); (case kb3 => decide)))
set_option maxRecDepth 100000 in
set_option maxHeartbeats 0 in
theorem PySem.Challenge.cw_ln0029_01_holds : PySem.Challenge.rw_ln0029_01.Holds := by
  w_on
  o_law
  k_head
  (case hw => w_witness2)
  w_strict (
    -- S1
    k_go0; (all_goals try k_fold)
    iterate 33 (first | (k_unfold; (try dsimp only)) | (k_end; kc_close) | walk1 | (dsimp only; walk1) | (leave1; walk_say "STEP leave1"; (try dsimp only)))
    refine Mine.mod32 (by decide) ?_
    intro num hnum0 hnum1
    dsimp only
    (first | (k_unfold; (try dsimp only)) | (k_end; kc_close) | walk1 | (dsimp only; walk1) | (leave1; walk_say "STEP leave1"; (try dsimp only)))
    (first | (k_unfold; (try dsimp only)) | (k_end; kc_close) | walk1 | (dsimp only; walk1) | (leave1; walk_say "STEP leave1"; (try dsimp only)))
    iterate 32 (first | (k_unfold; (try dsimp only)) | (k_end; kc_close) | walk1 | (dsimp only; walk1) | (leave1; walk_say "STEP leave1"; (try dsimp only)))
    refine Mine.mod32 (by decide) ?_
    intro cnt hcnt0 hcnt1
    dsimp only
    (first | (k_unfold; (try dsimp only)) | (k_end; kc_close) | walk1 | (dsimp only; walk1) | (leave1; walk_say "STEP leave1"; (try dsimp only)))
    -- S2
    iterate 28 (first | (k_unfold; (try dsimp only)) | (k_end; kc_close) | walk1 | (dsimp only; walk1) | (leave1; walk_say "STEP leave1"; (try dsimp only)))
    (first | (k_unfold; (try dsimp only)) | (k_end; kc_close) | walk1 | (dsimp only; walk1) | (leave1; walk_say "STEP leave1"; (try dsimp only)))
    iterate 6 (first | (k_unfold; (try dsimp only)) | (k_end; kc_close) | walk1 | (dsimp only; walk1) | (leave1; walk_say "STEP leave1"; (try dsimp only)))
    refine Mine.modT ?_
    intro trn htrn htrn0 htrn1
    dsimp only
    (first | (k_unfold; (try dsimp only)) | (k_end; kc_close) | walk1 | (dsimp only; walk1) | (leave1; walk_say "STEP leave1"; (try dsimp only)))
    iterate 17 (first | (k_unfold; (try dsimp only)) | (k_end; kc_close) | walk1 | (dsimp only; walk1) | (leave1; walk_say "STEP leave1"; (try dsimp only)))
    rename IntsAre _ (List.map _ _) => hBits
    change IntsAre _ (Mine.bitL num) at hBits
    -- S3
    k_state (fun pre l r => l = Mine.lf num trn pre.length ∧ r = Mine.rf num trn pre.length ∧ 0 ≤ l ∧ l < 4294967296 ∧ 0 ≤ r ∧ r < 4294967296 ∧ pre.length ≤ 32) "left" "right"
    -- S4
    k_with "state" => exact Mine.turn1 (by assumption) (by assumption) (by assumption) (by assumption) (by assumption) (by assumption)
    iterate 15 (first | (k_unfold; (try dsimp only)) | (k_end; kc_close) | walk1 | (dsimp only; walk1) | (leave1; walk_say "STEP leave1"; (try dsimp only)))
    refine Mine.modT ?_
    intro ix hix hix0 hix1
    dsimp only
    (refine Mine.item_bit (n := num) ?z1 hBits hix0 hix1 ?_; (case z1 => is_list))
    intro bt
    (try dsimp only)
    iterate 17 (first | (k_unfold; (try dsimp only)) | (k_end; kc_close) | walk1 | (dsimp only; walk1) | (leave1; walk_say "STEP leave1"; (try dsimp only)))
    refine Mine.modT ?_
    intro iy hiy hiy0 hiy1
    dsimp only
    (refine Mine.item_bit (n := num) ?z1 hBits hiy0 hiy1 ?_; (case z1 => is_list))
    intro bt'
    (try dsimp only)
    iterate 5 (first | (k_unfold; (try dsimp only)) | (k_end; kc_close) | walk1 | (dsimp only; walk1) | (leave1; walk_say "STEP leave1"; (try dsimp only)))
    walk1
    -- S5
    (first | (k_unfold; (try dsimp only)) | (k_end; kc_close) | walk1 | (dsimp only; walk1) | (leave1; walk_say "STEP leave1"; (try dsimp only)))
    (first | (k_unfold; (try dsimp only)) | (k_end; kc_close) | walk1 | (dsimp only; walk1) | (leave1; walk_say "STEP leave1"; (try dsimp only)))
    rotate_right
    exact Mine.gOnes num
    iterate 4 (first | (k_unfold; (try dsimp only)) | (k_end; kc_close) | walk1 | (dsimp only; walk1) | (leave1; walk_say "STEP leave1"; (try dsimp only)))
    (refine Mine.item_bit' (n := num) ?z1 hBits (by assumption) (by assumption) ?_; (case z1 => is_list))
    intro bt'
    (try dsimp only)
    iterate 6 (first | (k_unfold; (try dsimp only)) | (k_end; kc_close) | walk1 | (dsimp only; walk1) | (leave1; walk_say "STEP leave1"; (try dsimp only)))
    refine LCg.CompEnd.intro (by with_reducible assumption) (by with_reducible assumption) _ (fun _ hp => hp) ?zoff ?zS ?zr
    (case zoff => first | (with_reducible assumption) | (simp only [LCg.Off3, and_true]; assumption))
    (case zS => exact True.intro)
    refine kci_el ?kce rfl rfl
    exact Mine.gOnes_pos (by assumption)
    refine LCg.CompEnd.intro (by with_reducible assumption) (by with_reducible assumption) _ (fun _ hp => hp) ?yoff ?yS ?yr
    (case yoff => first | (with_reducible assumption) | (simp only [LCg.Off3, and_true]; assumption))
    (case yS => exact True.intro)
    refine kci_no ?kce2 rfl
    exact Mine.gOnes_neg (by assumption)
    rotate_left
    exact Mine.gOnes_grows num
    unfold KPfDone
    intro zs hOnes hLenO
    change IntsAre zs (Mine.onesL num) at hOnes
    (try dsimp only)
    iterate 6 (first | (k_unfold; (try dsimp only)) | (k_end; kc_close) | walk1 | (dsimp only; walk1) | (leave1; walk_say "STEP leave1"; (try dsimp only)))
    -- S6
    (rename Fr _ _ _ _ => lF'); (rename News _ _ _ _ => lN')
    (rename _ = Mine.lf _ _ _ => hLeft); (rename _ = Mine.rf _ _ _ => hRight)
    refine Mine.cutOf hLeft lF' lN' ?_ ?_
    iterate 11 (first | (k_unfold; (try dsimp only)) | (k_end; kc_close) | walk1 | (dsimp only; walk1) | (leave1; walk_say "STEP leave1"; (try dsimp only)))
    -- S7
    iterate 7 (first | (k_unfold; (try dsimp only)) | (k_end; kc_close) | walk1 | (dsimp only; walk1) | (leave1; walk_say "STEP leave1"; (try dsimp only)))
    refine Mine.modTrn htrn ?_
    dsimp only
    iterate 8 (first | (k_unfold; (try dsimp only)) | (k_end; kc_close) | walk1 | (dsimp only; walk1) | (leave1; walk_say "STEP leave1"; (try dsimp only)))
    refine Mine.shl hnum0 hnum1 htrn0 (by omega) ?_
    dsimp only
    iterate 3 (first | (k_unfold; (try dsimp only)) | (k_end; kc_close) | walk1 | (dsimp only; walk1) | (leave1; walk_say "STEP leave1"; (try dsimp only)))
    refine and_int ?_
    dsimp only
    iterate 8 (first | (k_unfold; (try dsimp only)) | (k_end; kc_close) | walk1 | (dsimp only; walk1) | (leave1; walk_say "STEP leave1"; (try dsimp only)))
    refine rshift_int (by omega) ?_
    dsimp only
    refine Mine.orTo (Mine.rotl_law hnum0 hnum1 htrn0 htrn1 (by rw [rangeKs_length]; rfl) hLeft) ?_
    dsimp only
    (first | (k_unfold; (try dsimp only)) | (k_end; kc_close) | walk1 | (dsimp only; walk1) | (leave1; walk_say "STEP leave1"; (try dsimp only)))
    (first | (k_unfold; (try dsimp only)) | (k_end; kc_close) | walk1 | (dsimp only; walk1) | (leave1; walk_say "STEP leave1"; (try dsimp only)))
    exact Mine.IntBack.mk rfl (by assumption) (by assumption)
    -- S8
    intro tRl hRl tkRl hFrl hNrl
    (try dsimp only)
    iterate 1 (first | (k_unfold; (try dsimp only)) | (k_end; kc_close) | walk1 | (dsimp only; walk1) | (leave1; walk_say "STEP leave1"; (try dsimp only)))
    (rename Fr _ _ _ _ => lF'); (rename News _ _ _ _ => lN')
    refine Mine.cutOf hRight lF' lN' ?_ ?_
    iterate 11 (first | (k_unfold; (try dsimp only)) | (k_end; kc_close) | walk1 | (dsimp only; walk1) | (leave1; walk_say "STEP leave1"; (try dsimp only)))
    iterate 7 (first | (k_unfold; (try dsimp only)) | (k_end; kc_close) | walk1 | (dsimp only; walk1) | (leave1; walk_say "STEP leave1"; (try dsimp only)))
    refine Mine.modTrn htrn ?_
    dsimp only
    iterate 7 (first | (k_unfold; (try dsimp only)) | (k_end; kc_close) | walk1 | (dsimp only; walk1) | (leave1; walk_say "STEP leave1"; (try dsimp only)))
    refine rshift_int (by omega) ?_
    dsimp only
    iterate 9 (first | (k_unfold; (try dsimp only)) | (k_end; kc_close) | walk1 | (dsimp only; walk1) | (leave1; walk_say "STEP leave1"; (try dsimp only)))
    refine Mine.shl hnum0 hnum1 (by omega) (by omega) ?_
    dsimp only
    iterate 3 (first | (k_unfold; (try dsimp only)) | (k_end; kc_close) | walk1 | (dsimp only; walk1) | (leave1; walk_say "STEP leave1"; (try dsimp only)))
    refine and_int ?_
    dsimp only
    refine Mine.orTo (Mine.rotr_law hnum0 hnum1 htrn0 htrn1 (by rw [rangeKs_length]; rfl) hRight) ?_
    dsimp only
    (first | (k_unfold; (try dsimp only)) | (k_end; kc_close) | walk1 | (dsimp only; walk1) | (leave1; walk_say "STEP leave1"; (try dsimp only)))
    (first | (k_unfold; (try dsimp only)) | (k_end; kc_close) | walk1 | (dsimp only; walk1) | (leave1; walk_say "STEP leave1"; (try dsimp only)))
    exact Mine.IntBack.mk rfl (by assumption) (by assumption)
    (first | (k_unfold; (try dsimp only)) | (k_end; kc_close) | walk1 | (dsimp only; walk1) | (leave1; walk_say "STEP leave1"; (try dsimp only)))
    iterate 22 (first | (k_unfold; (try dsimp only)) | (k_end; kc_close) | walk1 | (dsimp only; walk1) | (leave1; walk_say "STEP leave1"; (try dsimp only)))
    -- S9
    (rename Fr _ _ _ _ => lF'); (rename News _ _ _ _ => lN')
    refine Mine.cutP (Mine.IsClz num) lF' lN' ?_ ?_
    iterate 9 (first | (k_unfold; (try dsimp only)) | (k_end; kc_close) | walk1 | (dsimp only; walk1) | (leave1; walk_say "STEP leave1"; (try dsimp only)))
    iterate 15 (first | (k_unfold; (try dsimp only)) | (k_end; kc_close) | walk1 | (dsimp only; walk1) | (leave1; walk_say "STEP leave1"; (try dsimp only)))
    k_with "state" => exact Mine.clz_start num
    focus (k_state (fun pre b a => Mine.ClzS num pre b a) "b" "a")
    -- S10
    (rename _ = (0 : Int) + _ => kEq0)
    (rename _ < ((32 : Int) - 0).toNat => kLt0)
    iterate 8 (first | (k_unfold; (try dsimp only)) | (k_end; kc_close) | walk1 | (dsimp only; walk1) | (leave1; walk_say "STEP leave1"; (try dsimp only)))
    refine Mine.andTo (Mine.clz_bit kInv kLt0 hnum0) ?_
    dsimp only
    iterate 11 (first | (k_unfold; (try dsimp only)) | (k_end; kc_close) | walk1 | (dsimp only; walk1) | (leave1; walk_say "STEP leave1"; (try dsimp only)))
    (rename News _ _ _ _ => nE')
    exact Mine.IntSuch.mk (Mine.clz_brk kInv kLt0 (by assumption)) (by assumption) (kst_newsOf nE' (by first | kst_in | kst_inAny))
    k_with "state" => exact Mine.clz_turn (by assumption) (by assumption) (by assumption)
    iterate 13 (first | (k_unfold; (try dsimp only)) | (k_end; kc_close) | walk1 | (dsimp only; walk1) | (leave1; walk_say "STEP leave1"; (try dsimp only)))
    refine lshift_int_small (by decide) (by decide) (Mine.clz_size kInv kLt0 hnum0 hnum1) ?_
    dsimp only
    iterate 4 (first | (k_unfold; (try dsimp only)) | (k_end; kc_close) | walk1 | (dsimp only; walk1) | (leave1; walk_say "STEP leave1"; (try dsimp only)))
    walk1
    -- S11
    iterate 4 (first | (k_unfold; (try dsimp only)) | (k_end; kc_close) | walk1 | (dsimp only; walk1) | (leave1; walk_say "STEP leave1"; (try dsimp only)))
    exact Mine.IntSuch.mk (Mine.clz_end kInv (by rw [rangeKs_length]; rfl)) (by assumption) (by assumption)
    -- S12
    intro clzV tClz hCl tkCl hClz hFcl hNcl
    (try dsimp only)
    (rename Mine.IsClz _ _ => hClz)
    iterate 1 (first | (k_unfold; (try dsimp only)) | (k_end; kc_close) | walk1 | (dsimp only; walk1) | (leave1; walk_say "STEP leave1"; (try dsimp only)))
    (rename Fr _ _ _ _ => lF'); (rename News _ _ _ _ => lN')
    refine Mine.cutP (Mine.IsCtz num) lF' lN' ?_ ?_
    iterate 9 (first | (k_unfold; (try dsimp only)) | (k_end; kc_close) | walk1 | (dsimp only; walk1) | (leave1; walk_say "STEP leave1"; (try dsimp only)))
    iterate 15 (first | (k_unfold; (try dsimp only)) | (k_end; kc_close) | walk1 | (dsimp only; walk1) | (leave1; walk_say "STEP leave1"; (try dsimp only)))
    k_with "state" => exact Mine.ctz_start num
    focus (k_state (fun pre b a => Mine.CtzS num pre b a) "b" "a")
    (rename _ = (0 : Int) + _ => kEq0)
    (rename _ < ((32 : Int) - 0).toNat => kLt0)
    iterate 6 (first | (k_unfold; (try dsimp only)) | (k_end; kc_close) | walk1 | (dsimp only; walk1) | (leave1; walk_say "STEP leave1"; (try dsimp only)))
    refine Mine.andTo (Mine.ctz_bit kInv kLt0) ?_
    dsimp only
    iterate 11 (first | (k_unfold; (try dsimp only)) | (k_end; kc_close) | walk1 | (dsimp only; walk1) | (leave1; walk_say "STEP leave1"; (try dsimp only)))
    (rename News _ _ _ _ => nE')
    exact Mine.IntSuch.mk (Mine.ctz_brk kInv kLt0 (by assumption)) (by assumption) (kst_newsOf nE' (by first | kst_in | kst_inAny))
    k_with "state" => exact Mine.ctz_turn (by assumption) (by assumption) (by assumption)
    iterate 13 (first | (k_unfold; (try dsimp only)) | (k_end; kc_close) | walk1 | (dsimp only; walk1) | (leave1; walk_say "STEP leave1"; (try dsimp only)))
    refine rshift_int (by decide) ?_
    dsimp only
    iterate 4 (first | (k_unfold; (try dsimp only)) | (k_end; kc_close) | walk1 | (dsimp only; walk1) | (leave1; walk_say "STEP leave1"; (try dsimp only)))
    walk1
    iterate 4 (first | (k_unfold; (try dsimp only)) | (k_end; kc_close) | walk1 | (dsimp only; walk1) | (leave1; walk_say "STEP leave1"; (try dsimp only)))
    exact Mine.IntSuch.mk (Mine.ctz_end kInv (by rw [rangeKs_length]; rfl)) (by assumption) (by assumption)
    intro ctzV tCtz hCt tkCt hCtz hFct hNct
    dsimp only
    iterate 1 (first | (k_unfold; (try dsimp only)) | (k_end; kc_close) | walk1 | (dsimp only; walk1) | (leave1; walk_say "STEP leave1"; (try dsimp only)))
    -- S13
    (rename Fr _ _ _ _ => lF'); (rename News _ _ _ _ => lN')
    refine Mine.cutP (fun x => x = Mine.cntF num 32) lF' lN' ?_ ?_
    iterate 9 (first | (k_unfold; (try dsimp only)) | (k_end; kc_close) | walk1 | (dsimp only; walk1) | (leave1; walk_say "STEP leave1"; (try dsimp only)))
    iterate 15 (first | (k_unfold; (try dsimp only)) | (k_end; kc_close) | walk1 | (dsimp only; walk1) | (leave1; walk_say "STEP leave1"; (try dsimp only)))
    k_with "state" => exact Mine.pop_start num
    focus (k_state (fun pre b a => Mine.PopS num pre b a) "b" "a")
    (rename _ = (0 : Int) + _ => kEq0)
    (rename _ < ((32 : Int) - 0).toNat => kLt0)
    iterate 6 (first | (k_unfold; (try dsimp only)) | (k_end; kc_close) | walk1 | (dsimp only; walk1) | (leave1; walk_say "STEP leave1"; (try dsimp only)))
    refine Mine.andTo (Mine.pop_bit kInv kLt0) ?_
    dsimp only
    k_with "state" => exact Mine.pop_one (by assumption) (by assumption) (by assumption)
    k_with "state" => exact Mine.pop_no (by assumption) (by assumption) (by assumption)
    iterate 16 (first | (k_unfold; (try dsimp only)) | (k_end; kc_close) | walk1 | (dsimp only; walk1) | (leave1; walk_say "STEP leave1"; (try dsimp only)))
    refine rshift_int (by decide) ?_
    dsimp only
    iterate 4 (first | (k_unfold; (try dsimp only)) | (k_end; kc_close) | walk1 | (dsimp only; walk1) | (leave1; walk_say "STEP leave1"; (try dsimp only)))
    walk1
    iterate 7 (first | (k_unfold; (try dsimp only)) | (k_end; kc_close) | walk1 | (dsimp only; walk1) | (leave1; walk_say "STEP leave1"; (try dsimp only)))
    refine rshift_int (by decide) ?_
    dsimp only
    iterate 4 (first | (k_unfold; (try dsimp only)) | (k_end; kc_close) | walk1 | (dsimp only; walk1) | (leave1; walk_say "STEP leave1"; (try dsimp only)))
    walk1
    iterate 4 (first | (k_unfold; (try dsimp only)) | (k_end; kc_close) | walk1 | (dsimp only; walk1) | (leave1; walk_say "STEP leave1"; (try dsimp only)))
    exact Mine.IntSuch.mk (Mine.pop_end kInv (by rw [rangeKs_length]; rfl)) (by assumption) (by assumption)
    intro popV tPop hPp tkPp hPop hFpp hNpp
    dsimp only
    iterate 17 (first | (k_unfold; (try dsimp only)) | (k_end; kc_close) | walk1 | (dsimp only; walk1) | (leave1; walk_say "STEP leave1"; (try dsimp only)))
    -- S14
    (first | (k_unfold; (try dsimp only)) | (k_end; kc_close) | walk1 | (dsimp only; walk1) | (leave1; walk_say "STEP leave1"; (try dsimp only)))
    (rename _ ∈ Mine.onesL _ ++ [32] => hMin1); (rename ∀ a, a ∈ Mine.onesL _ ++ [32] → _ ≤ a => hMin2)
    iterate 5 (first | (k_unfold; (try dsimp only)) | (k_end; kc_close) | walk1 | (dsimp only; walk1) | (leave1; walk_say "STEP leave1"; (try dsimp only)))
    (first | (k_unfold; (try dsimp only)) | (k_end; kc_close) | walk1 | (dsimp only; walk1) | (leave1; walk_say "STEP leave1"; (try dsimp only)))
    refine Mine.iteP (fun hz => ?_) (fun hz => ?_)
    iterate 8 (first | (k_unfold; (try dsimp only)) | (k_end; kc_close) | walk1 | (dsimp only; walk1) | (leave1; walk_say "STEP leave1"; (try dsimp only)))
    (refine Mine.lenOnes (n := num) ?z1 hOnes ?_; (case z1 => is_list))
    dsimp only
    iterate 2 (first | (k_unfold; (try dsimp only)) | (k_end; kc_close) | walk1 | (dsimp only; walk1) | (leave1; walk_say "STEP leave1"; (try dsimp only)))
    have e1 := Mine.clz_law hClz hMin1 hMin2
    have e2 := Mine.ctz_none hCtz hOnes hz
    have e3 := Eq.trans hPop (Mine.pop_law num)
    subst e1
    subst e2
    subst e3
    (first | (k_unfold; (try dsimp only)) | (k_end; kc_close) | walk1 | (dsimp only; walk1) | (leave1; walk_say "STEP leave1"; (try dsimp only)))
    (first | (k_unfold; (try dsimp only)) | (k_end; kc_close) | walk1 | (dsimp only; walk1) | (leave1; walk_say "STEP leave1"; (try dsimp only)))
    (first | (k_unfold; (try dsimp only)) | (k_end; kc_close) | walk1 | (dsimp only; walk1) | (leave1; walk_say "STEP leave1"; (try dsimp only)))
    have hpos := Mine.ones_pos hOnes hz
    iterate 8 (first | (k_unfold; (try dsimp only)) | (k_end; kc_close) | walk1 | (dsimp only; walk1) | (leave1; walk_say "STEP leave1"; (try dsimp only)))
    (first | (k_unfold; (try dsimp only)) | (k_end; kc_close) | walk1 | (dsimp only; walk1) | (leave1; walk_say "STEP leave1"; (try dsimp only)))
    (rename _ ∈ Mine.onesL _ => hMax1); (rename ∀ a, a ∈ Mine.onesL _ → a ≤ _ => hMax2)
    iterate 8 (first | (k_unfold; (try dsimp only)) | (k_end; kc_close) | walk1 | (dsimp only; walk1) | (leave1; walk_say "STEP leave1"; (try dsimp only)))
    (refine Mine.lenOnes (n := num) ?z2 hOnes ?_; (case z2 => is_list))
    dsimp only
    iterate 2 (first | (k_unfold; (try dsimp only)) | (k_end; kc_close) | walk1 | (dsimp only; walk1) | (leave1; walk_say "STEP leave1"; (try dsimp only)))
    have e1 := Mine.clz_law hClz hMin1 hMin2
    have e2 := Mine.ctz_law hCtz hMax1 hMax2
    have e3 := Eq.trans hPop (Mine.pop_law num)
    subst e1
    subst e2
    subst e3
    (first | (k_unfold; (try dsimp only)) | (k_end; kc_close) | walk1 | (dsimp only; walk1) | (leave1; walk_say "STEP leave1"; (try dsimp only)))
    (first | (k_unfold; (try dsimp only)) | (k_end; kc_close) | walk1 | (dsimp only; walk1) | (leave1; walk_say "STEP leave1"; (try dsimp only)))
    (first | (k_unfold; (try dsimp only)) | (k_end; kc_close) | walk1 | (dsimp only; walk1) | (leave1; walk_say "STEP leave1"; (try dsimp only))))
