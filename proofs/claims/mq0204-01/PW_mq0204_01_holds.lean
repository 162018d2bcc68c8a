import PyProof.Rows.All
import Wide.All
import OpenK.AllK
import Wide.FinOn
import Lean
import PySem.Challenge.RW_mq0204_01
open PySem PySem.W PyProof.Rows
set_option Elab.async false
set_option linter.unusedVariables false

namespace Mine
open PySem PySem.W PySem.Calls PyProof.Rows

/-! the plain law: numbers -/
theorem xor_and_add : ∀ (n a b : Nat), a ≤ n → (a ^^^ b) + 2 * (a &&& b) = a + b := by
  intro n
  induction n with
  | zero =>
    intro a b h
    have : a = 0 := by omega
    subst this
    simp
  | succ n ih =>
    intro a b h
    by_cases h0 : a = 0
    · subst h0; simp
    have e := ih (a / 2) (b / 2) (by omega)
    have h1 := @Nat.xor_div_two a b
    have h2 := @Nat.and_div_two a b
    have h3 := @Nat.xor_mod_two_eq_one a b
    have h4 := @Nat.and_mod_two_eq_one a b
    rw [← h1, ← h2] at e
    have h5 : (a ^^^ b) % 2 = 0 ∨ (a ^^^ b) % 2 = 1 := by omega
    have h6 : (a &&& b) % 2 = 0 ∨ (a &&& b) % 2 = 1 := by omega
    have h7 : a % 2 = 0 ∨ a % 2 = 1 := by omega
    have h8 : b % 2 = 0 ∨ b % 2 = 1 := by omega
    generalize a ^^^ b = x at *
    generalize a &&& b = y at *
    rcases h7 with h7 | h7 <;> rcases h8 with h8 | h8 <;> simp only [h7, h8] at h3 h4 <;> simp at h3 h4 <;> omega
theorem bx (a b : Nat) : Builtin.bitXor (a : Int) (b : Int) = ((a ^^^ b : Nat) : Int) := by
  rw [bitXor_and, bitAnd_pp (Int.natCast_nonneg a) (Int.natCast_nonneg b)]
  have h := xor_and_add a a b (Nat.le_refl _)
  simp only [Int.toNat_natCast]
  omega

def turnN (c : Nat) : Nat := if c % 2 = 0 then c / 2 else (c / 2) ^^^ 3988292384
def unN (b : Nat) : Nat := if 2147483647 < b then 2 * (b ^^^ 3988292384) + 1 else 2 * b
def iter (f : Nat → Nat) : Nat → Nat → Nat
  | 0, c => c
  | n + 1, c => f (iter f n c)

theorem top_xor {a b : Nat} (ha : a < 2 ^ 32) (hb : b < 2 ^ 31) : (2147483647 < a ^^^ b ↔ 2147483647 < a) ∧ a ^^^ b < 2 ^ 32 := by
  have h := @Nat.xor_div_two_pow a b 31
  have hb' : b / 2 ^ 31 = 0 := Nat.div_eq_of_lt hb
  rw [hb', Nat.xor_zero] at h
  have h2 : a ^^^ b < 2 ^ 32 := Nat.xor_lt_two_pow ha (by omega)
  refine ⟨?_, h2⟩
  generalize a ^^^ b = x at *
  simp only [Nat.reducePow] at *
  omega
theorem xor_back (a p : Nat) : (a ^^^ p) ^^^ p = a := by rw [Nat.xor_assoc, Nat.xor_self, Nat.xor_zero]
theorem turnN_lt {c : Nat} (h : c < 2 ^ 32) : turnN c < 2 ^ 32 := by
  unfold turnN
  split
  · omega
  · exact Nat.xor_lt_two_pow (by omega) (by decide)
theorem unN_turnN {c : Nat} (h : c < 2 ^ 32) : unN (turnN c) = c := by
  unfold turnN unN
  by_cases h0 : c % 2 = 0
  · rw [if_pos h0, if_neg (by simp only [Nat.reducePow] at h; omega)]
    omega
  · rw [if_neg h0]
    have ht := (top_xor (a := 3988292384) (b := c / 2) (by decide) (by simp only [Nat.reducePow] at *; omega)).1
    rw [Nat.xor_comm] at ht
    rw [if_pos (ht.mpr (by decide)), xor_back]
    omega
theorem unN_lt {b : Nat} (h : b < 2 ^ 32) : unN b < 2 ^ 32 := by
  unfold unN
  split
  · rename_i h1
    have h2 := @Nat.xor_div_two_pow b 3988292384 31
    have h3 : b / 2 ^ 31 = 1 := by simp only [Nat.reducePow] at *; omega
    have h4 : 3988292384 / 2 ^ 31 = 1 := by decide
    rw [h3, h4, Nat.xor_self] at h2
    generalize b ^^^ 3988292384 = x at *
    simp only [Nat.reducePow] at *
    omega
  · simp only [Nat.reducePow] at *; omega
theorem two_xor (x b : Nat) : 2 * (x ^^^ b) = (2 * x) ^^^ (2 * b) := by
  have h1 := @Nat.xor_div_two (2 * x) (2 * b)
  have h2 := @Nat.xor_mod_two_eq_one (2 * x) (2 * b)
  have e1 : 2 * x / 2 = x := by omega
  have e2 : 2 * b / 2 = b := by omega
  have e3 : 2 * x % 2 = 0 := by omega
  have e4 : 2 * b % 2 = 0 := by omega
  rw [e1, e2] at h1
  rw [e3, e4] at h2
  have key : ∀ y : Nat, y / 2 = x ^^^ b → y % 2 ≠ 1 → 2 * (x ^^^ b) = y := by intro y; omega
  exact key _ h1 (fun h => absurd (h2.mp h) (by decide))
theorem two_xor1 (x b : Nat) : 2 * (x ^^^ b) + 1 = (2 * x + 1) ^^^ (2 * b) := by
  have h1 := @Nat.xor_div_two (2 * x + 1) (2 * b)
  have h2 := @Nat.xor_mod_two_eq_one (2 * x + 1) (2 * b)
  have e1 : (2 * x + 1) / 2 = x := by omega
  have e2 : 2 * b / 2 = b := by omega
  have e3 : (2 * x + 1) % 2 = 1 := by omega
  have e4 : 2 * b % 2 = 0 := by omega
  rw [e1, e2] at h1
  rw [e3, e4] at h2
  have key : ∀ y : Nat, y / 2 = x ^^^ b → y % 2 = 1 → 2 * (x ^^^ b) + 1 = y := by intro y; omega
  exact key _ h1 (h2.mpr (by decide))
theorem unN_xor {r b : Nat} (hr : r < 2 ^ 32) (hb : b < 2 ^ 31) : unN (r ^^^ b) = unN r ^^^ (2 * b) := by
  have ht := (top_xor hr hb).1
  unfold unN
  by_cases h : 2147483647 < r
  · rw [if_pos (ht.mpr h), if_pos h, ← two_xor1, Nat.xor_assoc, Nat.xor_assoc, Nat.xor_comm b]
  · rw [if_neg (fun x => h (ht.mp x)), if_neg h, two_xor]
theorem iter_lt {f : Nat → Nat} (hf : ∀ c, c < 2 ^ 32 → f c < 2 ^ 32) : ∀ (n : Nat) {c : Nat}, c < 2 ^ 32 → iter f n c < 2 ^ 32
  | 0, _, h => h
  | n + 1, _, h => hf _ (iter_lt hf n h)
theorem iter_comm (f : Nat → Nat) : ∀ (n c : Nat), iter f n (f c) = f (iter f n c)
  | 0, _ => rfl
  | n + 1, c => by show f (iter f n (f c)) = f (f (iter f n c)); rw [iter_comm f n c]
theorem iter_add (f : Nat → Nat) (m : Nat) : ∀ (n c : Nat), iter f (n + m) c = iter f n (iter f m c)
  | 0, c => by rw [Nat.zero_add]; rfl
  | n + 1, c => by rw [Nat.add_right_comm]; show f (iter f (n + m) c) = f (iter f n (iter f m c)); rw [iter_add f m n c]
theorem un_turn : ∀ (n : Nat) {c : Nat}, c < 2 ^ 32 → iter unN n (iter turnN n c) = c
  | 0, _, _ => rfl
  | n + 1, c, h => by
    show unN (iter unN n (turnN (iter turnN n c))) = c
    rw [← iter_comm unN, unN_turnN (iter_lt (fun _ => turnN_lt) n h)]
    exact un_turn n h
theorem un_xor : ∀ (n : Nat) {r b : Nat}, r < 2 ^ 32 → 2 ^ n * b < 2 ^ 32 → iter unN n (r ^^^ b) = iter unN n r ^^^ (2 ^ n * b)
  | 0, r, b, _, _ => by show r ^^^ b = r ^^^ (2 ^ 0 * b); rw [Nat.pow_zero, Nat.one_mul]
  | n + 1, r, b, hr, hb => by
    have e : 2 ^ (n + 1) * b = 2 * (2 ^ n * b) := by rw [Nat.pow_succ, Nat.mul_comm (2 ^ n) 2, Nat.mul_assoc]
    rw [e] at hb ⊢
    show unN (iter unN n (r ^^^ b)) = unN (iter unN n r) ^^^ _
    rw [un_xor n hr (by simp only [Nat.reducePow] at *; omega)]
    exact unN_xor (iter_lt (fun _ => unN_lt) n hr) (by simp only [Nat.reducePow] at *; omega)
theorem parts (s : Nat) : (s % 256) ^^^ (256 * (s / 256)) = s := by
  have h1 := @Nat.xor_div_two_pow (s % 256) (256 * (s / 256)) 8
  have h2 := @Nat.xor_mod_two_pow (s % 256) (256 * (s / 256)) 8
  have e1 : s % 256 / 2 ^ 8 = 0 := by simp only [Nat.reducePow]; omega
  have e2 : 256 * (s / 256) / 2 ^ 8 = s / 256 := by simp only [Nat.reducePow]; omega
  have e3 : s % 256 % 2 ^ 8 = s % 256 := by simp only [Nat.reducePow]; omega
  have e4 : 256 * (s / 256) % 2 ^ 8 = 0 := by simp only [Nat.reducePow]; omega
  rw [e1, e2, Nat.zero_xor] at h1
  rw [e3, e4, Nat.xor_zero] at h2
  generalize (s % 256) ^^^ (256 * (s / 256)) = x at *
  simp only [Nat.reducePow] at *
  omega
def gN (c : Nat) : Nat := iter turnN 8 c
theorem gN_lt {c : Nat} (h : c < 2 ^ 32) : gN c < 2 ^ 32 := iter_lt (fun _ => turnN_lt) 8 h
theorem un_g {r b : Nat} (h : r ^^^ b < 2 ^ 32) : iter unN 8 (gN (r ^^^ b)) = r ^^^ b := un_turn 8 h
def absN (r x : Nat) : Nat :=
  if x < 256 then gN (r ^^^ x)
  else if x < 65536 then gN (gN (r ^^^ (x % 256)) ^^^ (x / 256))
  else gN (gN (gN (r ^^^ (x % 256)) ^^^ (x / 256 % 256)) ^^^ (x / 256 / 256))
theorem xor_lt {a b : Nat} (ha : a < 2 ^ 32) (hb : b < 2 ^ 32) : a ^^^ b < 2 ^ 32 := Nat.xor_lt_two_pow ha hb
theorem absN_lt {r x : Nat} (hr : r < 2 ^ 32) (hx : x < 16777216) : absN r x < 2 ^ 32 := by
  have e : ∀ y, y < 16777216 → y < 2 ^ 32 := fun y h => by simp only [Nat.reducePow]; omega
  unfold absN
  split
  · exact gN_lt (xor_lt hr (e _ hx))
  · split
    · exact gN_lt (xor_lt (gN_lt (xor_lt hr (e _ (by omega)))) (e _ (by omega)))
    · exact gN_lt (xor_lt (gN_lt (xor_lt (gN_lt (xor_lt hr (e _ (by omega)))) (e _ (by omega)))) (e _ (by omega)))
/-- the law's heart: from the sum back to the symbol -/
theorem back_abs {r x n : Nat} (hr : r < 2 ^ 32) (hx : x < 16777216) (hn : n = if x < 256 then 8 else if x < 65536 then 16 else 24) : iter unN n (absN r x) = r ^^^ x := by
  have e : ∀ y, y < 16777216 → y < 2 ^ 32 := fun y h => by simp only [Nat.reducePow]; omega
  subst hn
  unfold absN
  by_cases h1 : x < 256
  · rw [if_pos h1, if_pos h1]
    exact un_g (xor_lt hr (e _ hx))
  · rw [if_neg h1, if_neg h1]
    have l0 : r ^^^ (x % 256) < 2 ^ 32 := xor_lt hr (e _ (by omega))
    have p : 2 ^ 8 = 256 := rfl
    by_cases h2 : x < 65536
    · rw [if_pos h2, if_pos h2]
      rw [show 16 = 8 + 8 from rfl, iter_add, un_g (xor_lt (gN_lt l0) (e _ (by omega))), un_xor 8 (gN_lt l0) (by rw [p]; simp only [Nat.reducePow]; omega), un_g l0, p, Nat.xor_assoc, parts]
    · rw [if_neg h2, if_neg h2]
      have l1 : gN (r ^^^ (x % 256)) ^^^ (x / 256 % 256) < 2 ^ 32 := xor_lt (gN_lt l0) (e _ (by omega))
      rw [show 24 = 16 + 8 from rfl, iter_add, un_g (xor_lt (gN_lt l1) (e _ (by omega)))]
      rw [show 16 = 8 + 8 from rfl, iter_add, un_xor 8 (gN_lt l1) (by rw [p]; simp only [Nat.reducePow]; omega), un_g l1, p, Nat.xor_assoc, parts]
      rw [un_xor 8 (gN_lt l0) (by rw [p]; simp only [Nat.reducePow]; omega), un_g l0, p, Nat.xor_assoc, parts]
end Mine

namespace Mine
open PySem PySem.W PySem.Calls PyProof.Rows

def ops : List PySem.Str := ["(", ")", "[", "]", ":", ",", ";", "+", "-", "*", "/", "|", "&", "<", ">", "=", ".", "%", "{", "}", "==", "!=", "<=", ">=", "~", "^", "<<", ">>", "**", "+=", "-=", "*=", "/=", "%=", "&=", "|=", "^=", "<<=", ">>=", "**=", "//", "//=", "@", "@=", "->", "...", ":=", "!"].map PySem.Str.ofString

theorem ops_split : Txt.split (PySem.Str.ofString "( ) [ ] : , ; + - * / | & < > = . % { } == != <= >= ~ ^ << >> ** += -= *= /= %= &= |= ^= <<= >>= **= // //= @ @= -> ... :" ++ PySem.Str.ofString "= !") (PySem.Str.ofString " ") = ops := by
  decide +kernel
theorem ops_len : ops.length = 48 := rfl

section
variable {prog : Program} {w : World} {A : Around} {E : Value → Shared → Prop} {s : Shared} {h₀ : Heap} {L D a : Addr} {value slice : PySem.Expr} {news : List (Addr × Obj)} {l' : List (PySem.Str × Tok)} {k : Int} {t u : Tok} {Q : Value → Shared → Prop}

theorem order_item (N : News h₀ L s.heap news) (hm : (D, listOf (strValues l').toArray 0) ∈ news)
    (e : l'.map (fun x => x.1) = Txt.split (PySem.Str.ofString "( ) [ ] : , ; + - * / | & < > = . % { } == != <= >= ~ ^ << >> ** += -= *= /= %= &= |= ^= <<= >>= **= // //= @ @= -> ... :" ++ PySem.Str.ofString "= !") (PySem.Str.ofString " "))
    (ha : StrsAre (strValues l') (l'.map (fun x => x.1))) (h0 : 7 ≤ k) (h1 : k ≤ 54)
    (h : ∀ t', Q (.str (ops.getD (k - 7).toNat PySem.Str.empty) t') s)
    (hs : subscripted slice false (.ref D) (.int (k - 7) u) = operate [.ref D, .int (k - 7) u] (getItem (.ref D) (.int (k - 7) u)) := by with_unfolding_all rfl) :
    wpAny (model prog w) A (subscriptTail value slice (.ref D) (.int (k - 7) u)) Q E s := by
  rw [e, ops_split] at ha
  refine KTb.item_list (News.isList N hm) ha (by omega) (by rw [ops_len]; omega) (by omega) (fun t' _ => h t') hs

def tokIn (K : Frag) (a : Addr) : Bool := (List.range 48).all fun j => match nsIn K a (ops.getD j PySem.Str.empty) with
  | some (some (.int v _)) => v == 7 + (j : Int)
  | _ => false

theorem tok_item {K : Frag} {es : Array DictEntry} {n : Nat} {m : PySem.Str → Option Value} (F : Fr h₀ L s.heap m) (X₀ : K.In h₀) (hl : K.lookup a = some ⟨.type "dict", none, .dict es n, #[]⟩) (hk : KeysLit w.params es.toList)
    (hT : tokIn K a = true) (h0 : 7 ≤ k) (h1 : k ≤ 54)
    (h : ∀ t', Q (.int k t') { s with toks := s.toks + 1 })
    (hs : ∀ x, subscripted slice false (.ref a) (.str x t) = operate [.ref a, .str x t] (getItem (.ref a) (.str x t)) := by intro x; with_unfolding_all rfl) :
    wpAny (model prog w) A (subscriptTail value slice (.ref a) (.str (ops.getD (k - 7).toNat PySem.Str.empty) t)) Q E s := by
  have hj := List.all_eq_true.mp hT (k - 7).toNat (List.mem_range.mpr (by omega))
  split at hj
  · rename_i v t' e
    have hv : v = k := by
      have := of_decide_eq_true hj
      omega
    subst hv
    exact topItem_K F X₀ hl hk e (h t') (hs _)
  · cases hj
end
end Mine

namespace Mine
open PySem PySem.W PySem.Calls PyProof.Rows

def toldOf (x : Int) : Int :=
  [7 + ((x.fmod 83558400).fdiv 5).fmod 48, ((x.fmod 83558400).fdiv 5).fmod 256, 256 + ((x.fmod 83558400).fdiv 5).fmod 65280, 65536 + (x.fmod 83558400).fdiv 5, 0].getD ((x.fmod 83558400).fmod 5).toNat 0
theorem toldOf_in (x : Int) : 0 ≤ toldOf x ∧ toldOf x < 16777216 := by
  unfold toldOf
  simp (disch := omega) only [Int.fmod_eq_emod_of_nonneg, Int.fdiv_eq_ediv_of_nonneg]
  have h0 : (x % 83558400 % 5).toNat = 0 ∨ (x % 83558400 % 5).toNat = 1 ∨ (x % 83558400 % 5).toNat = 2 ∨ (x % 83558400 % 5).toNat = 3 ∨ (x % 83558400 % 5).toNat = 4 := by omega
  rcases h0 with h | h | h | h | h <;> rw [h] <;> simp only [List.getD_cons_zero, List.getD_cons_succ] <;> omega
/-- what the first loop holds -/
def Told (pre told : List Int) : Prop := told = pre.map toldOf
theorem told_nil : Told [] [] := rfl
theorem told_more {pre told : List Int} {x : Int} (h : Told pre told) : Told (pre ++ [x]) (told ++ [toldOf x]) := by
  unfold Told at *
  rw [h, List.map_append]
  rfl
def Small (l : List Int) : Prop := ∀ x ∈ l, 0 ≤ x ∧ x < 16777216
theorem told_small {pre told : List Int} (h : Told pre told) : Small (told ++ [48, 256, 65536, 0]) := by
  intro x hx
  rcases List.mem_append.mp hx with hx | hx
  · rw [h] at hx
    obtain ⟨y, _, rfl⟩ := List.mem_map.mp hx
    exact toldOf_in y
  · simp only [List.mem_cons, List.not_mem_nil, or_false] at hx
    rcases hx with rfl | rfl | rfl | rfl <;> decide
theorem same_ints {ys : List Value} {l : List Int} (h : IntsAre ys (List.map (fun k' => if 7 ≤ k' ∧ k' ≤ 54 then k' else if 7 ≤ k' ∧ ¬k' ≤ 54 then k' else k') l)) : IntsAre ys l := by
  have e : (fun k' : Int => if 7 ≤ k' ∧ k' ≤ 54 then k' else if 7 ≤ k' ∧ ¬k' ≤ 54 then k' else k') = id := by
    funext k
    split
    · rfl
    · split <;> rfl
  rw [e, List.map_id] at h
  exact h

/-- one turn of the sum -/
def turn (c : Int) : Int := if Builtin.bitAnd c 1 = 0 then c.fdiv (2 ^ 1) else Builtin.bitXor (c.fdiv (2 ^ 1)) 3988292384
def turns : Nat → Int → Int
  | 0, c => c
  | n + 1, c => turn (turns n c)
def gcrc (c : Int) : Int := turns 8 c
/-- one turn back -/
def unturn (b : Int) : Int := if 2147483647 < b then 2 * Builtin.bitXor b 3988292384 + 1 else 2 * b
def unturns : Nat → Int → Int
  | 0, c => c
  | n + 1, c => unturn (unturns n c)
def absorb (r x : Int) : Int :=
  if x < 256 then gcrc (Builtin.bitXor r x)
  else if x < 65536 then gcrc (Builtin.bitXor (gcrc (Builtin.bitXor r (x.fmod 256))) (x.fdiv 256))
  else gcrc (Builtin.bitXor (gcrc (Builtin.bitXor (gcrc (Builtin.bitXor r (x.fmod 256))) ((x.fdiv 256).fmod 256))) ((x.fdiv 256).fdiv 256))

/-- the sum's loop -/
def Turned (c0 : Int) (pre : List Int) (c : Int) : Prop := c = turns pre.length c0
theorem turned_start {c : Int} : Turned c [] c := rfl
theorem turned_odd {c0 c k : Int} {pre : List Int} (h : Turned c0 pre c) (h1 : ¬ Builtin.bitAnd c 1 = 0) : Turned c0 (pre ++ [k]) (Builtin.bitXor (c.fdiv (2 ^ 1)) 3988292384) := by
  unfold Turned at *
  rw [List.length_append]
  show _ = turn (turns pre.length c0)
  rw [← h]
  unfold turn
  rw [if_neg h1]
theorem turned_even {c0 c k : Int} {pre : List Int} (h : Turned c0 pre c) (h1 : Builtin.bitAnd c 1 = 0) : Turned c0 (pre ++ [k]) (c.fdiv (2 ^ 1)) := by
  unfold Turned at *
  rw [List.length_append]
  show _ = turn (turns pre.length c0)
  rw [← h]
  unfold turn
  rw [if_pos h1]
theorem turned_done {c0 c : Int} (h : Turned c0 (rangeKs 0 8) c) : c = gcrc c0 := h

theorem turn_cast (c : Nat) : turn (c : Int) = (turnN c : Int) := by
  unfold turn turnN
  rw [bitAnd_m1, Int.fdiv_eq_ediv_of_nonneg _ (by decide)]
  have e : ((c : Int) / 2 ^ 1) = ((c / 2 : Nat) : Int) := by omega
  rw [e]
  by_cases h : c % 2 = 0
  · rw [if_pos (by omega), if_pos h]
  · rw [if_neg (by omega), if_neg h]
    exact bx _ 3988292384
theorem turns_cast : ∀ (n c : Nat), turns n (c : Int) = (iter turnN n c : Int)
  | 0, _ => rfl
  | n + 1, c => by show turn (turns n c) = _; rw [turns_cast n c]; exact turn_cast _
theorem gcrc_cast (c : Nat) : gcrc (c : Int) = (gN c : Int) := turns_cast 8 c
theorem unturn_cast (c : Nat) : unturn (c : Int) = (unN c : Int) := by
  unfold unturn unN
  by_cases h : 2147483647 < c
  · rw [if_pos (by omega), if_pos h, show (3988292384 : Int) = ((3988292384 : Nat) : Int) from rfl, bx]
    omega
  · rw [if_neg (by omega), if_neg h]
    omega
theorem unturns_cast : ∀ (n c : Nat), unturns n (c : Int) = (iter unN n c : Int)
  | 0, _ => rfl
  | n + 1, c => by show unturn (unturns n c) = _; rw [unturns_cast n c]; exact unturn_cast _
theorem absorb_cast (r x : Nat) : absorb (r : Int) (x : Int) = (absN r x : Int) := by
  unfold absorb absN
  have e1 : (x : Int).fmod 256 = ((x % 256 : Nat) : Int) := by rw [Int.fmod_eq_emod_of_nonneg _ (by decide)]; omega
  have e2 : (x : Int).fdiv 256 = ((x / 256 : Nat) : Int) := by rw [Int.fdiv_eq_ediv_of_nonneg _ (by decide)]; omega
  have e3 : ((x / 256 : Nat) : Int).fmod 256 = ((x / 256 % 256 : Nat) : Int) := by rw [Int.fmod_eq_emod_of_nonneg _ (by decide)]; omega
  have e4 : ((x / 256 : Nat) : Int).fdiv 256 = ((x / 256 / 256 : Nat) : Int) := by rw [Int.fdiv_eq_ediv_of_nonneg _ (by decide)]; omega
  by_cases h1 : x < 256
  · rw [if_pos (by omega), if_pos h1, bx, gcrc_cast]
  · rw [if_neg (by omega), if_neg h1]
    by_cases h2 : x < 65536
    · rw [if_pos (by omega), if_pos h2, e1, e2, bx, gcrc_cast, bx, gcrc_cast]
    · rw [if_neg (by omega), if_neg h2, e1, e2, e3, e4, bx, gcrc_cast, bx, gcrc_cast, bx, gcrc_cast]

def In32 (r : Int) : Prop := 0 ≤ r ∧ r < 4294967296
theorem In32.nat {r : Int} (h : In32 r) : ∃ n : Nat, r = (n : Int) ∧ n < 2 ^ 32 := ⟨r.toNat, by have := h.1; omega, by have := h.1; have := h.2; simp only [Nat.reducePow]; omega⟩
theorem In32.of {n : Nat} (h : n < 2 ^ 32) : In32 (n : Int) := ⟨by omega, by simp only [Nat.reducePow] at h; omega⟩
theorem xor_in {a b : Int} (ha : In32 a) (hb : In32 b) : In32 (Builtin.bitXor a b) := by
  obtain ⟨m, rfl, hm⟩ := ha.nat
  obtain ⟨n, rfl, hn⟩ := hb.nat
  rw [bx]
  exact .of (xor_lt hm hn)
theorem gcrc_in {a : Int} (ha : In32 a) : In32 (gcrc a) := by
  obtain ⟨m, rfl, hm⟩ := ha.nat
  rw [gcrc_cast]
  exact .of (gN_lt hm)
theorem unturn_in {a : Int} (ha : In32 a) : In32 (unturn a) := by
  obtain ⟨m, rfl, hm⟩ := ha.nat
  rw [unturn_cast]
  exact .of (unN_lt hm)
theorem absorb_in {r x : Int} (hr : In32 r) (h0 : 0 ≤ x) (h1 : x < 16777216) : In32 (absorb r x) := by
  obtain ⟨m, rfl, hm⟩ := hr.nat
  obtain ⟨n, rfl⟩ := Int.eq_ofNat_of_zero_le h0
  rw [absorb_cast]
  exact .of (absN_lt hm (by omega))
theorem absorb_last {r x : Int} (h : ¬ 256 ≤ x) : absorb r x = gcrc (Builtin.bitXor r x) := by
  unfold absorb
  rw [if_pos (by omega)]
theorem absorb_more {r x : Int} (h : 256 ≤ x) (h1 : x < 16777216) : absorb (gcrc (Builtin.bitXor r (x.fmod 256))) (x.fdiv 256) = absorb r x := by
  have e : x.fdiv 256 = x / 256 := Int.fdiv_eq_ediv_of_nonneg _ (by decide)
  have e2 : ¬ (x / 256 : Int) < 256 → (x / 256 : Int) < 65536 := by omega
  unfold absorb
  rw [e]
  by_cases h2 : x < 65536
  · rw [if_pos (show (x / 256 : Int) < 256 by omega), if_neg (show ¬ x < 256 by omega), if_pos h2]
  · rw [if_neg (show ¬ (x / 256 : Int) < 256 by omega), if_pos (show (x / 256 : Int) < 65536 by omega), if_neg (show ¬ x < 256 by omega), if_neg h2]

/-- the inner loop: what is left of the symbol, and the register -/
def Abs (sym r0 rest reg : Int) : Prop := 0 ≤ rest ∧ rest < 16777216 ∧ In32 reg ∧ absorb reg rest = absorb r0 sym
theorem abs_start {l : List Int} {x r : Int} (hs : Small l) (hm : x ∈ l) (hr : In32 r) : Abs x r x r := ⟨(hs x hm).1, (hs x hm).2, hr, rfl⟩
theorem abs_more {sym r0 rest reg : Int} (h : Abs sym r0 rest reg) (h1 : 256 ≤ rest) : Abs sym r0 (rest.fdiv 256) (gcrc (Builtin.bitXor reg (rest.fmod 256))) := by
  obtain ⟨a, b, c, d⟩ := h
  have e : rest.fdiv 256 = rest / 256 := Int.fdiv_eq_ediv_of_nonneg _ (by decide)
  have e2 : rest.fmod 256 = rest % 256 := Int.fmod_eq_emod_of_nonneg _ (by decide)
  refine ⟨by omega, by omega, gcrc_in (xor_in c ⟨by omega, by omega⟩), ?_⟩
  rw [absorb_more h1 b, d]
theorem abs_less {sym r0 rest reg : Int} (h : Abs sym r0 rest reg) (h1 : 256 ≤ rest) : (rest.fdiv 256).toNat < rest.toNat := by
  have e : rest.fdiv 256 = rest / 256 := Int.fdiv_eq_ediv_of_nonneg _ (by decide)
  omega
theorem abs_end {sym r0 rest reg : Int} (h : Abs sym r0 rest reg) (h1 : ¬ 256 ≤ rest) : gcrc (Builtin.bitXor reg rest) = absorb r0 sym := by
  rw [← absorb_last h1]
  exact h.2.2.2

/-- registers, sums, the register, of the symbols read from behind -/
def wr : List Int → List Int × List Int × Int
  | [] => ([], [], 4294967295)
  | s :: pre => ((wr pre).1 ++ [(wr pre).2.2], if s = 0 then (wr pre).2.1 ++ [Builtin.bitXor (absorb (wr pre).2.2 s) 4294967295] else (wr pre).2.1, if s = 0 then 4294967295 else absorb (wr pre).2.2 s)
def Wrote (pre regs sums : List Int) (reg : Int) : Prop := wr pre.reverse = (regs, sums, reg) ∧ In32 reg
theorem wrote_nil : Wrote [] [] [] 4294967295 := ⟨rfl, by decide, by decide⟩
theorem wrote_cons {pre regs sums : List Int} {reg s : Int} (h : Wrote pre regs sums reg) : wr (pre ++ [s]).reverse = (regs ++ [reg], if s = 0 then sums ++ [Builtin.bitXor (absorb reg s) 4294967295] else sums, if s = 0 then 4294967295 else absorb reg s) := by
  rw [List.reverse_append]
  show wr (s :: pre.reverse) = _
  unfold wr
  rw [h.1]
theorem wrote_mid {l pre regs sums : List Int} {reg sym rest reg' : Int} (hs : Small l) (hm : sym ∈ l) (hl : regs.length = pre.length) (hk : sums.length ≤ pre.length) (h : Wrote pre regs sums reg) (ha : Abs sym reg rest reg') (h1 : ¬ 256 ≤ rest) (h0 : ¬ sym = 0) :
    (regs ++ [reg]).length = (pre ++ [sym]).length ∧ sums.length ≤ (pre ++ [sym]).length ∧ Wrote (pre ++ [sym]) (regs ++ [reg]) sums (gcrc (Builtin.bitXor reg' rest)) := by
  refine ⟨by simp [hl], by simp; omega, ?_, ?_⟩
  · rw [wrote_cons h, abs_end ha h1, if_neg h0, if_neg h0]
  · rw [abs_end ha h1]
    exact absorb_in h.2 (hs _ hm).1 (hs _ hm).2
theorem wrote_end {pre regs sums : List Int} {reg sym rest reg' : Int} (hl : regs.length = pre.length) (hk : sums.length ≤ pre.length) (h : Wrote pre regs sums reg) (ha : Abs sym reg rest reg') (h1 : ¬ 256 ≤ rest) (h0 : sym = 0) :
    (regs ++ [reg]).length = (pre ++ [sym]).length ∧ (sums ++ [Builtin.bitXor (gcrc (Builtin.bitXor reg' rest)) 4294967295]).length ≤ (pre ++ [sym]).length ∧ Wrote (pre ++ [sym]) (regs ++ [reg]) (sums ++ [Builtin.bitXor (gcrc (Builtin.bitXor reg' rest)) 4294967295]) 4294967295 := by
  refine ⟨by simp [hl], by simp; omega, ?_, by decide, by decide⟩
  rw [wrote_cons h, abs_end ha h1, if_pos h0, if_pos h0]
theorem told_len {w told : List Int} (h : Told (List.take 10 w) told) : (told ++ [48, 256, 65536, 0]).length ≤ 14 := by
  rw [h, List.length_append, List.length_map, List.length_take]
  show _ + 4 ≤ 14
  omega
theorem wr_count : ∀ l : List Int, (wr l).2.1.length = List.count 0 l
  | [] => rfl
  | s :: l => by
    unfold wr
    dsimp only
    by_cases h : s = 0
    · subst h
      rw [if_pos rfl, List.length_append, wr_count l, List.count_cons_self]
      rfl
    · rw [if_neg h, wr_count l, List.count_cons_of_ne h]
theorem wrote_count {pre regs sums : List Int} {reg : Int} (h : Wrote pre regs sums reg) : sums.length = List.count 0 pre := by
  have e := wr_count pre.reverse
  rw [h.1, List.count_reverse] at e
  exact e
section
variable {prog : Program} {w : World} {A : Around} {E : Value → Shared → Prop} {s : Shared} {h₀ : Heap} {L l : Addr}
theorem len_rule {news : List (Addr × Obj)} {us : List Value} {ns : List Int} {c : Nat} {Q : Value → Shared → Prop} (N : News h₀ L s.heap news) (hm : (l, listOf us.toArray c) ∈ news) (hi : IntsAre us ns) (hb : ns.length ≤ 14)
    (h : ∀ t tk, Q (.int ((ns.length : Nat) : Int) t) { s with toks := tk }) : wpAny (model prog w) A (call (.builtin "len") [.ref l]) Q E s :=
  kst_len N hm hi.length (by omega) (h _ _)
end
end Mine

namespace Mine
open PySem PySem.W PySem.Calls PyProof.Rows

theorem xor_xor {a b : Int} (ha : In32 a) (hb : In32 b) : Builtin.bitXor (Builtin.bitXor a b) b = a := by
  obtain ⟨m, rfl, hm⟩ := ha.nat
  obtain ⟨n, rfl, hn⟩ := hb.nat
  rw [bx, bx, xor_back]
theorem xor_xor' {a b : Int} (ha : In32 a) (hb : In32 b) : Builtin.bitXor (Builtin.bitXor a b) a = b := by
  obtain ⟨m, rfl, hm⟩ := ha.nat
  obtain ⟨n, rfl, hn⟩ := hb.nat
  rw [bx, bx, Nat.xor_comm m n, xor_back]
theorem wr_in : ∀ l : List Int, Small l → In32 (wr l).2.2
  | [], _ => ⟨by decide, by decide⟩
  | s :: l, h => by
    unfold wr
    dsimp only
    split
    · exact ⟨by decide, by decide⟩
    · exact absorb_in (wr_in l fun x hx => h x (.tail _ hx)) (h s (.head _)).1 (h s (.head _)).2
theorem back_absorb {r x : Int} {n : Nat} (hr : In32 r) (h0 : 0 ≤ x) (h1 : x < 16777216) (hn : n = if x < 256 then 8 else if x < 65536 then 16 else 24) : unturns n (absorb r x) = Builtin.bitXor r x := by
  obtain ⟨m, rfl, hm⟩ := hr.nat
  obtain ⟨k, rfl⟩ := Int.eq_ofNat_of_zero_le h0
  rw [absorb_cast, unturns_cast, bx]
  refine congrArg Int.ofNat (back_abs hm (by omega) ?_)
  rw [hn]
  by_cases h2 : k < 256
  · rw [if_pos (by omega), if_pos h2]
  · rw [if_neg (by omega), if_neg h2]
    by_cases h3 : k < 65536
    · rw [if_pos (by omega), if_pos h3]
    · rw [if_neg (by omega), if_neg h3]

/-- what the loop back holds when n symbols are told -/
def Back (told regs sums : List Int) (n : Nat) (found : List Int) (back record : Int) : Prop :=
  n ≤ told.length ∧ found.reverse = told.drop (told.length - n) ∧ ∃ (reg : Int) (j : Nat), record = (j : Int) ∧ j ≤ sums.length ∧ Wrote (told.take (told.length - n)) (regs.take (told.length - n)) (sums.take j) reg ∧
    (∀ x, (told.take (told.length - n)).getLast? = some x → x ≠ 0 → back = reg)
theorem back_start {told regs sums : List Int} {reg : Int} (h : Wrote (told ++ [48, 256, 65536, 0]) regs sums reg) (hl : regs.length = (told ++ [48, 256, 65536, 0]).length) : Back (told ++ [48, 256, 65536, 0]) regs sums 0 [] 0 (sums.length : Int) := by
  refine ⟨Nat.zero_le _, by simp, reg, sums.length, rfl, Nat.le_refl _, ?_, ?_⟩
  · rw [Nat.sub_zero, List.take_length, ← hl, List.take_length, List.take_length]
    exact h
  · intro x hx h0
    rw [Nat.sub_zero, List.take_length, List.getLast?_append] at hx
    simp at hx
    exact absurd hx.symm h0
theorem back_done {told regs sums found : List Int} {back record : Int} {n : Nat} (hn : n = told.length) (h : Back told regs sums n found back record) : found.reverse = told := by
  rw [h.2.1, hn, Nat.sub_self]
  rfl
theorem take_last {l : List Int} {k : Nat} (h : k < l.length) : l.take (k + 1) = l.take k ++ [l.getD k 0] := by
  rw [List.take_add_one, List.getElem?_eq_getElem h, List.getD_eq_getElem?_getD, List.getElem?_eq_getElem h]
  rfl
/-- one symbol read off the state behind it -/
theorem wrote_off {told regs sums : List Int} {k j : Nat} {reg : Int} (hS : Small told) (hk : k < told.length) (hl : regs.length = told.length) (hj : j ≤ sums.length) (h : Wrote (told.take (k + 1)) (regs.take (k + 1)) (sums.take j) reg) :
    In32 (regs.getD k 0) ∧ (told.getD k 0 = 0 → ∃ i, j = i + 1 ∧ sums.getD i 0 = Builtin.bitXor (absorb (regs.getD k 0) (told.getD k 0)) 4294967295 ∧ Wrote (told.take k) (regs.take k) (sums.take i) (regs.getD k 0))
      ∧ (told.getD k 0 ≠ 0 → reg = absorb (regs.getD k 0) (told.getD k 0) ∧ Wrote (told.take k) (regs.take k) (sums.take j) (regs.getD k 0)) := by
  have e := h.1
  rw [take_last hk, take_last (hl ▸ hk), List.reverse_append] at e
  change wr (told.getD k 0 :: (told.take k).reverse) = _ at e
  have hS' : Small (told.take k).reverse := fun x hx => hS x (List.mem_of_mem_take (List.mem_reverse.mp hx))
  have hin := wr_in _ hS'
  unfold wr at e
  obtain ⟨e1, e2⟩ := Prod.mk.inj e
  obtain ⟨e2, e3⟩ := Prod.mk.inj e2
  obtain ⟨e4, e5⟩ := List.append_inj' e1 rfl
  have e6 := (List.cons.inj e5).1
  rw [e6] at hin e2 e3
  have whole : ∀ S, (wr (told.take k).reverse).2.1 = S → wr (told.take k).reverse = (regs.take k, S, regs.getD k 0) := by
    intro S hs
    rw [← e4, ← e6, ← hs]
  refine ⟨hin, fun h0 => ?_, fun h0 => ?_⟩
  · rw [if_pos h0] at e2
    have hjl : j = (wr (told.take k).reverse).2.1.length + 1 := by
      have q := congrArg List.length e2
      rw [List.length_append, List.length_take] at q
      simp only [List.length_cons, List.length_nil] at q
      omega
    refine ⟨(wr (told.take k).reverse).2.1.length, hjl, ?_, ?_, hin⟩
    · have hi : (wr (told.take k).reverse).2.1.length < sums.length := by omega
      rw [hjl, take_last hi] at e2
      exact ((List.cons.inj (List.append_inj' e2 rfl).2).1).symm
    · have hi : (wr (told.take k).reverse).2.1.length < sums.length := by omega
      refine whole _ ?_
      rw [hjl, take_last hi] at e2
      exact (List.append_inj' e2 rfl).1
  · rw [if_neg h0] at e2 e3
    exact ⟨e3.symm, whole _ e2, hin⟩
theorem back_in {told regs sums found : List Int} {back record k : Int} {n : Nat} (h : Back told regs sums n found back record) (hk : k = (told.length : Int) - 1 - (n : Int)) (hn : n < ((told.length : Int) - 1 - -1).toNat) (hS : Small told) (hl : regs.length = told.length) (h0 : told.getD k.toNat 0 = 0) : 0 ≤ record - 1 ∧ record - 1 < (sums.length : Int) := by
  obtain ⟨_, _, reg, j, hj, hj', hw, _⟩ := h
  have e : told.length - n = k.toNat + 1 := by omega
  rw [e] at hw
  obtain ⟨i, hi, _⟩ := (wrote_off hS (by omega) hl hj' hw).2.1 h0
  omega
theorem back_step {told regs sums found : List Int} {back record k b1 record' : Int} {n m : Nat} (hS : Small told) (hl : regs.length = told.length) (hn : n < told.length) (hk : k = (told.length : Int) - 1 - n) (h : Back told regs sums n found back record)
    (hw : (told.getD k.toNat 0 = 0 ∧ b1 = Builtin.bitXor (sums.getD (record - 1).toNat 0) 4294967295 ∧ record' = record - 1) ∨ (¬ told.getD k.toNat 0 = 0 ∧ b1 = back ∧ record' = record))
    (hm : m = if told.getD k.toNat 0 < 256 then 8 else if told.getD k.toNat 0 < 65536 then 16 else 24) :
    Back told regs sums (n + 1) (found ++ [Builtin.bitXor (unturns m b1) (regs.getD k.toNat 0)]) (Builtin.bitXor (unturns m b1) (told.getD k.toNat 0)) record' := by
  obtain ⟨_, hf, reg, j, hj, hj', hw', hb⟩ := h
  have e : told.length - n = k.toNat + 1 := by omega
  have e' : told.length - (n + 1) = k.toNat := by omega
  have hkl : k.toNat < told.length := by omega
  rw [e] at hw' hb hf
  obtain ⟨hin, hz, hnz⟩ := wrote_off hS hkl hl hj' hw'
  have ht : told.getD k.toNat 0 ∈ told := by
    rw [List.getD_eq_getElem?_getD, List.getElem?_eq_getElem hkl]
    exact List.getElem_mem hkl
  have hts := hS _ ht
  have htin : In32 (told.getD k.toNat 0) := ⟨hts.1, by omega⟩
  have hA := absorb_in hin hts.1 hts.2
  have hb1 : b1 = absorb (regs.getD k.toNat 0) (told.getD k.toNat 0) ∧ ∃ i : Nat, record' = (i : Int) ∧ i ≤ sums.length ∧ Wrote (told.take k.toNat) (regs.take k.toNat) (sums.take i) (regs.getD k.toNat 0) := by
    rcases hw with ⟨h0, hb1, hr⟩ | ⟨h0, hb1, hr⟩
    · obtain ⟨i, hi, hs, hwi⟩ := hz h0
      have ei : (record - 1).toNat = i := by omega
      rw [ei, hs, xor_xor hA ⟨by decide, by decide⟩] at hb1
      exact ⟨hb1, i, by omega, by omega, hwi⟩
    · obtain ⟨hreg, hwj⟩ := hnz h0
      have hbk := hb (told.getD k.toNat 0) (by rw [take_last hkl, List.getLast?_append]; rfl) h0
      exact ⟨by rw [hb1, hbk, hreg], j, by omega, hj', hwj⟩
  obtain ⟨hb1, i, hi, hi', hwi⟩ := hb1
  have hu : unturns m b1 = Builtin.bitXor (regs.getD k.toNat 0) (told.getD k.toNat 0) := by rw [hb1]; exact back_absorb hin hts.1 hts.2 hm
  rw [hu, xor_xor hin htin, xor_xor' hin htin]
  refine ⟨by omega, ?_, regs.getD k.toNat 0, i, hi, hi', by rw [e']; exact hwi, fun _ _ _ => rfl⟩
  rw [e', List.reverse_append, hf]
  have hd : told.drop k.toNat = told.getD k.toNat 0 :: told.drop (k.toNat + 1) := by
    rw [List.drop_eq_getElem_cons hkl, List.getD_eq_getElem?_getD, List.getElem?_eq_getElem hkl]
    rfl
  rw [hd]
  rfl
theorem b1_zero {told regs sums found : List Int} {back record k : Int} {n : Nat} (h : Back told regs sums n found back record) (hk : k = (told.length : Int) - 1 - (n : Int)) (hn : n < ((told.length : Int) - 1 - -1).toNat) (hS : Small told) (hl : regs.length = told.length) (h0 : told.getD k.toNat 0 = 0) : In32 (Builtin.bitXor (sums.getD (record - 1).toNat 0) 4294967295) := by
  obtain ⟨_, _, reg, j, hj, hj', hw, _⟩ := h
  have e : told.length - n = k.toNat + 1 := by omega
  rw [e] at hw
  obtain ⟨hin, hz, _⟩ := wrote_off hS (by omega) hl hj' hw
  obtain ⟨i, hi, hs, _⟩ := hz h0
  have ei : (record - 1).toNat = i := by omega
  rw [ei, hs, h0]
  exact xor_in (xor_in (absorb_in hin (by decide) (by decide)) ⟨by decide, by decide⟩) ⟨by decide, by decide⟩
theorem b1_more {told regs sums found : List Int} {back record k : Int} {n : Nat} (h : Back told regs sums n found back record) (hk : k = (told.length : Int) - 1 - (n : Int)) (hn : n < ((told.length : Int) - 1 - -1).toNat) (h0 : ¬ told.getD k.toNat 0 = 0) : In32 back := by
  obtain ⟨_, _, reg, j, hj, hj', hw, hb⟩ := h
  have e : told.length - n = k.toNat + 1 := by omega
  have hkl : k.toNat < told.length := by omega
  rw [e] at hw hb
  rw [hb (told.getD k.toNat 0) (by rw [take_last hkl, List.getLast?_append]; rfl) h0]
  exact hw.2

theorem k_lo {k : Int} {T n : Nat} (hk : k = (T : Int) - 1 - (n : Int)) (hn : n < ((T : Int) - 1 - -1).toNat) : 0 ≤ k := by omega
theorem k_hi {k : Int} {T n : Nat} (hk : k = (T : Int) - 1 - (n : Int)) (_hn : n < ((T : Int) - 1 - -1).toNat) : k < (T : Int) := by omega
theorem k_hi' {k : Int} {T n R : Nat} (hk : k = (T : Int) - 1 - (n : Int)) (_hn : n < ((T : Int) - 1 - -1).toNat) (hR : R = T) : k < (R : Int) := by omega

theorem in_left {α : Type} {l own : List α} : ∀ p ∈ l, p ∈ l ++ own := fun _ h => List.mem_append.mpr (.inl h)
theorem in_right {α : Type} {l own : List α} : ∀ p ∈ own, p ∈ l ++ own := fun _ h => List.mem_append.mpr (.inr h)

theorem end2 {σ : Type} {Led : σ → List (Addr × Obj)} {ps : σ → List (PySem.Str × Value)} {Facts : σ → Prop} {stored : List PySem.Str} {m₀ : PySem.Str → Option Value} {P : List Int → σ → Prop} {pre : List Int} {h₀ : Heap} {x : PySem.Str} (c : σ) {L : Addr} {m' : PySem.Str → Option Value} {own : List (Addr × Obj)} {adr : List Addr} {s₁ : Shared} {h' : Heap} {tk : Nat}
    (F : Fr h₀ L h' m') (N : News h₀ L h' (Led c ++ own)) (ha : (Led c).map (·.1) = adr) (hf : Facts c) (hk : ∀ p ∈ ps c, m' p.1 = some p.2) (hr : ∀ z, z ≠ x → (∀ p ∈ ps c, z ≠ p.1) → stored.contains z = false → m' z = m₀ z) (hp : P pre c) :
    InvEndN h₀ L (KstS Led ps Facts x stored m₀ P pre) own adr s₁ { s₁ with heap := h', toks := tk } :=
  kst_end c F N in_left in_right ha hf hk hr hp

theorem end3 {σ : Type} {Led : σ → List (Addr × Obj)} {ps : σ → List (PySem.Str × Value)} {Facts : σ → Prop} {stored : List PySem.Str} {m₀ : PySem.Str → Option Value} {P : List Int → σ → Prop} {pre : List Int} {h₀ : Heap} {x : PySem.Str} (c : σ) {L : Addr} {m' : PySem.Str → Option Value} {own : List (Addr × Obj)} {adr : List Addr} {s₁ : Shared} {h' : Heap} {tk : Nat} {e : Addr × Obj}
    (F : Fr h₀ L h' m') (N : News h₀ L h' (e :: (Led c ++ own))) (ha : (Led c).map (·.1) = adr) (hf : Facts c) (hk : ∀ p ∈ ps c, m' p.1 = some p.2) (hr : ∀ z, z ≠ x → (∀ p ∈ ps c, z ≠ p.1) → stored.contains z = false → m' z = m₀ z) (hp : P pre c) :
    InvEndN h₀ L (KstS Led ps Facts x stored m₀ P pre) own adr s₁ { s₁ with heap := h', toks := tk } :=
  end2 c F (fun p hp => N p (.tail _ hp)) ha hf hk hr hp

/-- the turns back -/
def Un (b0 : Int) (pre : List Int) (b : Int) : Prop := In32 b ∧ b = unturns pre.length b0
theorem un_start {b : Int} (h : In32 b) : Un b [] b := ⟨h, rfl⟩
theorem un_high {b0 b k : Int} {pre : List Int} (h : Un b0 pre b) (h1 : 2147483647 < b) : Un b0 (pre ++ [k]) (2 * Builtin.bitXor b 3988292384 + 1) := by
  have e : 2 * Builtin.bitXor b 3988292384 + 1 = unturn b := by unfold unturn; rw [if_pos h1]
  rw [e]
  refine ⟨unturn_in h.1, ?_⟩
  rw [List.length_append]
  show _ = unturn (unturns pre.length b0)
  rw [← h.2]
theorem un_low {b0 b k : Int} {pre : List Int} (h : Un b0 pre b) (h1 : ¬ 2147483647 < b) : Un b0 (pre ++ [k]) (2 * b) := by
  have e : 2 * b = unturn b := by unfold unturn; rw [if_neg h1]
  rw [e]
  refine ⟨unturn_in h.1, ?_⟩
  rw [List.length_append]
  show _ = unturn (unturns pre.length b0)
  rw [← h.2]
theorem in_bits {x : Int} (h : In32 x) : Builtin.Int.intBits x ≤ 32 := intBits_le_iff.mpr (by have := h.1; have := h.2; simp only [Nat.reducePow]; omega)
theorem mul_high {b0 b : Int} {pre : List Int} (h : Un b0 pre b) : IntMulOk 2 (Builtin.bitXor b 3988292384) := mulOk_of_bits (m := 32) (n := 32) (in_bits ⟨by decide, by decide⟩) (in_bits (xor_in h.1 ⟨by decide, by decide⟩)) (by decide)
theorem mul_low {b0 b : Int} {pre : List Int} (h : Un b0 pre b) : IntMulOk 2 b := mulOk_of_bits (m := 32) (n := 32) (in_bits ⟨by decide, by decide⟩) (in_bits h.1) (by decide)
theorem step_zero {told regs sums found pre pre' : List Int} {back record k b : Int} (h : Back told regs sums pre.length found back record) (hk : k = (told.length : Int) - 1 - (pre.length : Int)) (hn : pre.length < ((told.length : Int) - 1 - -1).toNat) (hS : Small told) (hl : regs.length = told.length) (hf : found.length = pre.length) (h0 : told.getD k.toNat 0 = 0)
    (hu : Un (Builtin.bitXor (sums.getD (record - 1).toNat 0) 4294967295) pre' b) (hm : pre'.length = 8) :
    (found ++ [Builtin.bitXor b (regs.getD k.toNat 0)]).length = (pre ++ [k]).length ∧ Back told regs sums (pre ++ [k]).length (found ++ [Builtin.bitXor b (regs.getD k.toNat 0)]) (Builtin.bitXor b (told.getD k.toNat 0)) (record - 1) := by
  refine ⟨by simp [hf], ?_⟩
  rw [List.length_append, hu.2]
  exact back_step hS hl (by omega) hk h (.inl ⟨h0, rfl, rfl⟩) (by rw [h0, hm]; rfl)
theorem step_more {told regs sums found pre pre' : List Int} {back record k b : Int} (h : Back told regs sums pre.length found back record) (hk : k = (told.length : Int) - 1 - (pre.length : Int)) (hn : pre.length < ((told.length : Int) - 1 - -1).toNat) (hS : Small told) (hl : regs.length = told.length) (hf : found.length = pre.length) (h0 : ¬ told.getD k.toNat 0 = 0)
    (hu : Un back pre' b) (hm : pre'.length = if told.getD k.toNat 0 < 256 then 8 else if told.getD k.toNat 0 < 65536 then 16 else 24) :
    (found ++ [Builtin.bitXor b (regs.getD k.toNat 0)]).length = (pre ++ [k]).length ∧ Back told regs sums (pre ++ [k]).length (found ++ [Builtin.bitXor b (regs.getD k.toNat 0)]) (Builtin.bitXor b (told.getD k.toNat 0)) record := by
  refine ⟨by simp [hf], ?_⟩
  rw [List.length_append, hu.2]
  exact back_step hS hl (by omega) hk h (.inr ⟨h0, rfl, rfl⟩) hm
section
variable {prog : Program} {w : World} {A : Around} {E : Value → Shared → Prop} {s : Shared} {h₀ : Heap} {L l : Addr} {value slice : PySem.Expr}
theorem item_rule {news : List (Addr × Obj)} {us : List Value} {ns : List Int} {c : Nat} {k : Int} {u : Tok} {Q : Value → Shared → Prop} (N : News h₀ L s.heap news) (hm : (l, listOf us.toArray c) ∈ news) (hi : IntsAre us ns) (h0 : 0 ≤ k) (h1 : k < (ns.length : Int)) (hb : ns.length ≤ 14)
    (h : ∀ t, Q (.int (ns.getD k.toNat 0) t) s)
    (hs : subscripted slice false (.ref l) (.int k u) = operate [.ref l, .int k u] (getItem (.ref l) (.int k u)) := by with_unfolding_all rfl) :
    wpAny (model prog w) A (subscriptTail value slice (.ref l) (.int k u)) Q E s := by
  have hl : s.heap.IsList l us.toArray := News.isList N hm
  have hlt : k.toNat < ns.length := by omega
  obtain ⟨t', e⟩ := hi.get k.toNat (ns.getD k.toNat 0) (by rw [List.getD_eq_getElem?_getD, List.getElem?_eq_getElem hlt]; rfl)
  exact tail_any hl.typeIs slot_list_getitem.lookup (wpAny_getItem_list hl h0 (by omega) (x := .int _ t') (by simpa using e) (h t')) hs
theorem back_all {told regs sums found : List Int} {back record : Int} {n : Nat} (h : Back told regs sums n found back record) (hn : n = told.length) : found.reverse = told := back_done hn h
theorem rev_rule {D : Addr} {m : PySem.Str → Option Value} {news news' : List (Addr × Obj)} {us : List Value} {ns told : List Int} {n : Nat} {Q : Value → Shared → Prop} (F : Fr h₀ L s.heap m) (N : News h₀ L s.heap news) (U : Upd D (listOf us.toArray n) (listOf us.reverse.toArray n) news news') (hi : IntsAre us ns) (hr : ns.reverse = told) (hb : told.length ≤ 14)
    (h : ∀ h', IntsAre us.reverse told → Fr h₀ L h' m → News h₀ L h' news' → Q .none { s with heap := h' }) : wpAny (model prog w) A (call (.builtin "list.reverse") [.ref D]) Q E s := by
  subst hr
  rw [List.length_reverse] at hb
  refine kl_reverse F N rfl U ?_ (fun h' F' N' => h' |> fun _ => h _ hi.reverse F' N')
  have e := hi.length
  rw [sizeLine_eq]
  show us.length ≤ _
  omega
theorem eq_rule {a b : Addr} {news : List (Addr × Obj)} {us vs : List Value} {ns : List Int} {n n' : Nat} {Q : Value → Shared → Prop} (N : News h₀ L s.heap news) (hm : (a, listOf us.toArray n) ∈ news) (hm' : (b, listOf vs.toArray n') ∈ news) (hi : IntsAre us ns) (hi' : IntsAre vs ns) (hu : A.units + 64 < cLine)
    (h : Q (.bool true) s) : wpAny (model prog w) A (compareOp .Eq (.ref a) (.ref b)) Q E s :=
  eq_intsK (News.isList N hm) hi (News.isList N hm') hi' hu (by rw [decide_eq_true rfl]; exact h)
end
end Mine

namespace Mine
set_option maxRecDepth 100000 in
set_option maxHeartbeats 8000000 in
open_top hd for PySem.Challenge.rw_mq0204_01
end Mine

set_option maxRecDepth 100000 in
set_option maxHeartbeats 8000000 in
theorem Mine.gcrc_claim (w : World) (mean : ExcName → Option Value) (mg mb : PySem.Str → Option Value) : CbC 21 0
  (∀ (cbNews : CbLed) (cbV0 : Int) (cbT0 : CbTok),
    CbClaim PySem.Challenge.rw_mq0204_01.row.prog w (Mine.hd.heap_39 w.params) Mine.hd.view_39 (looseW Mine.hd.view_39 [PySem.Str.ofString "EXACT_TOKEN_TYPES"]) mean mg mb 21 cbNews [] True
      [Value.int cbV0 cbT0] fun t => Value.int (Mine.gcrc cbV0) t) := by
  k_with "exec For Name Call cons nil" => (k_of "j" => kpr_for)
  k_with "pyIter ref" => (k_of "j" => k_state_short (Mine.Turned _) "crc")
  k_with "state" => exact Mine.turned_start
  k_with "state" => exact Mine.turned_odd (by assumption) (by assumption)
  k_with "state" => exact Mine.turned_even (by assumption) (by assumption)
  k_with "tree" => exact Mine.turned_done (by assumption)
  k_fill
  unfold CbC
  dsimp only [CbClaim, CbLists, CbRet]
  intros
  rename_i hret
  have cbI : CbIn 21 := CbIn.mk
  refine wpAny_call ?_
  k_dflt cell_enter
  k_steps
  all_goals cb_end hret
theorem Mine.gcrc_at {w : World} {mean : ExcName → Option Value} {mg mb : PySem.Str → Option Value} {h h' : Heap} (_T : Top Mine.hd.view_39 (looseW Mine.hd.view_39 [PySem.Str.ofString "EXACT_TOKEN_TYPES"]) mean mg mb h) (_X : (Mine.hd.heap_39 w.params).In h') : CbC 21 0
  (∀ (cbNews : CbLed) (cbV0 : Int) (cbT0 : CbTok),
    CbClaim PySem.Challenge.rw_mq0204_01.row.prog w (Mine.hd.heap_39 w.params) Mine.hd.view_39 (looseW Mine.hd.view_39 [PySem.Str.ofString "EXACT_TOKEN_TYPES"]) mean mg mb 21 cbNews [] True
      [Value.int cbV0 cbT0] fun t => Value.int (Mine.gcrc cbV0) t) := Mine.gcrc_claim w mean mg mb

local macro_rules | `(tactic| walk_at "InvEndN") => `(tactic| k_extra "my end")
local macro_rules | `(tactic| walk_at "call builtin:list.reverse") => `(tactic| k_extra "my reverse")
local macro_rules | `(tactic| walk_at "compareOp Eq ref ref") => `(tactic| k_extra "my eq")
set_option maxRecDepth 100000 in
set_option maxHeartbeats 8000000 in
theorem PySem.Challenge.cw_mq0204_01_holds : PySem.Challenge.rw_mq0204_01.Holds := by
  k_with_none
  k_with "pyIter ref" => (k_of "x" => k_state (fun pre told => told.length = pre.length ∧ Mine.Told pre told) "told")
  k_with "state" => exact And.intro rfl Mine.told_nil
  k_with "state" => exact And.intro (by simp only [List.length_append, List.length_cons, List.length_nil]; omega) (Mine.told_more (by assumption))
  k_with "subscriptTail Name BinOp ref int" => (refine Mine.order_item (by assumption) (by k_memK) (by assumption) (by assumption) (by omega) (by omega) ?_; intro _)
  k_with "subscriptTail Name Subscript ref str" => (refine Mine.tok_item (K := Mine.hd.heap_39 _) (by k_asm) (by k_asm) (by k_is) (by k_keys) (by kernel_rfl) (by omega) (by omega) ?_; intro _)
  k_with "pyIter ref" => (k_of "symbol" => ((have hSy := Mine.same_ints (by assumption)); (have hBd := Mine.told_small (by assumption)); (have hL14 := Mine.told_len (by assumption)); k_state (fun pre regs sums reg => regs.length = pre.length ∧ sums.length ≤ pre.length ∧ Mine.Wrote pre regs sums reg) "registers" "sums" "register"))
  k_with "state" => exact And.intro rfl (And.intro (Nat.le_refl _) Mine.wrote_nil)
  k_with "exec While Call cons nil" => k_while_given ["symbol", "register!"] (fun sym r0 script rest reg => Mine.Abs sym r0 rest reg) (fun sym r0 script rest reg => rest.toNat) "rest" "register"
  k_with "state" => exact Mine.abs_start (by assumption) (by assumption) (And.right (by assumption : Mine.Wrote _ _ _ _))
  k_with "state" => exact Mine.abs_more (by assumption) (by omega)
  k_with "measure" => exact Mine.abs_less (by assumption) (by omega)
  k_with "state" => exact Mine.wrote_mid (by assumption) (by assumption) (by assumption) (by assumption) (by assumption) (by assumption) (by omega) (by omega)
  k_with "state" => exact Mine.wrote_end (by assumption) (by assumption) (by assumption) (by assumption) (by omega) (by omega)
  k_with "call ref" => ((have Cb := Mine.gcrc_at (by assumption) (by assumption)); k_call_by "_gen_crc" Mine.gcrc; clear Cb)
  k_with "KswEnd nil" => ((rename News _ _ _ _ => nE'); (refine ksw_end ⟨_, _, _, _⟩ (by assumption) nE' (by first | exact fun _ h => h | kst_in) (by kst_facts) (by kst_all) (by ksw_same) (by kst_p) (by ksw_less)))
  k_with "call builtin:len cons nil" => (refine Mine.len_rule (by k_asm) (by k_memK) (by assumption) (by first | assumption | exact Nat.le_trans (by assumption) (by assumption)) ?_; intro _ _; (try (have hCt := Mine.wrote_count (by assumption))))
  k_with "pyIter ref" => (k_of "k" => k_state_given ["told", "registers", "sums"] (fun told regs sums pre found back record => found.length = pre.length ∧ Mine.Back told regs sums pre.length found back record) "found" "back" "record")
  k_with "state" => exact And.intro rfl (Mine.back_start (by assumption) (by assumption))
  k_with "subscriptTail Name Name ref int" => (k_dflt (refine Mine.item_rule (by k_asm) (by k_memK) (by assumption) (by first | exact Mine.k_lo (by assumption) (by assumption) | exact (Mine.back_in (by assumption) (by assumption) (by assumption) (by assumption) (by assumption) (by assumption)).1) (by first | exact Mine.k_hi (by assumption) (by assumption) | exact Mine.k_hi' (by assumption) (by assumption) (by assumption) | exact (Mine.back_in (by assumption) (by assumption) (by assumption) (by assumption) (by assumption) (by assumption)).2) (by first | assumption | exact Nat.le_trans (Nat.le_of_eq (by assumption)) (by assumption) | exact Nat.le_trans (by assumption) (by assumption)) ?_); intro _)
  k_with "pyIter ref" => (k_of "turn" => k_state_short (Mine.Un _) "back")
  k_with "state" => exact Mine.un_start (Mine.b1_zero (by assumption) (by assumption) (by assumption) (by assumption) (by assumption) (by assumption))
  k_with "state" => exact Mine.un_start (Mine.b1_more (by assumption) (by assumption) (by assumption) (by assumption))
  k_with "state" => exact Mine.un_high (by assumption) (by assumption)
  k_with "state" => exact Mine.un_low (by assumption) (by assumption)
  k_with "binaryOp Mult int int" => first | refine PyProof.Rows.mul_int ?_ (Mine.mul_high (by assumption)) | refine PyProof.Rows.mul_int ?_ (Mine.mul_low (by assumption))
  k_with "my end" => ((with_reducible show InvEndN _ _ (KstS _ _ _ (PySem.Str.ofString "turn") _ _ _ _) _ _ _ _); (rename News _ _ _ _ => nE'); k_dflt (refine Mine.end2 ⟨_, _⟩ (by assumption) (by exact nE') (by rfl) (by kst_facts) (by kst_all) (by kst_same) (by kst_p)))
  k_with "my end" => ((with_reducible show InvEndN _ _ (KstS _ _ _ (PySem.Str.ofString "k") _ _ _ _) _ _ _ _); (rename News _ _ _ _ => nE'); (try simp only [List.push_toArray] at nE'); k_dflt (refine Mine.end2 ⟨_, _, _, _, _, _, _⟩ (by assumption) (by exact nE') (by rfl) (by kst_facts) (by kst_all) (by kst_same) (by kst_p)))
  k_with "my end" => ((with_reducible show InvEndN _ _ (KstS _ _ _ (PySem.Str.ofString "symbol") _ _ _ _) _ _ _ _); (rename News _ _ _ _ => nE'); (try simp only [List.push_toArray] at nE'); k_dflt (refine Mine.end2 ⟨_, _, _, _, _, _, _, _⟩ (by assumption) (by exact nE') (by rfl) (by kst_facts) (by kst_all) (by kst_same) (by kst_p)))
  k_with "my end" => ((with_reducible show InvEndN _ _ (KstS _ _ _ (PySem.Str.ofString "x") _ _ _ _) _ _ _ _); (rename News _ _ _ _ => nE'); (try simp only [List.push_toArray] at nE'); k_dflt (refine Mine.end3 ⟨_, _, _⟩ (by assumption) (by exact nE') (by rfl) (by kst_facts) (by kst_all) (by kst_same) (by kst_p)))
  k_with "state" => exact Mine.step_zero (by assumption) (by assumption) (by assumption) (by assumption) (by assumption) (by assumption) (by assumption) (by assumption) (by first | rfl | (rw [rangeKs_length]; omega))
  k_with "state" => exact Mine.step_more (by assumption) (by assumption) (by assumption) (by assumption) (by assumption) (by assumption) (by assumption) (by assumption) (by first | (rw [rangeKs_length]; rw [if_pos (by omega)]; omega) | (rw [rangeKs_length]; rw [if_neg (by omega), if_pos (by omega)]; omega) | (rw [rangeKs_length]; rw [if_neg (by omega), if_neg (by omega)]; omega))
  k_with "my reverse" => (k_dflt (refine' Mine.rev_rule ?rvF ?rvN ?rvU ?rvi ?rvr ?rvb ?_; (case rvF => k_asm); (case rvN => k_asm); (case rvU => k_upd); (case rvi => assumption); (case rvr => exact Mine.back_all (by assumption) (by rw [downKs_length]; omega)); (case rvb => assumption)); intro h' hRv F' N')
  k_with "my eq" => (k_dflt (refine' Mine.eq_rule ?eqN ?eqa ?eqb ?eqi ?eqj ?equ ?_; (case eqN => k_asm); (case eqa => k_memK); (case eqb => k_memK); (case eqi => assumption); (case eqj => assumption); (case equ => units_room)))
  exact Mine.hd (by w_strict k_go)
