import PyProof.Rows.All
import Wide.All
import OpenK.AllK
import Wide.FinOn
import Lean
import PySem.Challenge.RW_qj0011_01
set_option Elab.async false
set_option maxRecDepth 100000
set_option maxHeartbeats 8000000
set_option rowWalk.seconds 0
set_option linter.unusedSimpArgs false
set_option linter.unusedVariables false
section
open PySem PySem.W PyProof.Rows
namespace Mine
def view01 : Program := PySem.W.view PySem.Challenge.pw_qj0011_01 [0, 2, 3, 4, 5, 6, 8, 9, 10, 11, 12, 13, 14, 17, 18, 19, 20, 21]
set_option hygiene false
local macro_rules | `(tactic| o_head $H:term) => `(tactic| (refine holds_open (q := view01) (loose := [Str.ofString "Whitespace"]) (Xt := fun s => xlAt view01 [] s && recOk (RowW.records (PySem.Challenge.rw_qj0011_01.row).toRowW) s) (XP := XL view01 []) (Yf := Hook.obs $H) (Ya := Hook.val $H) (YP := Hook.says $H) (N := 2238) ?hl (Hook.of $H) (Hook.keeps $H) (fun s e => xl_of s (Bool.and_eq_true_iff.mp e).1) XL.keeps (by rfl) (by rfl) (by rfl) (fun s e => recFacts_of (Bool.and_eq_true_iff.mp e).2) (by rfl) (by first | assumption | decide +kernel) (by decide +kernel) ⟨rfl, rfl, rfl, rfl, rfl, by decide +kernel⟩ ?hw ?hc; (case hl => (refine LeftO.of_split "special-get-raises" ?hx; (case hx => (intro w; kernel_rfl))))))
local macro_rules | `(tactic| o_law) => `(tactic| refine holds_law (by decide +kernel) fun said => ?_)
set_option hygiene true
open_top hd01 for PySem.Challenge.rw_qj0011_01
end Mine
end
section
open PySem
namespace Mine
local macro_rules | `(tactic| omega) => `(tactic| lia)
def digs (n : Nat) : Nat → Nat → List Int
  | 0, _ => []
  | c + 1, x => ((x % 2 ^ n : Nat) : Int) :: digs n c (x / 2 ^ n)
theorem digs_length (n : Nat) : ∀ c x, (digs n c x).length = c
  | 0, _ => rfl
  | c + 1, x => by simp [digs, digs_length n c]
theorem digs_append (n : Nat) : ∀ a b x, digs n (a + b) x = digs n a (x % 2 ^ (n * a)) ++ digs n b (x / 2 ^ (n * a))
  | 0, b, x => by simp [digs]
  | a + 1, b, x => by
    have e : a + 1 + b = (a + b) + 1 := by omega
    rw [e]
    simp only [digs, List.cons_append]
    have e1 : n * (a + 1) = n + n * a := by rw [Nat.mul_add]; omega
    have h1 : x % 2 ^ (n * (a + 1)) % 2 ^ n = x % 2 ^ n := Nat.mod_mod_of_dvd x (Nat.pow_dvd_pow 2 (by rw [e1]; omega))
    have h2 : x % 2 ^ (n * (a + 1)) / 2 ^ n = x / 2 ^ n % 2 ^ (n * a) := by
      rw [e1, Nat.pow_add, Nat.mod_mul_right_div_self]
    have h3 : x / 2 ^ n / 2 ^ (n * a) = x / 2 ^ (n * (a + 1)) := by rw [Nat.div_div_eq_div_mul, ← Nat.pow_add, e1]
    rw [h1, h2, digs_append n a b, h3]
theorem xor_low (x s : Nat) : x ^^^ (x / 2 ^ s * 2 ^ s) = x % 2 ^ s := by
  apply Nat.eq_of_testBit_eq
  intro i
  rw [Nat.testBit_xor, Nat.testBit_mod_two_pow, ← Nat.shiftLeft_eq, Nat.testBit_shiftLeft, Nat.testBit_div_two_pow]
  by_cases h : s ≤ i
  · have : ¬ i < s := by omega
    simp only [h, decide_true, Bool.true_and, this, decide_false, Bool.false_and]
    have e : i - s + s = i := by omega
    rw [e]; simp
  · have : i < s := by omega
    simp [h, this]
theorem splice_take {α : Type} (ks d : List α) (lo a : Nat) (h1 : d.length = a) (h2 : lo ≤ ks.length) : (ks.take lo ++ d ++ ks.drop (lo + a)).take (lo + a) = ks.take lo ++ d := by
  have : (ks.take lo ++ d).length = lo + a := by simp [h1]; omega
  rw [← this, List.take_left']
  rfl
theorem splice_drop {α : Type} (ks d : List α) (lo a b : Nat) (h1 : d.length = a) (h2 : lo ≤ ks.length) : (ks.take lo ++ d ++ ks.drop (lo + a)).drop (lo + a + b) = ks.drop (lo + a + b) := by
  have : (ks.take lo ++ d).length = lo + a := by simp [h1]; omega
  rw [List.drop_append, this]
  have e : (ks.take lo ++ d).drop (lo + a + b) = [] := List.drop_eq_nil_of_le (by omega)
  rw [e, List.nil_append, List.drop_drop]
  congr 1
  omega
theorem or_low (x s : Nat) : x ||| (x / 2 ^ s * 2 ^ s) = x := by
  apply Nat.eq_of_testBit_eq
  intro i
  rw [Nat.testBit_or, ← Nat.shiftLeft_eq, Nat.testBit_shiftLeft, Nat.testBit_div_two_pow]
  by_cases h : s ≤ i
  · have e : i - s + s = i := by omega
    simp [h, e]
  · simp [h]
theorem and_low (x s : Nat) : x &&& (x / 2 ^ s * 2 ^ s) = x / 2 ^ s * 2 ^ s := by
  apply Nat.eq_of_testBit_eq
  intro i
  rw [Nat.testBit_and, ← Nat.shiftLeft_eq, Nat.testBit_shiftLeft, Nat.testBit_div_two_pow]
  by_cases h : s ≤ i
  · have e : i - s + s = i := by omega
    simp [h, e]
  · simp [h]
theorem bitXor_low (x s : Nat) : Builtin.bitXor (x : Int) (((x / 2 ^ s * 2 ^ s : Nat)) : Int) = ((x % 2 ^ s : Nat) : Int) := by
  have hx : decide (0 ≤ (x : Int)) = true := by simp
  have hy : decide (0 ≤ (((x / 2 ^ s * 2 ^ s : Nat)) : Int)) = true := by simp only [decide_eq_true_eq]; omega
  have nx : decide (0 ≤ Builtin.bitNot (x : Int)) = false := decide_eq_false (by unfold Builtin.bitNot; omega)
  have ny : decide (0 ≤ Builtin.bitNot (((x / 2 ^ s * 2 ^ s : Nat)) : Int)) = false := decide_eq_false (by unfold Builtin.bitNot; omega)
  have e1 : ∀ z : Nat, (Builtin.bitNot (Builtin.bitNot (z : Int))).toNat = z := by intro z; simp only [Builtin.bitNot]; omega
  have e2 : ∀ z : Int, Builtin.bitNot (Builtin.bitNot z) = z := by intro z; simp only [Builtin.bitNot]; omega
  unfold Builtin.bitXor Builtin.bitOr
  conv => lhs; lhs; rw [Builtin.bitAnd, nx, ny]
  dsimp only
  rw [e1, e1, e2, or_low]
  rw [Builtin.bitAnd, hx, hy]
  dsimp only
  rw [Int.toNat_natCast, Int.toNat_natCast, and_low]
  have := Nat.div_add_mod x (2 ^ s)
  rw [Nat.mul_comm] at this
  omega
theorem bits_le (x k : Nat) (h : x < 2 ^ k) : Builtin.Int.intBits (x : Int) ≤ k := by
  unfold Builtin.Int.intBits
  split
  · exact Nat.zero_le _
  · rename_i hx
    have hx' : x ≠ 0 := by intro e; apply hx; simp [e]
    simp only [Int.natAbs_natCast]
    exact (Nat.log2_lt hx').mpr h
theorem bits_lt (x : Nat) : x < 2 ^ Builtin.Int.intBits (x : Int) := by
  unfold Builtin.Int.intBits
  split
  · rename_i h
    have : x = 0 := by simpa using h
    rw [this]; decide
  · rename_i hx
    have hx' : x ≠ 0 := by intro e; apply hx; simp [e]
    simp only [Int.natAbs_natCast]
    exact Nat.lt_log2_self
theorem bits_pos (x : Nat) (h : x ≠ 0) : 0 < Builtin.Int.intBits (x : Int) := by
  unfold Builtin.Int.intBits
  rw [if_neg (by simpa using h)]
  omega
theorem up_div (b W : Nat) (hW : 0 < W) : b ≤ W * ((b + W - 1) / W) := by
  have h1 := Nat.div_add_mod (b + W - 1) W
  have h2 := Nat.mod_lt (b + W - 1) hW
  omega
theorem cast_div (x k : Nat) : (x : Int) / 2 ^ k = ((x / 2 ^ k : Nat) : Int) := by simp
theorem cast_mul (x k : Nat) : (x : Int) * 2 ^ k = ((x * 2 ^ k : Nat) : Int) := by simp
theorem div_bound {x W a b : Nat} (h : x < 2 ^ (W * (a + b))) : x / 2 ^ (W * a) < 2 ^ (W * b) := by
  apply Nat.div_lt_of_lt_mul
  rw [← Nat.pow_add, ← Nat.mul_add]
  exact h
def val (W : Nat) : List Int → Int
  | [] => 0
  | d :: r => d + 2 ^ W * val W r
theorem val_append (W : Nat) : ∀ a b : List Int, val W (a ++ b) = val W a + 2 ^ (W * a.length) * val W b
  | [], b => by simp [val]
  | d :: r, b => by
    simp only [List.cons_append, val, val_append W r b, List.length_cons]
    have e : (2 : Int) ^ (W * (r.length + 1)) = 2 ^ W * 2 ^ (W * r.length) := by rw [← Int.pow_add]; congr 1; rw [Nat.mul_add]; omega
    rw [e, Int.mul_add, Int.mul_assoc]; omega
theorem val_bound (W : Nat) : ∀ a : List Int, (∀ d ∈ a, 0 ≤ d ∧ d < 2 ^ W) → 0 ≤ val W a ∧ val W a < 2 ^ (W * a.length)
  | [], _ => by simp [val]
  | d :: r, h => by
    have h1 := h d (.head _)
    have h2 := val_bound W r fun x hx => h x (.tail _ hx)
    have e : (2 : Int) ^ (W * (r.length + 1)) = 2 ^ W * 2 ^ (W * r.length) := by rw [← Int.pow_add]; congr 1; rw [Nat.mul_add]; omega
    have hp : (0 : Int) < 2 ^ W := Int.pow_pos (by decide)
    simp only [val, List.length_cons]
    rw [e]
    have h3 : (2 : Int) ^ W * (val W r + 1) ≤ 2 ^ W * 2 ^ (W * r.length) := Int.mul_le_mul_of_nonneg_left (by omega) (by omega)
    have h4 : 0 ≤ (2 : Int) ^ W * val W r := Int.mul_nonneg (by omega) h2.1
    rw [Int.mul_add] at h3
    omega
def hor (W : Nat) (qs : List Int) : Int := qs.foldl (fun acc q => acc * 2 ^ W + q) 0
theorem hor_snoc (W : Nat) (qs : List Int) (q : Int) : hor W (qs ++ [q]) = hor W qs * 2 ^ W + q := by simp [hor]
theorem val_reverse (W : Nat) (qs : List Int) : val W qs.reverse = hor W qs := by
  have key : ∀ (n : Nat) (qs : List Int), qs.length = n → val W qs.reverse = hor W qs := by
    intro n
    induction n with
    | zero => intro qs h; rw [List.eq_nil_of_length_eq_zero h]; rfl
    | succ n ih =>
      intro qs h
      have hne : qs ≠ [] := by intro e; rw [e] at h; simp at h
      rw [← List.dropLast_concat_getLast hne, hor_snoc, List.reverse_append]
      show val W (qs.getLast hne :: qs.dropLast.reverse) = _
      rw [val, ih qs.dropLast (by rw [List.length_dropLast]; omega), Int.mul_comm]
      omega
  exact key qs.length qs rfl
theorem digs_getD (W : Nat) : ∀ (c j x : Nat), j < c → (digs W c x).getD j 0 = ((x / 2 ^ (W * j) % 2 ^ W : Nat) : Int)
  | 0, j, x, h => absurd h (Nat.not_lt_zero _)
  | c + 1, 0, x, _ => by simp [digs]
  | c + 1, j + 1, x, h => by
    have e : W * (j + 1) = W + W * j := by rw [Nat.mul_add]; omega
    simp only [digs, List.getD_cons_succ]
    rw [digs_getD W c j _ (by omega), Nat.div_div_eq_div_mul, ← Nat.pow_add, e]
theorem long_q (v b W d : Nat) (hb : 0 < b) : (v * 2 ^ W + d) / b = (v / b) * 2 ^ W + ((v % b) * 2 ^ W + d) / b := by
  have h := Nat.div_add_mod v b
  have e : v * 2 ^ W + d = ((v % b) * 2 ^ W + d) + b * ((v / b) * 2 ^ W) := by
    conv => lhs; rw [← h]
    rw [Nat.add_mul, Nat.mul_assoc]; omega
  rw [e, Nat.add_mul_div_left _ _ hb, Nat.add_comm]
theorem long_r (v b W d : Nat) : (v * 2 ^ W + d) % b = ((v % b) * 2 ^ W + d) % b := by
  have h := Nat.div_add_mod v b
  have e : v * 2 ^ W + d = ((v % b) * 2 ^ W + d) + b * ((v / b) * 2 ^ W) := by
    conv => lhs; rw [← h]
    rw [Nat.add_mul, Nat.mul_assoc]; omega
  rw [e, Nat.add_mul_mod_self_left]
theorem top_step (x W j : Nat) : x / 2 ^ (W * j) = x / 2 ^ (W * (j + 1)) * 2 ^ W + x / 2 ^ (W * j) % 2 ^ W := by
  have e : W * (j + 1) = W * j + W := by rw [Nat.mul_add]; omega
  rw [e, Nat.pow_add, ← Nat.div_div_eq_div_mul]
  have := Nat.div_add_mod (x / 2 ^ (W * j)) (2 ^ W)
  rw [Nat.mul_comm] at this
  exact this.symm
theorem qd_bound (r b W d : Nat) (hr : r < b) (hd : d < 2 ^ W) : (r * 2 ^ W + d) / b < 2 ^ W := by
  apply Nat.div_lt_of_lt_mul
  have h1 : (r + 1) * 2 ^ W ≤ b * 2 ^ W := Nat.mul_le_mul_right _ hr
  rw [Nat.add_mul] at h1
  omega
def wsTab (c : List Int) (b : Nat) : List Int :=
  if c.length ≤ b then (c ++ List.replicate (b - c.length + 1) 0).set b ((c ++ List.replicate (b - c.length + 1) 0).getD b 0 + 1) else c.set b (c.getD b 0 + 1)
def wsRun : List Nat → List Int → Nat → Nat → Nat → List Int × Nat × Nat × Nat
  | [], c, b, n, nt => (c, b, n, nt)
  | ch :: r, c, b, n, nt => if ch = 32 then wsRun r c (b + 1) (n + 1) nt else if ch = 9 then wsRun r (wsTab c b) 0 (n + 1) (nt + 1) else (c, b, n, nt)
theorem wsTab_length (c : List Int) (b : Nat) : (wsTab c b).length = max c.length (b + 1) := by
  unfold wsTab
  split
  · rw [List.length_set, List.length_append, List.length_replicate]; omega
  · rw [List.length_set]; omega
def grow1 (num : Int) (W : Nat) (ks : List Int) (part : Nat) : List Int :=
  if 0 < part ∧ 0 < ks.getD (part - 1) 0 ∧ (if part = 1 then 1 else 0) < ks.getD 0 0 then [num - 1 - 2 ^ (W * (part - 1)) + 2 ^ (W * part)] else []
def grown (num : Int) (W : Nat) (ks : List Int) : List Int := grow1 num W ks ks.length ++ grow1 num W ks (ks.length - 1)
theorem grow_next {num : Int} {W i part : Nat} {ks gs : List Int} (hi2 : i < 2) (hpi : if i = 0 then part = ks.length else part = ks.length - 1) (hgs : gs = (if i = 0 then [] else if i = 1 then grow1 num W ks ks.length else grown num W ks)) :
    gs ++ grow1 num W ks part = (if i + 1 = 0 then [] else if i + 1 = 1 then grow1 num W ks ks.length else grown num W ks) := by
  rcases (show i = 0 ∨ i = 1 by omega) with rfl | rfl
  · simp only [if_true] at hpi hgs
    subst hpi hgs
    simp
  · simp only [Nat.one_ne_zero, if_false, if_true] at hpi hgs
    subst hpi hgs
    simp [grown]
theorem beq2 {a b c d : Int} (h : ((a == b) == (c == d)) = true) : (a = b) = (c = d) := by
  rw [show (a == b) = decide (a = b) from rfl, show (c == d) = decide (c = d) from rfl] at h
  by_cases h1 : a = b <;> by_cases h2 : c = d
  · exact propext ⟨fun _ => h2, fun _ => h1⟩
  · rw [decide_eq_true h1, decide_eq_false h2] at h; cases h
  · rw [decide_eq_false h1, decide_eq_true h2] at h; cases h
  · exact propext ⟨fun x => absurd x h1, fun x => absurd x h2⟩
theorem beq2n {a b c d : Int} (h : ((a == b) == (c == d)) = false) : ¬ ((a = b) = (c = d)) := by
  rw [show (a == b) = decide (a = b) from rfl, show (c == d) = decide (c = d) from rfl] at h
  intro e
  by_cases h2 : c = d
  · have h1 : a = b := e.mpr h2
    rw [decide_eq_true h1, decide_eq_true h2] at h; cases h
  · have h1 : ¬ a = b := fun x => h2 (e.mp x)
    rw [decide_eq_false h1, decide_eq_false h2] at h; cases h
def shTerm (bs : List Int) (n m times k step : Int) : Int :=
  if 0 ≤ n - k * (times * k + step) / 2 - m * k then (if (k % 2 = 1) = (step = -1) then bs.getD (n - k * (times * k + step) / 2 - m * k).toNat 0 else -bs.getD (n - k * (times * k + step) / 2 - m * k).toNat 0) else 0
def shPair (bs : List Int) (n m times : Int) (i : Nat) : Int := shTerm bs n m times (1 + i) (-1) + shTerm bs n m times (1 + i) 1
def shareP (bs : List Int) (n m times : Int) : Int := ((List.range 4).map (shPair bs n m times)).sum
end Mine
end
section
open PySem PySem.W PyProof.Rows PySem.Calls
namespace Mine
theorem sp_eq : Str.ofString " " = ⟨#[32]⟩ := by decide +kernel
theorem tab_eq : Str.ofString "\t" = ⟨#[9]⟩ := by decide +kernel
theorem ch_one {ch k : Nat} : ((Str.mk [ch].toArray : Str) == ⟨#[k]⟩) = decide (ch = k) := by
  by_cases h : ch = k
  · subst h; simp
  · simp [h]
theorem memR {x : Addr × Obj} {a b : List (Addr × Obj)} (h : x ∈ b) : List.Mem x (a ++ b) := List.mem_append_right _ h
theorem memL {x : Addr × Obj} {a b : List (Addr × Obj)} (h : x ∈ a) : List.Mem x (a ++ b) := List.mem_append_left _ h
theorem memA {x : Addr × Obj} {b : List (Addr × Obj)} (h : x ∈ b) : List.Mem x b := h
theorem memB {x : Addr × Obj} {b : List (Addr × Obj)} (h : List.Mem x b) : x ∈ b := h
def IntR (v : Value) (i : Int) : Prop := ∃ t, v = .int i t
def Dj (a b : List (Addr × Obj)) : Prop := ∀ q ∈ a, ∀ p ∈ b, q.1 ≠ p.1
def TabL (P : Addr) (line col : Nat) (qual : Str) (tab : List (Addr × Obj)) : Prop :=
  tab = [(P, tabObj #[])] ∨ ∃ c' oc vs t, tab = [(P, tabObj #[rawInt line, rawInt col, .ref c']), (c', oc)] ∧ oc.data = .fields vs ∧ vs[1]? = some (.str qual t)

def Stop (P : Prop) : Prop := P
theorem Stop.out {P : Prop} (h : Stop P) : P := h
theorem Stop.mk {P : Prop} (h : P) : Stop P := h

inductive Rels {κ : Type} (R : Value → κ → Prop) : List Value → List κ → Prop
  | nil : Rels R [] []
  | cons {v : Value} {k : κ} {vs : List Value} {ks : List κ} (h : R v k) (r : Rels R vs ks) : Rels R (v :: vs) (k :: ks)
namespace Rels
variable {κ : Type} {R : Value → κ → Prop}
theorem length {vs : List Value} {ks : List κ} (h : Rels R vs ks) : vs.length = ks.length := by
  induction h with
  | nil => rfl
  | cons _ _ ih => simp [ih]
theorem getD {vs : List Value} {ks : List κ} (h : Rels R vs ks) (d : κ) : ∀ i, i < ks.length → R (vs.getD i .none) (ks.getD i d) := by
  induction h with
  | nil => intro i hi; exact absurd hi (Nat.not_lt_zero _)
  | cons h r ih =>
    intro i hi
    cases i with
    | zero => simpa using h
    | succ i => simpa using ih i (by simpa using hi)
theorem set {vs : List Value} {ks : List κ} (h : Rels R vs ks) {v : Value} {k : κ} (hv : R v k) : ∀ i, Rels R (vs.set i v) (ks.set i k) := by
  induction h with
  | nil => intro i; simpa using Rels.nil
  | cons h r ih =>
    intro i
    cases i with
    | zero => simpa using Rels.cons hv r
    | succ i => simpa using Rels.cons h (ih i)
theorem append {vs : List Value} {ks : List κ} (h : Rels R vs ks) {vs' : List Value} {ks' : List κ} (h' : Rels R vs' ks') : Rels R (vs ++ vs') (ks ++ ks') := by
  induction h with
  | nil => simpa using h'
  | cons h r ih => simpa using Rels.cons h ih
theorem dropLast {vs : List Value} {ks : List κ} (h : Rels R vs ks) : Rels R vs.dropLast ks.dropLast := by
  induction h with
  | nil => exact .nil
  | cons h r ih =>
    cases r with
    | nil => exact .nil
    | cons h' r' => exact .cons h (by simpa using ih)
theorem replicate {v : Value} {k : κ} (h : R v k) : ∀ n, Rels R (List.replicate n v) (List.replicate n k)
  | 0 => .nil
  | n + 1 => .cons h (replicate h n)
theorem reverse {vs : List Value} {ks : List κ} (h : Rels R vs ks) : Rels R vs.reverse ks.reverse := by
  induction h with
  | nil => exact .nil
  | cons h r ih => simpa using ih.append (.cons h .nil)
theorem mono {R' : Value → κ → Prop} {vs : List Value} {ks : List κ} (h : Rels R vs ks) (f : ∀ v k, R v k → R' v k) : Rels R' vs ks := by
  induction h with
  | nil => exact .nil
  | cons h r ih => exact .cons (f _ _ h) ih
end Rels

theorem rels_ints {vs : List Value} {ks : List Int} (h : Rels IntR vs ks) : IntsAre vs ks := by
  induction h with
  | nil => exact .nil
  | cons h r ih => obtain ⟨t, rfl⟩ := h; exact .cons _ _ ih
theorem ints_rels {vs : List Value} {ks : List Int} (h : IntsAre vs ks) : Rels IntR vs ks := by
  induction h with
  | nil => exact .nil
  | cons i t r ih => exact .cons ⟨t, rfl⟩ ih
section
variable {prog : Program} {w : World} {A : Around} {E : Value → Shared → Prop} {s : Shared} {h₀ : Heap} {L : Addr} {m : Str → Option Value} {news : List (Addr × Obj)} {l : Addr} {its : List Value} {n : Nat} {k : Int} {u : Tok}
theorem item_at {value slice : Expr} {Q : Value → Shared → Prop} (N : News h₀ L s.heap news) (hm : (l, listOf its.toArray n) ∈ news) (h0 : 0 ≤ k) (h1 : k < its.length) (hfit : k < 2 ^ 63) (h : Q (its.getD k.toNat .none) s)
    (hs : subscripted slice false (.ref l) (.int k u) = operate [.ref l, .int k u] (getItem (.ref l) (.int k u)) := by with_unfolding_all rfl) (hg : ∀ r, letTemporaryGo value (.ref l) r = pure () := by intro _; with_unfolding_all rfl) :
    wpAny (model prog w) A (subscriptTail value slice (.ref l) (.int k u)) Q E s := by
  have hk : k.toNat < its.length := by omega
  have hx : its[k.toNat]? = some (its.getD k.toNat .none) := by simp [List.getD_eq_getElem?_getD, hk]
  exact kim_list N hm rfl rfl h0 hfit hx h hs hg
theorem set_at {v : Value} {t : Tok} {Q : Unit → Shared → Prop} {news' : List (Addr × Obj)} (F : Fr h₀ L s.heap m) (N : News h₀ L s.heap news) (U : Upd l (listOf its.toArray n) (listOf (its.set k.toNat v).toArray n) news news') (h0 : 0 ≤ k) (h1 : k < its.length) (hfit : k < 2 ^ 63)
    (h : ∀ h', Fr h₀ L h' m → News h₀ L h' news' → Q () { s with heap := h' }) :
    wpAny (model prog w) A (setItem (.ref l) (.int k t) v) Q E s := by
  obtain ⟨pre, post, rfl, rfl, a, b⟩ := U.split
  have z := N (l, listOf its.toArray n) (List.mem_append.mpr (.inr (.head _)))
  refine ki_setAt z.1 h0 hfit (by rw [List.size_toArray]; omega) (h _ (F.change (Heap.SameBut.update ..) z.2.1 z.2.2) (ki_turn _ N a b ?_ ?_))
  · show its.toArray.setIfInBounds k.toNat v = (its.set k.toNat v).toArray
    apply Array.toList_inj.mp
    simp
  · simp

theorem isL (N : News h₀ L s.heap news) (hm : (l, listOf its.toArray n) ∈ news) : s.heap.IsList l its.toArray := ⟨_, (N _ hm).1, rfl, n, rfl⟩
theorem len_at {Q : Value → Shared → Prop} (N : News h₀ L s.heap news) (hm : (l, listOf its.toArray n) ∈ news) (hz : its.length < 2 ^ 62) (h : ∀ t tk, Q (.int its.length t) { s with toks := tk }) : wpAny (model prog w) A (call (.builtin "len") [.ref l]) Q E s :=
  len_list (isL N hm) (by rw [List.size_toArray]; omega) (by rw [List.size_toArray]; exact h _ _)
theorem truthy_at {Q : Bool → Shared → Prop} (N : News h₀ L s.heap news) (hm : (l, listOf its.toArray n) ∈ news) (hz : its.length < 2 ^ 62) (h : ∀ tk, Q (decide (0 < its.length)) { s with toks := tk }) : wpAny (model prog w) A (truthy (.ref l)) Q E s := by
  refine wpAny_truthy_list (isL N hm) (by rw [List.size_toArray]; omega) ?_
  have e : (!its.toArray.isEmpty) = decide (0 < its.length) := by cases its <;> simp
  rw [e]; exact h _
theorem append_at {v : Value} {Q : Value → Shared → Prop} {news' : List (Addr × Obj)} (F : Fr h₀ L s.heap m) (N : News h₀ L s.heap news) (U : Upd l (listOf its.toArray n) (listOf (its ++ [v]).toArray (n + 1)) news news') (hz : its.length ≤ 2 ^ 20)
    (h : ∀ h', Fr h₀ L h' m → News h₀ L h' news' → Q .none { s with heap := h' }) : wpAny (model prog w) A (call (.builtin "list.append") [.ref l, v]) Q E s :=
  append_K (its := its.toArray) (n := n) F N (by simpa using U) h (by rw [List.size_toArray]; exact Nat.le_trans hz (by decide))
theorem kl_last_snoc : ∀ (a : List Value) (v : Value), kl_last (a ++ [v]) = some (a, v) := fun a v => kpa_last v a
theorem pop_at {Q : Value → Shared → Prop} {news' : List (Addr × Obj)} (F : Fr h₀ L s.heap m) (N : News h₀ L s.heap news) (h0 : 0 < its.length) (hz : its.length ≤ 2 ^ 20) (U : Upd l (listOf its.toArray n) (listOf its.dropLast.toArray (n + 1)) news news')
    (h : ∀ h', Fr h₀ L h' m → News h₀ L h' news' → Q (its.getD (its.length - 1) .none) { s with heap := h' }) : wpAny (model prog w) A (call (.builtin "list.pop") [.ref l]) Q E s := by
  have hne : its ≠ [] := by intro e; rw [e] at h0; simp at h0
  have e := List.dropLast_concat_getLast hne
  have e2 : its.getD (its.length - 1) .none = its.getLast hne := by
    rw [List.getLast_eq_getElem, List.getD_eq_getElem?_getD, List.getElem?_eq_getElem (by omega)]; rfl
  rw [e2] at h
  refine kl_pop F N (p := its.dropLast) (y := its.getLast hne) ?_ U (by simpa using Nat.le_trans hz (by decide)) h
  show kl_last its = _
  conv => lhs; rw [← e]
  exact kl_last_snoc _ _
theorem rshift1 {a : Int} {t u : Tok} {Q : Value → Shared → Prop} (h : ∀ t tk, Q (.int (a / 2) t) { s with toks := tk }) : wpAny (model prog w) A (binaryOp .RShift (.int a t) (.int 1 u)) Q E s :=
  rshift_int (by decide) (by
    have e : a.fdiv (2 ^ (1 : Int).toNat) = a / 2 := by
      show a.fdiv (2 ^ 1) = a / 2
      rw [Int.fdiv_eq_ediv_of_nonneg _ (by decide)]; rfl
    rw [e]; exact h _ _)
theorem add_a {a b : Int} {t u : Tok} {Q : Value → Shared → Prop} (h : ∀ t tk, Q (.int (a + b) t) { s with toks := tk }) : wpAny (model prog w) A (binaryOp .Add (.int a t) (.int b u)) Q E s := PyProof.Rows.add_int (h _ _)
theorem sub_a {a b : Int} {t u : Tok} {Q : Value → Shared → Prop} (h : ∀ t tk, Q (.int (a - b) t) { s with toks := tk }) : wpAny (model prog w) A (binaryOp .Sub (.int a t) (.int b u)) Q E s := PyProof.Rows.sub_int (h _ _)
theorem mul_a {a b : Int} {t u : Tok} {Q : Value → Shared → Prop} (hm : IntMulOk a b) (h : ∀ t tk, Q (.int (a * b) t) { s with toks := tk }) : wpAny (model prog w) A (binaryOp .Mult (.int a t) (.int b u)) Q E s := PyProof.Rows.mul_int (h _ _) hm
theorem fdiv_a {a b : Int} {t u : Tok} {Q : Value → Shared → Prop} (hb : 0 < b) (hs : b.natAbs.log2 < 9000) (h : ∀ t tk, Q (.int (a / b) t) { s with toks := tk }) : wpAny (model prog w) A (binaryOp .FloorDiv (.int a t) (.int b u)) Q E s :=
  PyProof.Rows.floordiv_int (by omega) (by rw [Int.fdiv_eq_ediv_of_nonneg _ (by omega)]; exact h _ _) (Or.inl (PyProof.noPylong_of_log2 hs))
theorem mod_a {a b : Int} {t u : Tok} {Q : Value → Shared → Prop} (hb : 0 < b) (h : ∀ t tk, Q (.int (a % b) t) { s with toks := tk }) : wpAny (model prog w) A (binaryOp .Mod (.int a t) (.int b u)) Q E s :=
  PyProof.Rows.mod_int (by omega) (by rw [Int.fmod_eq_emod_of_nonneg _ (by omega)]; exact h _ _)
theorem neg_a {a : Int} {t : Tok} {Q : Value → Shared → Prop} (h : ∀ t tk, Q (.int (-a) t) { s with toks := tk }) : wpAny (model prog w) A (unaryOp .USub (.int a t)) Q E s := PySem.P.neg_int (h _ _)
theorem rshift_a {a n : Int} {t u : Tok} {Q : Value → Shared → Prop} (hn : 0 ≤ n) (h : ∀ t tk, Q (.int (a / 2 ^ n.toNat) t) { s with toks := tk }) : wpAny (model prog w) A (binaryOp .RShift (.int a t) (.int n u)) Q E s :=
  rshift_int hn (by rw [Int.fdiv_eq_ediv_of_nonneg _ (Int.le_of_lt (Int.pow_pos (by decide)))]; exact h _ _)
theorem lshift_a {a n : Int} {t u : Tok} {Q : Value → Shared → Prop} (hn : 0 ≤ n) (hsz : (Builtin.Int.intBits a : Int) + n ≤ 2 ^ 27) (h : ∀ t tk, Q (.int (a * 2 ^ n.toNat) t) { s with toks := tk }) : wpAny (model prog w) A (binaryOp .LShift (.int a t) (.int n u)) Q E s :=
  lshift_int hn hsz (h _ _)
theorem pow2_a {n : Int} {t u : Tok} {Q : Value → Shared → Prop} (hn : 0 ≤ n) (hn2 : n ≤ 1000000) (h : ∀ t tk, Q (.int (2 ^ n.toNat) t) { s with toks := tk }) : wpAny (model prog w) A (binaryOp .Pow (.int 2 t) (.int n u)) Q E s :=
  pow_int_small hn hn2 (by decide) (h _ _)
theorem xor_a {a b : Int} {t u : Tok} {Q : Value → Shared → Prop} (h : ∀ t tk, Q (.int (Builtin.bitXor a b) t) { s with toks := tk }) : wpAny (model prog w) A (binaryOp .BitXor (.int a t) (.int b u)) Q E s := PyProof.Rows.xor_int (h _ _)
theorem foldl_rep (v : Value) : ∀ (k : Nat) (a : Array Value), List.foldl (fun x1 x2 => x1 ++ x2) a (List.replicate k #[v]) = a ++ (List.replicate k v).toArray
  | 0, a => by simp
  | k + 1, a => by
    rw [List.replicate_succ, List.foldl_cons, foldl_rep v k, List.replicate_succ]
    apply Array.toList_inj.mp
    simp
theorem rep_at {v : Value} {Q : Value → Shared → Prop} (F : Fr h₀ L s.heap m) (N : News h₀ L s.heap news) (hm : (l, listOf [v].toArray n) ∈ news) (h0 : 0 ≤ k) (hk : k ≤ 2 ^ 20)
    (h : ∀ l' h', Fr h₀ L h' m → News h₀ L h' ((l', listOf (List.replicate k.toNat v).toArray 0) :: news) → (∀ p ∈ news, p.1 < l') → Q (.ref l') { s with heap := h' }) : wpAny (model prog w) A (binaryOp .Mult (.ref l) (.int k u)) Q E s := by
  refine PyProof.Rows.mul_list F N (N _ hm).1 (by omega) (by omega) (by simp; omega) fun h' F' N' => h _ h' F' ?_ fun p hp => Heap.lt_size (N p hp).1
  have e : List.foldl (fun x1 x2 => x1 ++ x2) #[] (List.replicate (if [v].toArray.isEmpty = true then 0 else k.toNat) [v].toArray) = (List.replicate k.toNat v).toArray := by
    have := foldl_rep v k.toNat #[]
    simpa using this
  rw [e] at N'
  exact N'
theorem l2_small {b : Int} (h : b.natAbs < 2 ^ 64) : b.natAbs.log2 < 9000 := by
  by_cases h0 : b.natAbs = 0
  · rw [h0]; decide
  · exact Nat.lt_trans ((Nat.log2_lt h0).mpr h) (by decide)
abbrev tupOf (vs : List Value) : Obj := { cls := .type "tuple", data := .seq vs.toArray }
theorem divmod_a {a b : Int} {t u : Tok} {Q : Value → Shared → Prop} (F : Fr h₀ L s.heap m) (N : News h₀ L s.heap news) (hb : 0 < b) (hs : b.natAbs.log2 < 9000)
    (h : ∀ q h' t1 t2 tk, Fr h₀ L h' m → News h₀ L h' ((q, tupOf [.int (a / b) t1, .int (a % b) t2]) :: news) → (∀ p ∈ news, p.1 < q) → Q (.ref q) { s with heap := h', toks := tk }) : wpAny (model prog w) A (call (.builtin "divmod") [.int a t, .int b u]) Q E s :=
  divmod_N F N (by omega) (fun h' F' N' => by
    rw [Int.fdiv_eq_ediv_of_nonneg _ (by omega), Int.fmod_eq_emod_of_nonneg _ (by omega)] at N'
    exact h _ h' _ _ _ F' N' fun p hp => Heap.lt_size (N p hp).1) (Or.inl (PyProof.noPylong_of_log2 hs))
theorem reverse_at {Q : Value → Shared → Prop} {news' : List (Addr × Obj)} (F : Fr h₀ L s.heap m) (N : News h₀ L s.heap news) (U : Upd l (listOf its.toArray n) (listOf its.reverse.toArray n) news news') (hz : its.length ≤ 2 ^ 20)
    (h : ∀ h', Fr h₀ L h' m → News h₀ L h' news' → Q .none { s with heap := h' }) : wpAny (model prog w) A (call (.builtin "list.reverse") [.ref l]) Q E s :=
  kl_reverse F N rfl U (Nat.le_trans hz (by decide)) h
theorem rep_int_at {c : Int} {t : Tok} {Q : Value → Shared → Prop} (F : Fr h₀ L s.heap m) (N : News h₀ L s.heap news) (hm : (l, listOf [.int c t].toArray n) ∈ news) (h0 : 0 ≤ k) (hk : k ≤ 2 ^ 20)
    (h : ∀ l' its' h', its'.length = k.toNat → Rels IntR its' (List.replicate k.toNat c) → Fr h₀ L h' m → News h₀ L h' ((l', listOf its'.toArray 0) :: news) → (∀ p ∈ news, p.1 < l') → Q (.ref l') { s with heap := h' }) : wpAny (model prog w) A (binaryOp .Mult (.ref l) (.int k u)) Q E s :=
  rep_at F N hm h0 hk fun l' h' F' N' hl => h l' _ h' List.length_replicate (Rels.replicate ⟨_, rfl⟩ _) F' N' hl
theorem set_int_at {x : Int} {t v : Tok} {ks : List Int} {Q : Unit → Shared → Prop} (g : List Value → List (Addr × Obj)) (F : Fr h₀ L s.heap m) (N : News h₀ L s.heap news) (U : ∀ its', Upd l (listOf its.toArray n) (listOf its'.toArray n) news (g its')) (hR : Rels IntR its ks) (h0 : 0 ≤ k) (h1 : k < its.length) (hfit : k < 2 ^ 63)
    (h : ∀ its' h', its'.length = its.length → Rels IntR its' (ks.set k.toNat x) → Fr h₀ L h' m → News h₀ L h' (g its') → Q () { s with heap := h' }) :
    wpAny (model prog w) A (setItem (.ref l) (.int k t) (.int x v)) Q E s :=
  set_at F N (U _) h0 h1 hfit fun h' F' N' => h _ h' (by simp) (hR.set ⟨_, rfl⟩ _) F' N'
theorem cat_int_at0 {b : Addr} {its2 : List Value} {n2 : Nat} {ks ks2 : List Int} {Q : Value → Shared → Prop} (F : Fr h₀ L s.heap m) (N : News h₀ L s.heap news) (hm : (l, listOf its.toArray n) ∈ news) (hm2 : (b, listOf its2.toArray n2) ∈ news) (hR : Rels IntR its ks) (hR2 : Rels IntR its2 ks2) (hz : ks.length + ks2.length ≤ 2 ^ 20)
    (h : ∀ l' its' h', Rels IntR its' (ks ++ ks2) → Fr h₀ L h' m → News h₀ L h' ((l', listOf its'.toArray 0) :: news) → (∀ p ∈ news, p.1 < l') → Q (.ref l') { s with heap := h' }) : wpAny (model prog w) A (binaryOp .Add (.ref l) (.ref b)) Q E s :=
  add_lists (hsz := by rw [hR.length, hR2.length]; exact Nat.le_trans hz (by decide)) F N (isL N hm) ⟨_, (N _ hm2).1, rfl, n2, rfl⟩ fun h' F' N' => h _ _ h' (hR.append hR2) F' N' fun p hp => Heap.lt_size (N p hp).1
theorem tuple_at {Q : Value → Shared → Prop} (F : Fr h₀ L s.heap m) (N : News h₀ L s.heap news) (hm : (l, listOf its.toArray n) ∈ news) (hz : its.length ≤ 16384)
    (h : ∀ D h', Fr h₀ L h' m → News h₀ L h' ((D, tupOf its) :: news) → (∀ p ∈ news, p.1 < D) → Q (.ref D) { s with heap := h' }) : wpAny (model prog w) A (call (.type "tuple") [.ref l]) Q E s :=
  kde_tupleOf F N (isL N hm) (by rw [List.size_toArray]; exact hz) rfl h
theorem isT (N : News h₀ L s.heap news) (hm : (l, tupOf its) ∈ news) : IsTup s.heap l its.toArray := ⟨_, (N _ hm).1, rfl, 0, rfl⟩
theorem len_tup_at {Q : Value → Shared → Prop} (N : News h₀ L s.heap news) (hm : (l, tupOf its) ∈ news) (hz : its.length < 2 ^ 62) (h : ∀ t tk, Q (.int its.length t) { s with toks := tk }) : wpAny (model prog w) A (call (.builtin "len") [.ref l]) Q E s :=
  len_tuple (isT N hm) (by rw [List.size_toArray]; omega) (by rw [List.size_toArray]; exact h _ _)
theorem item_tup_int {value slice : Expr} {ks : List Int} {Q : Value → Shared → Prop} (N : News h₀ L s.heap news) (hm : (l, tupOf its) ∈ news) (hR : Rels IntR its ks) (h0 : 0 ≤ k) (h1 : k < its.length) (hfit : k < 2 ^ 63) (h : ∀ t, Q (.int (ks.getD k.toNat 0) t) s)
    (hs : subscripted slice false (.ref l) (.int k u) = operate [.ref l, .int k u] (getItem (.ref l) (.int k u)) := by with_unfolding_all rfl) (hg : ∀ r, letTemporaryGo value (.ref l) r = pure () := by intro _; with_unfolding_all rfl) :
    wpAny (model prog w) A (subscriptTail value slice (.ref l) (.int k u)) Q E s := by
  obtain ⟨t, e⟩ := hR.getD (0 : Int) k.toNat (by have := hR.length; omega)
  have hk : k.toNat < its.length := by omega
  have hx : its[k.toNat]? = some (its.getD k.toNat .none) := by simp [List.getD_eq_getElem?_getD, hk]
  refine kim_tup (j := k.toNat) N hm rfl rfl (by omega) hfit ?_ hx (by rw [e]; exact h t) hs hg
  unfold seqIndex?
  have e1 : (if k < 0 then k + (its.length : Int) else k) = k := if_neg (by omega)
  simp only [e1]
  rw [if_pos (by simp only [Bool.and_eq_true, decide_eq_true_eq]; omega)]
theorem cat_at {b : Addr} {its2 : List Value} {n2 : Nat} {Q : Value → Shared → Prop} (F : Fr h₀ L s.heap m) (N : News h₀ L s.heap news) (hm : (l, listOf its.toArray n) ∈ news) (hm2 : (b, listOf its2.toArray n2) ∈ news) (hz : its.length + its2.length ≤ 2 ^ 20)
    (h : ∀ l' h', Fr h₀ L h' m → News h₀ L h' ((l', listOf (its ++ its2).toArray 0) :: news) → (∀ p ∈ news, p.1 < l') → Q (.ref l') { s with heap := h' }) : wpAny (model prog w) A (binaryOp .Add (.ref l) (.ref b)) Q E s :=
  add_lists (hsz := Nat.le_trans hz (by decide)) F N (isL N hm) ⟨_, (N _ hm2).1, rfl, n2, rfl⟩ fun h' F' N' => h _ h' F' N' fun p hp => Heap.lt_size (N p hp).1
theorem item_int {value slice : Expr} {ks : List Int} {Q : Value → Shared → Prop} (N : News h₀ L s.heap news) (hm : (l, listOf its.toArray n) ∈ news) (hR : Rels IntR its ks) (h0 : 0 ≤ k) (h1 : k < its.length) (hfit : k < 2 ^ 63) (h : ∀ t, Q (.int (ks.getD k.toNat 0) t) s)
    (hs : subscripted slice false (.ref l) (.int k u) = operate [.ref l, .int k u] (getItem (.ref l) (.int k u)) := by with_unfolding_all rfl) (hg : ∀ r, letTemporaryGo value (.ref l) r = pure () := by intro _; with_unfolding_all rfl) :
    wpAny (model prog w) A (subscriptTail value slice (.ref l) (.int k u)) Q E s := by
  obtain ⟨t, e⟩ := hR.getD (0 : Int) k.toNat (by have := hR.length; omega)
  exact item_at N hm h0 h1 hfit (by rw [e]; exact h t) hs hg
abbrev NoE : Value → Shared → Prop := fun _ _ => False
theorem while_c {σ : Type} {env : Env} {Q : Flow → Shared → Prop} {test : Expr} {body : List Stmt} {pos : Pos} {m₀ : Str → Option Value} (Led : σ → List (Addr × Obj)) (ps : σ → List (Str × Value)) (stored : List Str) (P : σ → Prop) (μ : σ → Nat) (c₀ : σ)
    (F : Fr h₀ L s.heap m₀) (N : News h₀ L s.heap (Led c₀)) (hk : ∀ p ∈ ps c₀, m₀ p.1 = some p.2) (hp : P c₀)
    (turn : ∀ (c : σ) (u : Str → Option Value) h tk, P c → Fr h₀ L h (kstB (fun z => if stored.contains z then u z else m₀ z) (ps c)) → News h₀ L h (Led c) →
      wpAny (model prog w) A (isTrue test env (eval test env)) (fun b s₂ =>
        if b = true then wpAny (model prog w) A (execs body env) (KswPost h₀ L s Led ps (fun _ => True) stored m₀ P μ Q c) NoE s₂ else Q .next s₂) NoE { s with heap := h, toks := tk }) :
    wpAny (model prog w) A (exec (.While test body [] pos) env) Q NoE s :=
  ksw_while Led ps (fun _ => True) stored P μ c₀ F N trivial hk hp (fun c u h tk _ => turn c u h tk) PassesOwn.never
theorem news_re1 {h : Heap} {x a b c d : Addr × Obj} {tab news : List (Addr × Obj)} (N : News h₀ L h (x :: (tab ++ (a :: b :: c :: d :: news)))) : News h₀ L h (b :: x :: a :: c :: d :: (tab ++ news)) := fun p hp => N p (by
    simp only [List.mem_cons, List.mem_append] at hp ⊢
    rcases hp with h | h | h | h | h | h | h <;> simp [h])
theorem news_re2 {h : Heap} {x a b c d : Addr × Obj} {rest : List (Addr × Obj)} (N : News h₀ L h (b :: x :: a :: c :: d :: rest)) : News h₀ L h (a :: x :: b :: c :: d :: rest) := fun p hp => N p (by
    simp only [List.mem_cons] at hp ⊢
    rcases hp with h | h | h | h | h | h <;> simp [h])
theorem news_re3 {h : Heap} {x b c d : Addr × Obj} {tab news : List (Addr × Obj)} (N : News h₀ L h (x :: (tab ++ (b :: c :: d :: news)))) : News h₀ L h (b :: x :: c :: d :: (tab ++ news)) := fun p hp => N p (by
    simp only [List.mem_cons, List.mem_append] at hp ⊢
    rcases hp with h | h | h | h | h | h <;> simp [h])
theorem news_re4 {h : Heap} {x y a : Addr × Obj} {rest : List (Addr × Obj)} (N : News h₀ L h (x :: y :: a :: rest)) : News h₀ L h (a :: y :: rest) := fun p hp => N p (by
    simp only [List.mem_cons] at hp ⊢
    rcases hp with h | h | h <;> simp [h])
theorem news_re5 {h : Heap} {a b : Addr × Obj} {t1 t2 news : List (Addr × Obj)} (N : News h₀ L h (a :: (b :: t1 ++ (t2 ++ news)))) : News h₀ L h (t2 ++ (a :: b :: (t1 ++ news))) := fun p hp => N p (by
    simp only [List.mem_cons, List.mem_append, List.cons_append] at hp ⊢
    rcases hp with h | h | h | h | h <;> simp [h])
theorem news_re6 {h : Heap} {x a b : Addr × Obj} {t1 t2 news : List (Addr × Obj)} (N : News h₀ L h (x :: (t2 ++ (a :: b :: (t1 ++ news))))) : News h₀ L h (x :: (t1 ++ (t2 ++ news))) := fun p hp => N p (by
    simp only [List.mem_cons, List.mem_append] at hp ⊢
    rcases hp with h | h | h | h <;> simp [h])
theorem news_ws {h : Heap} {a y b : Addr × Obj} {d : Addr} {o : Obj} {news : List (Addr × Obj)} (N : News h₀ L h (a :: y :: b :: (d, o) :: news)) : ∃ o', o' = o ∧ News h₀ L h (a :: b :: (d, o') :: news) := ⟨o, rfl, fun p hp => N p (by
    simp only [List.mem_cons] at hp ⊢
    rcases hp with h | h | h | h <;> simp [h])⟩
theorem news_tail {h : Heap} {a : Addr × Obj} {news : List (Addr × Obj)} (N : News h₀ L h (a :: news)) : News h₀ L h news := fun p hp => N p (.tail _ hp)
theorem news_re7 {h : Heap} {a b c : Addr × Obj} {rest : List (Addr × Obj)} (N : News h₀ L h (a :: b :: c :: rest)) : News h₀ L h (a :: b :: rest) := fun p hp => N p (by
    simp only [List.mem_cons] at hp ⊢
    rcases hp with h | h | h <;> simp [h])
theorem news_two {h : Heap} {a b : Int} {t u : Tok} {n : Nat} {rest : List (Addr × Obj)} (N : News h₀ L h ((l, listOf [.int a t, .int b u].toArray n) :: rest)) : ∃ its2, Rels IntR its2 [a, b] ∧ News h₀ L h ((l, listOf its2.toArray n) :: rest) := ⟨_, .cons ⟨_, rfl⟩ (.cons ⟨_, rfl⟩ .nil), N⟩
theorem nest_any {M : Model} {a c P : Addr} {mg mb : Str → Option Value} {cn : Str} {cs : Scope} {ccd : Value} {cl : List (Str × Addr)} {tab rest : List (Addr × Obj)} {p : Program} {loose : List Str} {mean : ExcName → Option Value} {name qual : Str} {params : Arguments} {body : List Stmt} {scope : Scope} {pos : Pos} {firstLine : Nat} {clos : List (Str × Addr)} {Q : Value → Shared → Prop} {line col : Nat}
    (F : Fr h₀ L s.heap m) (N : News h₀ L s.heap (tab ++ rest)) (T : Top p loose mean mg mb h₀) (C : CodeHd h₀ c P) (hcd : ccd = .ref c) (hT : TabL P line col qual tab) (h1 : pos.line = line) (h2 : pos.col = col) (hne : Dj tab rest)
    (hcl : closureFor scope (envX cn cs L a ccd cl) = pure clos)
    (h : ∀ f c' oc vs t ctv doc h' tk tab', Fr h₀ L h' m → News h₀ L h' ((f, fnMade name qual params body scope clos doc ((mg "__name__").getD .none) c' ctv) :: (tab' ++ rest)) → TabL P line col qual tab' → (c', oc) ∈ tab' →
      oc.data = .fields vs → vs[1]? = some (.str qual t) → (∀ q ∈ tab' ++ rest, q.1 < f) → Dj tab' rest → Q (.ref f) { s with heap := h', toks := tk }) :
    wpAny M A (makeFunction name qual params (.stmts body) scope (envX cn cs L a ccd cl) [] [] [] pos firstLine) Q E s := by
  subst h1 h2
  rcases hT with rfl | ⟨c', oc, vs, t, rfl, hd, hv⟩
  · refine nest_K F N T C hcd (UpdF.head fun p hp e => hne _ (.head _) p hp e.symm) trivial rfl hcl ?_
    intro f c' oc vs t ctv doc h' tk F' N' d1 d2 l1 l2
    refine h f c' oc vs t ctv doc h' tk [(P, tabObj #[rawInt pos.line, rawInt pos.col, .ref c']), (c', oc)] F' (fun p hp => N' p ?_) (.inr ⟨c', oc, vs, t, rfl, d1, d2⟩) (.tail _ (.head _)) d1 d2 ?_ ?_
    · simp only [List.mem_cons, List.cons_append, List.nil_append, List.append_assoc] at hp ⊢
      rcases hp with rfl | rfl | rfl | hp
      · exact .inl rfl
      · exact .inr (.inr (.inl rfl))
      · exact .inr (.inl rfl)
      · exact .inr (.inr (.inr hp))
    · intro q hq
      simp only [List.mem_cons, List.cons_append, List.nil_append] at hq
      rcases hq with rfl | rfl | hq
      · exact Nat.lt_trans (l1 (P, tabObj #[]) (.head _)) l2
      · exact l2
      · exact Nat.lt_trans (l1 q (.tail _ hq)) l2
    · intro q hq p hp
      simp only [List.mem_cons, List.not_mem_nil, or_false] at hq
      rcases hq with rfl | rfl
      · exact hne (P, tabObj #[]) (.head _) p hp
      · exact Nat.ne_of_gt (l1 p (.tail _ hp))
  · refine nestHit_K (c' := c') F N T C hcd (.head _) ?_ ?_ hcl ?_
    · simp [TriplesOk, rawInt]
    · simp [codeAmong, rawInt]
    · intro f ctv doc h' tk F' N' l1
      exact h f c' oc vs t ctv doc h' tk _ F' N' (.inr ⟨c', oc, vs, t, rfl, hd, hv⟩) (.tail _ (.head _)) hd hv l1 hne
end
end Mine
end
section
open PySem PySem.W PyProof.Rows PySem.Calls
namespace Mine
def FEnd {σ : Type} (h₀ : Heap) (L : Addr) (s : Shared) (Led : σ → List (Addr × Obj)) (ps : σ → List (Str × Value)) (x : Str) (stored : List Str) (m₀ : Str → Option Value) (I : Addr) (oI : Obj) (Inv : σ → Prop) (s₂ : Shared) : Prop :=
  ∃ (c' : σ) (h' : Heap) (tk : Nat) (m' : Str → Option Value) (news' : List (Addr × Obj)), s₂ = { s with heap := h', toks := tk } ∧ Fr h₀ L h' m' ∧ News h₀ L h' news' ∧ (∀ p ∈ Led c', p ∈ news') ∧ (I, oI) ∈ news' ∧ (∀ p ∈ Led c', p.1 ≠ I) ∧
    (∀ p ∈ ps c', m' p.1 = some p.2) ∧ (∀ z, z ≠ x → (∀ p ∈ ps c', z ≠ p.1) → stored.contains z = false → m' z = m₀ z) ∧ Inv c'
def FPost {σ : Type} (h₀ : Heap) (L : Addr) (s : Shared) (Led : σ → List (Addr × Obj)) (ps : σ → List (Str × Value)) (x : Str) (stored : List Str) (m₀ : Str → Option Value) (I : Addr) (oI : Obj) (Inv : σ → Prop) (Q : Flow → Shared → Prop) (f : Flow) (s₂ : Shared) : Prop :=
  match f with
  | .ret v => Q (.ret v) s₂
  | .brk => Q .next s₂
  | _ => FEnd h₀ L s Led ps x stored m₀ I oI Inv s₂
theorem fend {σ : Type} {h₀ : Heap} {L : Addr} {s : Shared} {Led : σ → List (Addr × Obj)} {ps : σ → List (Str × Value)} {x : Str} {stored : List Str} {m₀ m' : Str → Option Value} {I : Addr} {oI : Obj} {Inv : σ → Prop} {h' : Heap} {tk : Nat} {news' : List (Addr × Obj)} (c' : σ)
    (F : Fr h₀ L h' m') (N : News h₀ L h' news') (hn : ∀ p ∈ Led c', p ∈ news') (hI : (I, oI) ∈ news') (hne : ∀ p ∈ Led c', p.1 ≠ I) (hk : ∀ p ∈ ps c', m' p.1 = some p.2) (hr : ∀ z, z ≠ x → (∀ p ∈ ps c', z ≠ p.1) → stored.contains z = false → m' z = m₀ z) (hp : Inv c') :
    FEnd h₀ L s Led ps x stored m₀ I oI Inv { s with heap := h', toks := tk } := ⟨c', h', tk, m', news', rfl, F, N, hn, hI, hne, hk, hr, hp⟩

section
variable {prog : Program} {w : World} {A : Around} {s : Shared} {env : Env} {h₀ : Heap} {x : Str} {body : List Stmt} {Q : Flow → Shared → Prop}
theorem loop_c {σ : Type} {I : Addr} {fp : List Addr} {n : Nat} {P : Nat → Value → Prop} {St : Nat → Heap → Prop} {m₀ : Str → Option Value} (Led : σ → List (Addr × Obj)) (ps : σ → List (Str × Value)) (stored : List Str) (Inv : Nat → σ → Prop) (c₀ : σ)
    (W : Walks prog w A I fp [I] n P St) (hLf : env.locals ∉ fp) (hI : h₀.get? I = none) (hIf : I ∈ fp) (hSt : ∀ i h, St i h → ∃ o, h.get? I = some o)
    (hfp : ∀ b ∈ fp, b = I ∨ (∃ o, h₀.get? b = some o) ∨ ∃ o, ∀ i c, Inv i c → (b, o) ∈ Led c)
    (hst : St 0 s.heap) (F : Fr h₀ env.locals s.heap m₀) (N : News h₀ env.locals s.heap (Led c₀)) (hnI : ∀ p ∈ Led c₀, p.1 ≠ I) (hk : ∀ p ∈ ps c₀, m₀ p.1 = some p.2) (h0 : Inv 0 c₀)
    (turn : ∀ (i : Nat) (v : Value) (c : σ) (u : Str → Option Value) (h : Heap) (tk : Nat) (oI : Obj), i < n → P i v → Inv i c → (∀ p ∈ Led c, p.1 ≠ I) →
      Fr h₀ env.locals h (fun y => if y = x then some v else kstB (fun z => if stored.contains z then u z else m₀ z) (ps c) y) → News h₀ env.locals h ((I, oI) :: Led c) →
      wpAny (model prog w) A (execs body env) (FPost h₀ env.locals { s with heap := h, toks := tk } Led ps x stored m₀ I oI (Inv (i + 1)) Q) NoE { s with heap := h, toks := tk })
    (done : ∀ (c : σ) (u : Str → Option Value) (h : Heap) (tk : Nat), Inv n c → Fr h₀ env.locals h (fun y => if y = x then u y else kstB (fun z => if stored.contains z then u z else m₀ z) (ps c) y) → News h₀ env.locals h (Led c) → Q .next { s with heap := h, toks := tk }) :
    LoopAtV prog w A h₀ env x body Q NoE (.ref I) s := by
  let J : Nat → (Str → Option Value) → List (Addr × Obj) → Prop := fun i m₁ nx => ∃ c : σ, nx = Led c ∧ (∀ p ∈ ps c, m₁ p.1 = some p.2) ∧ (∀ z, z ≠ x → (∀ p ∈ ps c, z ≠ p.1) → stored.contains z = false → m₁ z = m₀ z) ∧ Inv i c
  refine ⟨I, fp, [I], n, P, St, m₀, Led c₀, J, rfl, W, hLf, fun b hb => by rw [List.mem_singleton.mp hb]; exact hI, fun p hp hq => hnI p hp (List.mem_singleton.mp hq), hst, F, N, ⟨c₀, rfl, hk, fun _ _ _ _ => rfl, h0⟩, ?_, ?_⟩
  · rintro i v m₁ news₁ s₁ own ⟨hh', tk', rfl⟩ hin hP ⟨c, rfl, h1, h2, hInv⟩ hoff hown hown2 hown3 hst₁ F₁ N₁
    obtain ⟨oI, hoI⟩ := hSt _ _ hst₁
    have hIown := hown3 I hIf hI oI hoI
    have hne : ∀ p ∈ Led c, p.1 ≠ I := fun p hp e => hoff p hp (by rw [e]; exact .head _)
    have N₂ : News h₀ env.locals hh' ((I, oI) :: Led c) := fun p hp => by
      rcases List.mem_cons.mp hp with rfl | hp
      · exact N₁ _ (List.mem_append_left _ hIown)
      · exact N₁ p (List.mem_append_right _ hp)
    refine wpAny_mono (turn i v c m₁ hh' tk' oI hin hP hInv hne (kst_fr h1 h2 F₁) N₂) (fun f s₂ p => ?_) fun _ _ e => e
    have fin : FEnd h₀ env.locals { s with heap := hh', toks := tk' } Led ps x stored m₀ I oI (Inv (i + 1)) s₂ → LoopStepU h₀ env.locals [I] own (J (i + 1)) { s with heap := hh', toks := tk' } .next s₂ := by
      rintro ⟨c', h', tk, m', news', e, F', N', hn, hI', hne', hk', hr', hp'⟩
      refine ⟨rfl, h', tk, m', Led c', e, F', fun p hp => ?_, fun p hp hq => hne' p hp (List.mem_singleton.mp hq), c', rfl, hk', hr', hp'⟩
      rcases List.mem_append.mp hp with hp | hp
      · have hpN := N₁ p (List.mem_append_left _ hp)
        rcases hfp p.1 (hown p hp) with e1 | ⟨o, e1⟩ | ⟨o, e1⟩
        · have e2 : p = (I, oI) := by
            have e3 := hpN.1
            rw [e1, hoI] at e3
            exact Prod.ext e1 (Option.some.inj e3).symm
          rw [e2]; exact N' _ hI'
        · rw [hpN.2.2] at e1; cases e1
        · have e2 := (N₂ (p.1, o) (.tail _ (e1 i c hInv))).1
          have e3 := hpN.1
          rw [e2] at e3
          have e4 : p = (p.1, o) := Prod.ext rfl (Option.some.inj e3).symm
          rw [e4]; exact N' _ (hn _ (e1 (i + 1) c' hp'))
      · exact N' p (hn p hp)
    cases f with
    | ret v => exact .ret p
    | brk => exact .brk p
    | next => exact .next (fin p)
    | cont => exact .cont (fin p)
  · rintro h' tk m' news' F' N' _ ⟨c, rfl, h1, h2, hInv⟩
    exact done c m' h' tk hInv (kst_frOut h1 h2 F') N'
theorem forExec {iter : Expr} {px pos : Pos} (h₀ : Heap) (hx : env.kindOf x = some .local) (hp : (env.scope.kind == .class || (env.scope.kind == .module && env.locals != env.globals)) = false)
    (h : wpAny (model prog w) A (eval iter env) (fun xv s₁ => wpAny (model prog w) A (pyIter xv) (fun it s₂ => LoopAtV prog w A h₀ env x body Q NoE it s₂) NoE s₁) NoE s) (hs : ∀ x, foldedSetIterable iter env x = pure x) :
    wpAny (model prog w) A (exec (.For (.Name x px) iter body [] pos) env) Q NoE s := For_invV h₀ hx hp h hs PassesOwn.never

theorem iter_list_c {σ : Type} {l : Addr} {its : List Value} {nn : Nat} {m₀ : Str → Option Value} (Led : σ → List (Addr × Obj)) (ps : σ → List (Str × Value)) (stored : List Str) (Inv : Nat → σ → Prop) (c₀ : σ)
    (hh : A.handled = none) (hl : ∀ i c, Inv i c → (l, listOf its.toArray nn) ∈ Led c) (F : Fr h₀ env.locals s.heap m₀) (N : News h₀ env.locals s.heap (Led c₀)) (hk : ∀ p ∈ ps c₀, m₀ p.1 = some p.2) (h0 : Inv 0 c₀)
    (turn : ∀ (i : Nat) (c : σ) (u : Str → Option Value) (h : Heap) (tk : Nat) (I : Addr) (oI : Obj), i < its.length → Inv i c → (∀ p ∈ Led c, p.1 ≠ I) →
      Fr h₀ env.locals h (fun y => if y = x then some (its.getD i .none) else kstB (fun z => if stored.contains z then u z else m₀ z) (ps c) y) → News h₀ env.locals h ((I, oI) :: Led c) →
      wpAny (model prog w) A (execs body env) (FPost h₀ env.locals { s with heap := h, toks := tk } Led ps x stored m₀ I oI (Inv (i + 1)) Q) NoE { s with heap := h, toks := tk })
    (done : ∀ (c : σ) (u : Str → Option Value) (h : Heap) (tk : Nat), Inv its.length c → Fr h₀ env.locals h (fun y => if y = x then u y else kstB (fun z => if stored.contains z then u z else m₀ z) (ps c) y) → News h₀ env.locals h (Led c) → Q .next { s with heap := h, toks := tk }) :
    wpAny (model prog w) A (pyIter (.ref l)) (fun it s₂ => LoopAtV prog w A h₀ env x body Q NoE it s₂) NoE s := by
  have hm := N _ (hl 0 c₀ h0)
  have hls : s.heap.IsList l its.toArray := ⟨_, hm.1, rfl, nn, rfl⟩
  have hlt : l < s.heap.objs.size := Heap.lt_size hm.1
  have hne : l ≠ s.heap.objs.size := Nat.ne_of_lt hlt
  refine wpAny_pyIter_list hls ?_
  have W := Walks.list (prog := prog) (w := w) hh s.heap.objs.size l hne its.toArray
  have hsz : its.toArray.size = its.length := List.size_toArray
  rw [hsz] at W
  refine loop_c (fp := [s.heap.objs.size, l]) Led ps stored Inv c₀ W ?_ (next_is_new F) (.head _) ?_ ?_ ⟨⟨_, Heap.get?_push_size _ rfl, rfl, rfl⟩, hls.at fun o e => Heap.get?_push_of_some _ e⟩ (F.push _) (fun p hp => ⟨Heap.get?_push_of_some _ (N p hp).1, (N p hp).2⟩) (fun p hp e => absurd (Heap.lt_size (N p hp).1) (by rw [e]; exact Nat.lt_irrefl _)) hk h0 ?_ ?_
  · intro hq
    rcases List.mem_cons.mp hq with e | hq
    · exact absurd F.ns.lt (e ▸ Nat.lt_irrefl _)
    · exact hm.2.1 (List.mem_singleton.mp hq).symm
  · rintro i h ⟨⟨o, e, _⟩, _⟩
    exact ⟨o, e⟩
  · intro b hb
    rcases List.mem_cons.mp hb with e | hb
    · exact .inl e
    · rw [List.mem_singleton.mp hb]
      exact .inr (.inr ⟨_, hl⟩)
  · intro i v c u h tk oI hi hP hInv hne' F' N'
    have hv : v = its.getD i .none := by
      have hP' : its[i]? = some v := by simpa using hP
      rw [List.getD_eq_getElem?_getD, hP']; rfl
    subst hv
    exact turn i c u h tk _ oI hi hInv hne' F' N'
  · exact done
theorem iter_rev_c {σ : Type} {I l : Addr} {its : List Value} {nn : Nat} {m₀ : Str → Option Value} (Led : σ → List (Addr × Obj)) (ps : σ → List (Str × Value)) (stored : List Str) (Inv : Nat → σ → Prop) (c₀ : σ)
    (hh : A.handled = none) (hl : ∀ i c, Inv i c → (l, listOf its.toArray nn) ∈ Led c) (F : Fr h₀ env.locals s.heap m₀) (N : News h₀ env.locals s.heap ((I, revObj l ((its.length : Int) - 1)) :: Led c₀)) (hnI : ∀ p ∈ Led c₀, p.1 ≠ I) (hk : ∀ p ∈ ps c₀, m₀ p.1 = some p.2) (h0 : Inv 0 c₀)
    (turn : ∀ (i : Nat) (c : σ) (u : Str → Option Value) (h : Heap) (tk : Nat) (oI : Obj), i < its.length → Inv i c → (∀ p ∈ Led c, p.1 ≠ I) →
      Fr h₀ env.locals h (fun y => if y = x then some (its.getD (its.length - 1 - i) .none) else kstB (fun z => if stored.contains z then u z else m₀ z) (ps c) y) → News h₀ env.locals h ((I, oI) :: Led c) →
      wpAny (model prog w) A (execs body env) (FPost h₀ env.locals { s with heap := h, toks := tk } Led ps x stored m₀ I oI (Inv (i + 1)) Q) NoE { s with heap := h, toks := tk })
    (done : ∀ (c : σ) (u : Str → Option Value) (h : Heap) (tk : Nat), Inv its.length c → Fr h₀ env.locals h (fun y => if y = x then u y else kstB (fun z => if stored.contains z then u z else m₀ z) (ps c) y) → News h₀ env.locals h (Led c) → Q .next { s with heap := h, toks := tk }) :
    wpAny (model prog w) A (pyIter (.ref I)) (fun it s₂ => LoopAtV prog w A h₀ env x body Q NoE it s₂) NoE s := by
  have hI := N _ (.head _)
  have hm := N _ (.tail _ (hl 0 c₀ h0))
  have hls : s.heap.IsList l its.toArray := ⟨_, hm.1, rfl, nn, rfl⟩
  have hne : l ≠ I := hnI _ (hl 0 c₀ h0)
  have hit : s.heap.IsRevIter I l ((its.length : Int) - 1) := ⟨_, hI.1, rfl, rfl⟩
  refine wpAny_pyIter_revIter hit ?_
  have W := Walks.listRev (prog := prog) (w := w) hh I l hne its.toArray
  have hsz : its.toArray.size = its.length := List.size_toArray
  rw [hsz] at W
  refine loop_c (fp := [I, l]) Led ps stored Inv c₀ W ?_ hI.2.2 (.head _) ?_ ?_ ⟨Nat.zero_le _, by simpa using hit, hls⟩ F (fun p hp => N p (.tail _ hp)) hnI hk h0 ?_ ?_
  · intro hq
    rcases List.mem_cons.mp hq with e | hq
    · exact hI.2.1 e.symm
    · exact hm.2.1 (List.mem_singleton.mp hq).symm
  · rintro i h ⟨_, ⟨o, e, _⟩, _⟩
    exact ⟨o, e⟩
  · intro b hb
    rcases List.mem_cons.mp hb with e | hb
    · exact .inl e
    · rw [List.mem_singleton.mp hb]
      exact .inr (.inr ⟨_, hl⟩)
  · intro i v c u h tk oI hi hP hInv hne' F' N'
    have hv : v = its.getD (its.length - 1 - i) .none := by
      have hP' : its[its.length - 1 - i]? = some v := by simpa using hP
      rw [List.getD_eq_getElem?_getD, hP']; rfl
    subst hv
    exact turn i c u h tk oI hi hInv hne' F' N'
  · exact done
theorem iter_range_c {σ : Type} {r : Addr} {a₀ b₀ : Int} {t₀ u₀ v₀ : Tok} {n : Nat} {m₀ : Str → Option Value} (Led : σ → List (Addr × Obj)) (ps : σ → List (Str × Value)) (stored : List Str) (Inv : Nat → σ → Prop) (c₀ : σ)
    (hh : A.handled = none) (hr : IsRange s.heap r a₀ b₀ 1 t₀ u₀ v₀) (hsmall : Builtin.Range.small a₀ b₀ 1 = true) (hn : Builtin.Range.rangeSize a₀ b₀ 1 = (n : Int)) (F : Fr h₀ env.locals s.heap m₀) (N : News h₀ env.locals s.heap (Led c₀)) (hk : ∀ p ∈ ps c₀, m₀ p.1 = some p.2) (h0 : Inv 0 c₀)
    (turn : ∀ (i : Nat) (t : Tok) (c : σ) (u : Str → Option Value) (h : Heap) (tk : Nat) (I : Addr) (oI : Obj), i < n → Inv i c → (∀ p ∈ Led c, p.1 ≠ I) →
      Fr h₀ env.locals h (fun y => if y = x then some (.int (a₀ + i) t) else kstB (fun z => if stored.contains z then u z else m₀ z) (ps c) y) → News h₀ env.locals h ((I, oI) :: Led c) →
      wpAny (model prog w) A (execs body env) (FPost h₀ env.locals { s with heap := h, toks := tk } Led ps x stored m₀ I oI (Inv (i + 1)) Q) NoE { s with heap := h, toks := tk })
    (done : ∀ (c : σ) (u : Str → Option Value) (h : Heap) (tk : Nat), Inv n c → Fr h₀ env.locals h (fun y => if y = x then u y else kstB (fun z => if stored.contains z then u z else m₀ z) (ps c) y) → News h₀ env.locals h (Led c) → Q .next { s with heap := h, toks := tk }) :
    wpAny (model prog w) A (pyIter (.ref r)) (fun it s₂ => LoopAtV prog w A h₀ env x body Q NoE it s₂) NoE s := by
  refine wpAny_pyIter_range hr hsmall ?_
  have W := Walks.range (prog := prog) (w := w) hh s.heap.objs.size a₀ 1 n
  refine loop_c (fp := [s.heap.objs.size]) Led ps stored Inv c₀ W ?_ (next_is_new F) (.head _) ?_ ?_ (by show IsRangeIter _ _ _ _ _; rw [hn]; simpa using Heap.get?_push_size _ rfl) (F.push _) (fun p hp => ⟨Heap.get?_push_of_some _ (N p hp).1, (N p hp).2⟩) (fun p hp e => absurd (Heap.lt_size (N p hp).1) (by rw [e]; exact Nat.lt_irrefl _)) hk h0 ?_ ?_
  · intro hq
    exact absurd F.ns.lt ((List.mem_singleton.mp hq) ▸ Nat.lt_irrefl _)
  · intro i h st
    exact ⟨_, st⟩
  · intro b hb
    exact .inl (List.mem_singleton.mp hb)
  · rintro i v c u h tk oI hi ⟨t, rfl⟩ hInv hne' F' N'
    rw [Int.mul_one] at F'
    exact turn i t c u h tk _ oI hi hInv hne' F' N'
  · exact done
theorem iter_str_c {σ : Type} {xt : Str} {tx : Tok} {m₀ : Str → Option Value} (Led : σ → List (Addr × Obj)) (ps : σ → List (Str × Value)) (stored : List Str) (Inv : Nat → σ → Prop) (c₀ : σ)
    (hh : A.handled = none) (F : Fr h₀ env.locals s.heap m₀) (N : News h₀ env.locals s.heap (Led c₀)) (hk : ∀ p ∈ ps c₀, m₀ p.1 = some p.2) (h0 : Inv 0 c₀) (ha : xt.cps.all (· < 128) = true)
    (turn : ∀ (i : Nat) (ch : Nat) (t : Tok) (c : σ) (u : Str → Option Value) (h : Heap) (tk : Nat) (I : Addr) (oI : Obj), i < xt.cps.size → xt.cps[i]? = some ch → Inv i c → (∀ p ∈ Led c, p.1 ≠ I) →
      Fr h₀ env.locals h (fun y => if y = x then some (.str ⟨#[ch]⟩ t) else kstB (fun z => if stored.contains z then u z else m₀ z) (ps c) y) → News h₀ env.locals h ((I, oI) :: Led c) →
      wpAny (model prog w) A (execs body env) (FPost h₀ env.locals { s with heap := h, toks := tk } Led ps x stored m₀ I oI (Inv (i + 1)) Q) NoE { s with heap := h, toks := tk })
    (done : ∀ (c : σ) (u : Str → Option Value) (h : Heap) (tk : Nat), Inv xt.cps.size c → Fr h₀ env.locals h (fun y => if y = x then u y else kstB (fun z => if stored.contains z then u z else m₀ z) (ps c) y) → News h₀ env.locals h (Led c) → Q .next { s with heap := h, toks := tk }) :
    wpAny (model prog w) A (pyIter (.str xt tx)) (fun it s₂ => LoopAtV prog w A h₀ env x body Q NoE it s₂) NoE s := by
  refine wpAny_pyIter_ascii ha ?_
  have W := Walks.strAscii (prog := prog) (w := w) hh s.heap.objs.size xt tx
  refine loop_c (fp := [s.heap.objs.size]) Led ps stored Inv c₀ W ?_ (next_is_new F) (.head _) ?_ ?_ ⟨_, Heap.get?_push_size _ rfl, rfl, rfl⟩ (F.push _) (fun p hp => ⟨Heap.get?_push_of_some _ (N p hp).1, (N p hp).2⟩) (fun p hp e => absurd (Heap.lt_size (N p hp).1) (by rw [e]; exact Nat.lt_irrefl _)) hk h0 ?_ ?_
  · intro hq
    exact absurd F.ns.lt ((List.mem_singleton.mp hq) ▸ Nat.lt_irrefl _)
  · rintro i h ⟨o, e, _⟩
    exact ⟨o, e⟩
  · intro b hb
    exact .inl (List.mem_singleton.mp hb)
  · rintro i v c u h tk oI hi ⟨ch, t, hc, rfl⟩ hInv hne' F' N'
    exact turn i ch t c u h tk _ oI hi hc hInv hne' F' N'
  · exact done
end
end Mine
end
section
open PySem PySem.W PyProof.Rows PySem.Calls
namespace Mine
section
variable {prog : Program} {w : World} {A : Around} {R : Result → Shared → Prop} {s : Shared}
theorem comp_start {e : Expr} {d : Nat} {it acc : Value} {env : Env} {g : Comprehension} (hc : (clausesOf e)[d]? = some g) (ha : g.is_async = 0) (hfr : (Code.compStart e d it acc env).isFrame = false)
    (h0 : codeAny (model prog w) A (.compLoop e d it acc env) R s) (h : wpAny (model prog w) A (pyIter it) (fun it' s' => codeAny (model prog w) A (.compLoop e d it' acc env) R s') NoE s) (hw : (Code.compStart e d it acc env).weight = 0) (hu : (Code.compStart e d it acc env).cUnits = 0) (hq : (Code.compLoop e d it acc env).quiet = true) (hq2 : ∀ it', (Code.compLoop e d it' acc env).quiet = true) :
    codeAny (model prog w) A (.compStart e d it acc env) R s := by
  refine codeAny_of_tree ?_
  rw [Around.under_of_weight hw hu]
  show wpAny _ _ (if (Code.compStart e d it acc env).isFrame = true then (compStart e d it acc env).onRaise (leaving env) else (compStart e d it acc env).onRaise (fun x => do noteFrame x env; standAt theWindowsPlace)) _ _ s
  rw [hfr]
  simp only [Bool.false_eq_true, if_false]
  refine wpAny_notedAt (wpAny_noRaise ?_)
  unfold compStart
  rw [hc]
  simp only [Option.elim, ha]
  refine wpAny_bind (wpAny_askSetting (wpAny_ite ?_))
  split
  · first
      | exact wpAny_bind (wpAny_pure (wpAny_pure (And.intro hq h0)))
      | exact wpAny_pure (And.intro hq h0)
  · exact wpAny_bind (wpAny_rule (wpAny_bind (wpAny_standAt (wpAny_bind (wpAny_mono h (fun it' s' h' => wpAny_pure (And.intro (hq2 it') h')) fun _ _ x => x)))))
theorem turn_outer (elt t0 i0 t1 i1 : Expr) (scope : Scope) (pos : Pos) (it acc : Value) (env : Env) :
    compTurn (.ListComp elt [⟨t0, i0, [], 0⟩, ⟨t1, i1, [], 0⟩] scope pos) 0 it acc env = (standAt i0.pos >>= fun _ => pyNext it >>= fun r => match r with
      | none => pure (.done .next)
      | some v => letOwnedTupleGo t0 it v >>= fun _ => assign t0 env v >>= fun _ => eval i1 env >>= fun x => standAt i1.pos >>= fun _ => foldedSetIterable i1 env x >>= fun x => holding [x] (pyIter x) >>= fun it2 =>
        runOwn (.compStart (.ListComp elt [⟨t0, i0, [], 0⟩, ⟨t1, i1, [], 0⟩] scope pos) 1 it2 acc env) env >>= fun _ => again (.compLoop (.ListComp elt [⟨t0, i0, [], 0⟩, ⟨t1, i1, [], 0⟩] scope pos) 0 it acc env)) := by rfl
theorem turn_inner (elt t0 i0 t1 i1 : Expr) (scope : Scope) (pos : Pos) (it acc : Value) (env : Env) :
    compTurn (.ListComp elt [⟨t0, i0, [], 0⟩, ⟨t1, i1, [], 0⟩] scope pos) 1 it acc env = (standAt i1.pos >>= fun _ => pyNext it >>= fun r => match r with
      | none => pure (.done .next)
      | some v => letOwnedTupleGo t1 it v >>= fun _ => assign t1 env v >>= fun _ =>
        (eval elt env >>= fun x => call (.builtin "list.append") [acc, x] >>= fun _ => pure ()) >>= fun _ => again (.compLoop (.ListComp elt [⟨t0, i0, [], 0⟩, ⟨t1, i1, [], 0⟩] scope pos) 1 it acc env)) := by rfl
theorem comp_outer {elt t0 i0 t1 i1 : Expr} {scope : Scope} {pos : Pos} {it acc : Value} {env : Env} (I : Nat → Shared → Prop)
    (turn : ∀ n s, I n s → wpAny (model prog w) A (pyNext it) (fun r s₁ => match r with
      | none => R (.ok .next) s₁
      | some v => wpAny (model prog w) A (assign t0 env v) (fun _ s₂ => wpAny (model prog w) A (eval i1 env) (fun x s₃ => wpAny (model prog w) A (pyIter x) (fun it2 s₄ =>
          codeAny (model prog w) A (.compStart (.ListComp elt [⟨t0, i0, [], 0⟩, ⟨t1, i1, [], 0⟩] scope pos) 1 it2 acc env) (fun r s₅ => match r with | .ok _ => ∃ m, m < n ∧ I m s₅ | .error _ => False) s₄) NoE s₃) NoE s₂) NoE s₁) NoE s)
    (n : Nat) (h : I n s) (ht : ∀ v, letOwnedTupleGo t0 it v = pure ()) (hs : ∀ x, foldedSetIterable i1 env x = pure x) :
    codeAny (model prog w) A (.compLoop (.ListComp elt [⟨t0, i0, [], 0⟩, ⟨t1, i1, [], 0⟩] scope pos) 0 it acc env) R s := by
  refine codeAny_loop rfl I (fun n s hI => ?_) n h
  show wpAny _ A ((compTurn (.ListComp elt [⟨t0, i0, [], 0⟩, ⟨t1, i1, [], 0⟩] scope pos) 0 it acc env).onRaise (fun x => do noteFrame x env; theTreesLotGoes x)) _ _ s
  refine wpAny_noted (wpAny_noRaise ?_)
  rw [turn_outer]
  refine wpAny_bind (wpAny_standAt (wpAny_bind (wpAny_mono (turn n s hI) (fun r s₁ h₁ => ?_) fun _ _ h' => h')))
  cases r with
  | none => exact wpAny_pure h₁
  | some v =>
    refine wpAny_bind (wpAny_of_eq (ht v) ?_)
    refine wpAny_bind (wpAny_mono h₁ (fun _ s₂ h₂ => wpAny_bind (wpAny_mono h₂ (fun x s₃ h₃ => ?_) fun _ _ h' => h')) fun _ _ h' => h')
    refine wpAny_bind (wpAny_standAt (wpAny_bind (wpAny_of_eq (hs x) (wpAny_bind (wpAny_holding (wpAny_mono h₃ (fun it2 s₄ h₄ => ?_) fun _ _ h' => h'))))))
    refine wpAny_bind (wpAny_runOwn (codeAny_mono h₄ fun r s₅ h₅ => ?_))
    cases r with
    | ok f => exact wpAny_pure ⟨rfl, h₅⟩
    | error e => exact h₅.elim
theorem comp_inner {elt t0 i0 t1 i1 : Expr} {scope : Scope} {pos : Pos} {it acc : Value} {env : Env} (I : Nat → Shared → Prop)
    (turn : ∀ n s, I n s → wpAny (model prog w) A (pyNext it) (fun r s₁ => match r with
      | none => R (.ok .next) s₁
      | some v => wpAny (model prog w) A (assign t1 env v) (fun _ s₂ => wpAny (model prog w) A (eval elt env) (fun x s₃ =>
          wpAny (model prog w) A (call (.builtin "list.append") [acc, x]) (fun _ s₄ => ∃ m, m < n ∧ I m s₄) NoE s₃) NoE s₂) NoE s₁) NoE s)
    (n : Nat) (h : I n s) (ht : ∀ v, letOwnedTupleGo t1 it v = pure ()) :
    codeAny (model prog w) A (.compLoop (.ListComp elt [⟨t0, i0, [], 0⟩, ⟨t1, i1, [], 0⟩] scope pos) 1 it acc env) R s := by
  refine codeAny_loop rfl I (fun n s hI => ?_) n h
  show wpAny _ A ((compTurn (.ListComp elt [⟨t0, i0, [], 0⟩, ⟨t1, i1, [], 0⟩] scope pos) 1 it acc env).onRaise (fun x => do noteFrame x env; theTreesLotGoes x)) _ _ s
  refine wpAny_noted (wpAny_noRaise ?_)
  rw [turn_inner]
  refine wpAny_bind (wpAny_standAt (wpAny_bind (wpAny_mono (turn n s hI) (fun r s₁ h₁ => ?_) fun _ _ h' => h')))
  cases r with
  | none => exact wpAny_pure h₁
  | some v =>
    refine wpAny_bind (wpAny_of_eq (ht v) ?_)
    exact wpAny_bind (wpAny_mono h₁ (fun _ s₂ h₂ => wpAny_bind (wpAny_bind (wpAny_mono h₂ (fun x s₃ h₃ => wpAny_bind (wpAny_mono h₃
      (fun _ s₄ h₄ => wpAny_pure (wpAny_pure ⟨rfl, h₄⟩)) fun _ _ h' => h')) fun _ _ h' => h'))) fun _ _ h' => h')
end
end Mine
end
section
open PySem PySem.W PyProof.Rows PySem.Calls PyProof.Rows.LCg
namespace Mine
local macro_rules | `(tactic| omega) => `(tactic| lia)
def flatR (val : Nat → Int) (cnt : Nat → Nat) : Nat → List Int
  | 0 => []
  | n + 1 => flatR val cnt n ++ List.replicate (cnt n) (val n)
theorem flatR_le {val : Nat → Int} {cnt : Nat → Nat} : ∀ {i n : Nat}, i ≤ n → (flatR val cnt i).length ≤ (flatR val cnt n).length
  | i, 0, h => by obtain rfl : i = 0 := by omega
                  exact Nat.le_refl _
  | i, n + 1, h => by
    by_cases e : i = n + 1
    · rw [e]; exact Nat.le_refl _
    · have := flatR_le (val := val) (cnt := cnt) (i := i) (n := n) (by omega)
      simp only [flatR, List.length_append]; omega
section
variable {prog : Program} {w : World} {A : Around} {s : Shared} {h₀ : Heap} {L : Addr} {m : Str → Option Value} {env : Env}
def Rng2 (s : Shared) (h : Heap) (c : Nat) (xv : Value) (s' : Shared) : Prop := ∃ r t u v h' tk', xv = .ref r ∧ s' = { s with heap := h', toks := tk' } ∧ IsRange h' r 0 c 1 t u v ∧ (∀ b o, h.get? b = some o → h'.get? b = some o)
def InnerAt (prog : Program) (w : World) (A : Around) (h₀ : Heap) (L : Addr) (m : Str → Option Value) (env : Env) (i1 : Expr) (x0 : Str) (scope : Scope) (cl : List (Str × Addr)) (news : List (Addr × Obj)) (n : Nat) (cnt : Nat → Nat) (s : Shared) : Prop :=
  ∀ (i : Nat) (t : Tok) (C : Addr) (oC : Obj) (m₂ : Str → Option Value) (h : Heap) (tk : Nat), i < n → NsObj oC m₂ → m₂ x0 = some (.int i t) → Fr h₀ L h m → News h₀ L h ((C, oC) :: news) →
    wpAny (model prog w) A (eval i1 (compEnvC scope cl C env)) (Rng2 s h (cnt i)) NoE { s with heap := h, toks := tk }
theorem inner_loop {i0 i1 : Expr} {x0 x1 : Str} {p0 p1 pe : Pos} {scope : Scope} {cl : List (Str × Addr)} {pos : Pos} {news : List (Addr × Obj)} {I C D : Addr} {oI : Obj} {i c : Nat} {ti : Tok} {ys : List Value} {ks : List Int} {m' : Str → Option Value} {R : Result → Shared → Prop}
    (hh : A.handled = none) (hkind : scope.kind = .function) (hx0 : scope.names.lookup x0 = some .local) (hx1 : scope.names.lookup x1 = some .local) (h01 : x0 ≠ x1) (hdb : (x0 == ("__debug__" : Str)) = false)
    (hIL : I ≠ L) (hCL : C ≠ L) (hDL : D ≠ L) (hIC : I ≠ C) (hID : I ≠ D) (hCD : C ≠ D) (hI₀ : h₀.get? I = none) (hC₀ : h₀.get? C = none) (hD₀ : h₀.get? D = none) (offC : ∀ p ∈ news, p.1 ≠ C) (offD : ∀ p ∈ news, p.1 ≠ D)
    {r : Addr} {t u v : Tok} (hr : IsRange s.heap r 0 c 1 t u v) (hsm : Builtin.Range.small 0 (c : Int) 1 = true)
    (F : Fr h₀ L s.heap m) (hn : s.heap.Ns C m') (hm' : m' x0 = some (.int i ti)) (N : News h₀ L s.heap ((I, oI) :: (D, lst ys) :: news)) (hR : Rels IntR ys ks) (hz : ks.length + c ≤ 1000)
    (hend : ∀ h tk ys' m'', Fr h₀ L h m → h.Ns C m'' → News h₀ L h ((I, oI) :: (D, lst ys') :: news) → Rels IntR ys' (ks ++ List.replicate c (i : Int)) → R (.ok .next) { s with heap := h, toks := tk }) :
    wpAny (model prog w) A (pyIter (.ref r)) (fun it2 s₄ => codeAny (model prog w) A (.compStart (.ListComp (.Name x0 pe) [⟨.Name x0 p0, i0, [], 0⟩, ⟨.Name x1 p1, i1, [], 0⟩] scope pos) 1 it2 (.ref D) (compEnvC scope cl C env)) R s₄) NoE s := by
  refine wpAny_pyIter_range hr hsm ?_
  have hn1 : Builtin.Range.rangeSize 0 (c : Int) 1 = (c : Int) := by rw [rangeSize_nat]; omega
  rw [hn1]
  generalize hJ : s.heap.objs.size = J
  have hlt : ∀ b o, s.heap.get? b = some o → b ≠ J := fun b o e q => absurd (Heap.lt_size e) (by rw [q, ← hJ]; exact Nat.lt_irrefl _)
  have hCJ : C ≠ J := by obtain ⟨o, _, _, e, _⟩ := hn; exact hlt C o e
  have hLJ : L ≠ J := by obtain ⟨o, _, _, e, _⟩ := F.ns; exact hlt L o e
  have hDJ : D ≠ J := hlt D _ (N (D, lst ys) (.tail _ (.head _))).1
  have hIJ : I ≠ J := hlt I _ (N (I, oI) (.head _)).1
  have hJ₀ : h₀.get? J = none := by rw [← hJ]; exact next_is_new F
  have W := Walks.range (prog := prog) (w := w) hh J 0 1 c
  have loop : ∀ s₃ : Shared, s₃ = { s with heap := s.heap.push { cls := .type "range_iterator", data := .fields #[rawInt 0, rawInt (c : Int), rawInt 1] } } →
      codeAny (model prog w) A (.compLoop (.ListComp (.Name x0 pe) [⟨.Name x0 p0, i0, [], 0⟩, ⟨.Name x1 p1, i1, [], 0⟩] scope pos) 1 (.ref J) (.ref D) (compEnvC scope cl C env)) R s₃ := by
    rintro s₃ rfl
    refine comp_inner (fun k s' => ∃ h tk j ys' m'', s' = { s with heap := h, toks := tk } ∧ j ≤ c ∧ k = c + 1 - j ∧ IsRangeIter h J (0 + (j : Nat) * 1) ((c : Int) - (j : Nat)) 1 ∧ Fr h₀ L h m ∧ h.Ns C m'' ∧ m'' x0 = some (.int i ti) ∧ News h₀ L h ((I, oI) :: (D, lst ys') :: news) ∧ Rels IntR ys' (ks ++ List.replicate j (i : Int))) ?_ (c + 1)
      ⟨_, s.toks, 0, ys, m', rfl, Nat.zero_le _, rfl, ?_, F.push _, ?_, hm', fun p hp => ⟨Heap.get?_push_of_some _ (N p hp).1, (N p hp).2⟩, by simpa using hR⟩ (by intro _; rfl)
    · rintro k s' ⟨h, tk, j, ys', m'', rfl, hj, rfl, hit, F', hn', hm'', N', hR'⟩
      by_cases hlt' : j < c
      · refine W.item j _ _ _ hlt' hit fun v h₂ tk₂ hP hit₂ hk₂ => ?_
        obtain ⟨tv, rfl⟩ := hP
        have hkeep : ∀ b o, b ≠ J → h.get? b = some o → h₂.get? b = some o := fun b o hb e => hk₂ b o (by simpa using hb) e
        have F₂ : Fr h₀ L h₂ m := fr_but F' hk₂ hLJ hJ₀
        have N₂ : News h₀ L h₂ ((I, oI) :: (D, lst ys') :: news) := news_but N' hk₂ fun p hp => by
          rcases List.mem_cons.mp hp with rfl | hp
          · exact hIJ
          · rcases List.mem_cons.mp hp with rfl | hp
            · exact hDJ
            · exact hlt _ _ (N p (.tail _ (.tail _ hp))).1
        refine wpAny_assign_Name (wpAny_storeName_local (lookup_relabel_local hx1) (hn'.at' fun o e => hkeep _ o hCJ e) (fun h₃ hn₃ hs₃ => ?_) (by simp [compEnvC, relabel, hkind]))
        have F₃ : Fr h₀ L h₃ m := F₂.change hs₃ hCL hC₀
        have N₃ : News h₀ L h₃ ((I, oI) :: (D, lst ys') :: news) := fun p hp => ⟨hs₃.extBut _ _ (by
          rcases List.mem_cons.mp hp with rfl | hp
          · exact hIC
          · rcases List.mem_cons.mp hp with rfl | hp
            · exact Ne.symm hCD
            · exact offC p hp) (N₂ p hp).1, (N₂ p hp).2⟩
        have hm3 : (fun z => if z = x1 then some (Value.int (0 + (j : Int) * 1) tv) else m'' z) x0 = some (.int i ti) := by
          show (if x0 = x1 then _ else _) = _
          rw [if_neg h01]; exact hm''
        refine wpAny_Name (wpAny_loadName_local (by simp [compEnvC, relabel, hkind]) (lookup_relabel_local hx0) hn₃ hm3 ?_) hdb
        have hlen := hR'.length
        rw [List.length_append, List.length_replicate] at hlen
        refine PyProof.Rows.append_at (hsz := by rw [List.size_toArray]; exact Nat.le_trans (show ys'.length ≤ 1000 by omega) (by decide)) (N₃ (D, lst ys') (.tail _ (.head _))).1 fun h₅ hs₅ hD₅ => ?_
        refine ⟨c + 1 - (j + 1), by omega, h₅, _, j + 1, ys' ++ [.int i ti], _, rfl, hlt', rfl, ?_, F₃.change hs₅ hDL hD₀, hn₃.sameBut hs₅ hCD, hm3, fun p hp => ?_, ?_⟩
        · have e1 : h₅.get? J = h₂.get? J := by
            have := hit₂
            have q1 : h₃.get? J = some _ := hs₃.extBut _ _ (Ne.symm hCJ) hit₂
            exact (hs₅.extBut _ _ (Ne.symm hDJ) q1).trans hit₂.symm
          show h₅.get? J = some _
          rw [e1]; exact hit₂
        · rcases List.mem_cons.mp hp with rfl | hp
          · exact ⟨hs₅.extBut _ _ hID (N₃ _ (.head _)).1, (N₃ _ (.head _)).2⟩
          · rcases List.mem_cons.mp hp with rfl | hp
            · exact ⟨hD₅.trans (congrArg some (lst_snoc ys' _)), hDL, hD₀⟩
            · exact ⟨hs₅.extBut _ _ (offD p hp) (N₃ p (.tail _ (.tail _ hp))).1, (N₃ p (.tail _ (.tail _ hp))).2⟩
        · rw [List.replicate_succ', ← List.append_assoc]
          exact hR'.append (.cons ⟨_, rfl⟩ .nil)
      · obtain rfl : j = c := Nat.le_antisymm hj (Nat.not_lt.mp hlt')
        refine W.done _ _ _ hit fun h₂ tk₂ hk₂ => ?_
        exact hend h₂ tk₂ ys' m'' (fr_but F' hk₂ hLJ hJ₀) (hn'.at' fun o e => hk₂ _ o (by simpa using hCJ) e) (news_but N' hk₂ fun p hp => by
          rcases List.mem_cons.mp hp with rfl | hp
          · exact hIJ
          · rcases List.mem_cons.mp hp with rfl | hp
            · exact hDJ
            · exact hlt _ _ (N p (.tail _ (.tail _ hp))).1) hR'
    · show IsRangeIter _ _ _ _ _
      rw [← hJ]
      simpa using Heap.get?_push_size _ rfl
    · exact hn.push _
  refine comp_start (g := ⟨.Name x1 p1, i1, [], 0⟩) rfl rfl rfl (loop _ rfl) (W.self 0 _ _ _ (by show IsRangeIter _ _ _ _ _; rw [← hJ]; simpa using Heap.get?_push_size _ rfl) (loop _ rfl)) rfl rfl rfl (fun _ => rfl)
def Src2 (prog : Program) (w : World) (A : Around) (h₀ : Heap) (L : Addr) (m : Str → Option Value) (env : Env) (i1 : Expr) (x0 : Str) (scope : Scope) (cl : List (Str × Addr)) (n : Nat) (cnt : Nat → Nat) (y : Str) (Q : Flow → Shared → Prop) (xv : Value) (s₁ : Shared) : Prop :=
  ∃ r t u v news, xv = .ref r ∧ Fr h₀ L s₁.heap m ∧ News h₀ L s₁.heap news ∧ IsRange s₁.heap r 0 n 1 t u v ∧ InnerAt prog w A h₀ L m env i1 x0 scope cl news n cnt s₁ ∧
      ∀ D h tk ys, Rels IntR ys (flatR (fun i => (i : Int)) cnt n) → Fr h₀ L h (fun z => if z = y then some (.ref D) else m z) → News h₀ L h ((D, lst ys) :: news) → Off1 D news → Q .next { s₁ with heap := h, toks := tk }
theorem asg_comp2 {i0 i1 : Expr} {x0 x1 y : Str} {p0 p1 pe py : Pos} {scope : Scope} {cl : List (Str × Addr)} {pos spos : Pos} {Q : Flow → Shared → Prop} {n : Nat} {cnt : Nat → Nat} (F₀ : Fr h₀ L s.heap m) (hLe : env.locals = L)
    (hsw : swapsWith (.ListComp (.Name x0 pe) [⟨.Name x0 p0, i0, [], 0⟩, ⟨.Name x1 p1, i1, [], 0⟩] scope pos) (some (.Name y py)) spos.line env = pure true)
    (hclos : closureFor scope env = pure cl) (hcell : ∀ z ∈ scope.names, z.2 ≠ .cell) (hkind : scope.kind = .function)
    (hnames : ∀ z ∈ scope.names, z.2 = .local → scope.names.lookup z.1 = some .local) (hx0 : scope.names.lookup x0 = some .local) (hx1 : scope.names.lookup x1 = some .local) (h01 : x0 ≠ x1) (hdb : (x0 == ("__debug__" : Str)) = false)
    (hy : env.kindOf y = some .local) (hp : (env.scope.kind == .class || (env.scope.kind == .module && env.locals != env.globals)) = false) (hh : A.handled = none)
    (hz : (flatR (fun i => (i : Int)) cnt n).length ≤ 1000) (hn62 : n ≤ 1000)
    (h : wpAny (model prog w) A (eval i0 env) (Src2 prog w A h₀ L m env i1 x0 scope cl n cnt y Q) NoE s)
    (hs : ∀ x, foldedSetIterable i0 env x = pure x) (hs1 : ∀ C x, foldedSetIterable i1 (compEnvC scope cl C env) x = pure x) :
    wpAny (model prog w) A (exec (.Assign [.Name y py] (.ListComp (.Name x0 pe) [⟨.Name x0 p0, i0, [], 0⟩, ⟨.Name x1 p1, i1, [], 0⟩] scope pos) spos) env) Q NoE s := by
  subst hLe
  rw [exec_Assign_Name_used _ _ _ _ hsw]
  refine wpAny_bind (wpAny_standAt (wpAny_bind ?_))
  show wpAny _ A (do let _ ← comprehension (.ListComp (.Name x0 pe) [⟨.Name x0 p0, i0, [], 0⟩, ⟨.Name x1 p1, i1, [], 0⟩] scope pos) scope env _ (newList []) false (eval i0 env) (some (assign (.Name y py) env))) _ _ s
  refine wpAny_bind (wpAny_mono (wpAny_comprehension_free (use := some (assign (.Name y py) env)) (Q := fun _ s' => Q .next s') rfl hs hclos hkind hnames
    (wpAny_mono h (fun xv s₁ h₁ => ?_) fun _ _ e => e)) (fun _ s' hq => wpAny_pure (wpAny_pure hq)) fun _ _ e => e)
  obtain ⟨r, t, u, v, news, rfl, F, N, hr, hIn, hfin⟩ := h₁
  refine wpAny_pyIter_range hr (small_one (by decide) (by decide) (by omega) (by omega)) ?_
  have hn1 : Builtin.Range.rangeSize 0 (n : Int) 1 = (n : Int) := by rw [rangeSize_nat]; omega
  rw [hn1]
  generalize hII : s₁.heap.objs.size = I
  have hI₀ : h₀.get? I = none := by rw [← hII]; exact next_is_new F
  have hI1 : (s₁.heap.push { cls := .type "range_iterator", data := .fields #[rawInt 0, rawInt (n : Int), rawInt 1] }).get? I = some { cls := .type "range_iterator", data := .fields #[rawInt 0, rawInt (n : Int), rawInt 1] } := by rw [← hII]; exact Heap.get?_push_size _ rfl
  have hsz1 : (s₁.heap.push { cls := .type "range_iterator", data := .fields #[rawInt 0, rawInt (n : Int), rawInt 1] }).objs.size = I + 1 := by rw [Heap.size_push, hII]
  have F1 := F.push { cls := .type "range_iterator", data := .fields #[rawInt 0, rawInt (n : Int), rawInt 1] }
  have N1 : News h₀ env.locals (s₁.heap.push { cls := .type "range_iterator", data := .fields #[rawInt 0, rawInt (n : Int), rawInt 1] }) news := fun p hp => ⟨Heap.get?_push_of_some _ (N p hp).1, (N p hp).2⟩
  have hnI : ∀ p ∈ news, p.1 < I := fun p hp => by rw [← hII]; exact Heap.lt_size (N p hp).1
  have hLI : env.locals < I := by rw [← hII]; exact F.ns.lt
  generalize hH1 : s₁.heap.push { cls := .type "range_iterator", data := .fields #[rawInt 0, rawInt (n : Int), rawInt 1] } = H1 at *
  refine wpAny_newObj_type (wpAny_newFunctionEnv hcell (by intro y hy; simp at hy) (fun h₁ hns₁ hsb₁ => ?_) hkind)
  dsimp only at hns₁ hsb₁ ⊢
  generalize hH2 : H1.push { cls := .type "list", dict := none, data := .seq ([] : List Value).toArray } = H2 at hns₁ hsb₁ ⊢
  have hC : H2.objs.size = I + 1 + 1 := by rw [← hH2, Heap.size_push, hsz1]
  rw [hsz1]
  rw [hC] at hns₁ hsb₁ ⊢
  have old : ∀ b o, H1.get? b = some o → h₁.get? b = some o := fun b o e => hsb₁.extBut b o (Nat.ne_of_lt (Nat.lt_trans (Heap.lt_size e) (by rw [hsz1]; exact Nat.lt_succ_self _))) (Heap.get?_push_of_some _ (hH2 ▸ Heap.get?_push_of_some _ e))
  have hacc : h₁.get? (I + 1) = some (lst []) := hsb₁.extBut _ _ (Nat.ne_of_lt (Nat.lt_succ_self _)) (Heap.get?_push_of_some _ (hH2 ▸ (by rw [← hsz1]; exact Heap.get?_push_size _ rfl)))
  have fresh₀ : ∀ a : Nat, I ≤ a → h₀.get? a = none := fun a ha => Heap.get?_none_of_le (Nat.le_trans F.above (Nat.le_of_lt (Nat.lt_of_lt_of_le hLI ha)))
  have hC₀ := fresh₀ (I + 1 + 1) (by omega)
  have hD₀ := fresh₀ (I + 1) (by omega)
  have W := Walks.range (prog := prog) (w := w) hh I 0 1 n
  have kC : I + 1 + 1 ≠ env.locals := Nat.ne_of_gt (Nat.lt_of_lt_of_le hLI (Nat.le_trans (Nat.le_succ _) (Nat.le_succ _)))
  have kD : I + 1 ≠ env.locals := Nat.ne_of_gt (Nat.lt_of_lt_of_le hLI (Nat.le_succ _))
  have kIC : I ≠ I + 1 + 1 := by omega
  have kID : I ≠ I + 1 := by omega
  have kCD : I + 1 + 1 ≠ I + 1 := by omega
  have hnC : ∀ p ∈ news, p.1 ≠ I + 1 + 1 := fun p hp => Nat.ne_of_lt (Nat.lt_of_lt_of_le (hnI p hp) (Nat.le_trans (Nat.le_succ _) (Nat.le_succ _)))
  have hnD : ∀ p ∈ news, p.1 ≠ I + 1 := fun p hp => Nat.ne_of_lt (Nat.lt_of_lt_of_le (hnI p hp) (Nat.le_succ _))
  have hCI : (I + 1 + 1) ∉ [I] := fun hm => absurd (List.mem_singleton.mp hm) (Nat.ne_of_gt (by omega))
  have hE : ∀ i : Nat, (0 : Int) + (i : Int) * 1 = (i : Int) := fun i => by omega
  have loop : ∀ s₃ : Shared, s₃ = { s₁ with heap := h₁, toks := s₁.toks + ([] : List (Str × Value)).length } →
      codeAny (model prog w) A (.compLoop (.ListComp (.Name x0 pe) [⟨.Name x0 p0, i0, [], 0⟩, ⟨.Name x1 p1, i1, [], 0⟩] scope pos) 0 (.ref I) (.ref (I + 1)) (compEnvC scope cl (I + 1 + 1) env))
        (compPost (model prog w) A NoE (some (assign (.Name y py) env)) (fun _ s' => Q .next s') (.ref (I + 1)) (I + 1 + 1)) s₃ := by
    rintro s₃ rfl
    refine comp_outer (fun k s' => ∃ h tk i ys m', s' = { s₁ with heap := h, toks := tk } ∧ i ≤ n ∧ k = n + 1 - i ∧ IsRangeIter h I (0 + (i : Nat) * 1) ((n : Int) - (i : Nat)) 1 ∧ Fr h₀ env.locals h m ∧ h.Ns (I + 1 + 1) m' ∧ News h₀ env.locals h ((I + 1, lst ys) :: news) ∧ Rels IntR ys (flatR (fun i => (i : Int)) cnt i)) ?_ (n + 1)
      ⟨h₁, _, 0, [], _, rfl, Nat.zero_le _, rfl, ?_, F1.keeps old, hns₁, ?_, .nil⟩ (by intro _; rfl) (hs1 _)
    · rintro k s' ⟨h, tk, i, ys, m', rfl, hi, rfl, hit, F', hn', N', hR'⟩
      by_cases hlt : i < n
      · refine W.item i _ _ _ hlt hit fun v h₂ tk₂ hP hit₂ hk₂ => ?_
        obtain ⟨tv, rfl⟩ := hP
        rw [hE]
        have F₂ : Fr h₀ env.locals h₂ m := fr_but F' hk₂ (Nat.ne_of_lt hLI) hI₀
        have N₂ : News h₀ env.locals h₂ ((I + 1, lst ys) :: news) := news_but N' hk₂ fun p hp => by
          rcases List.mem_cons.mp hp with rfl | hp
          · exact Nat.ne_of_gt (Nat.lt_succ_self _)
          · exact Nat.ne_of_lt (hnI p hp)
        refine wpAny_assign_Name (wpAny_storeName_local (lookup_relabel_local hx0) (hn'.at' fun o e => hk₂ _ o hCI e) (fun h₃ hn₃ hs₃ => ?_) (by simp [compEnvC, relabel, hkind]))
        have hit₃ : h₃.get? I = h₂.get? I := (hs₃.extBut _ _ kIC hit₂).trans hit₂.symm
        have F₃ : Fr h₀ env.locals h₃ m := F₂.change hs₃ kC hC₀
        have N₃ : News h₀ env.locals h₃ ((I + 1, lst ys) :: news) := fun p hp => ⟨hs₃.extBut _ _ (by
          rcases List.mem_cons.mp hp with rfl | hp
          · exact Nat.ne_of_lt (Nat.lt_succ_self _)
          · exact hnC p hp) (N₂ p hp).1, (N₂ p hp).2⟩
        obtain ⟨oC, heC, hoC⟩ := ns_obj hn₃
        refine wpAny_mono (hIn i tv (I + 1 + 1) oC _ h₃ _ hlt hoC (by simp) F₃ (fun p hp => ?_)) (fun xv s' hx => ?_) fun _ _ e => e
        · rcases List.mem_cons.mp hp with rfl | hp
          · exact ⟨heC, kC, hC₀⟩
          · exact N₃ p (.tail _ hp)
        · obtain ⟨r2, t2, u2, v2, h₄, tk₄, rfl, rfl, hr2, hk4⟩ := hx
          have hfl := flatR_le (val := fun i => (i : Int)) (cnt := cnt) (i := i + 1) (n := n) hlt
          simp only [flatR, List.length_append, List.length_replicate] at hfl
          obtain ⟨oI, hoI⟩ : ∃ o, h₂.get? I = some o := ⟨_, hit₂⟩
          refine inner_loop (i := i) (ti := tv) (oI := oI) (I := I) (C := I + 1 + 1) (D := I + 1) hh hkind hx0 hx1 h01 hdb (Nat.ne_of_gt hLI) kC kD kIC kID kCD hI₀ hC₀ hD₀
            hnC hnD hr2 (small_one (by decide) (by decide) (by omega) (by omega)) (F₃.keeps hk4) (hn₃.at' fun o e => hk4 _ o e) (by simp) (fun p hp => ?_) hR' (by omega) ?_
          · rcases List.mem_cons.mp hp with rfl | hp
            · exact ⟨hk4 _ _ (hit₃.trans hoI), Nat.ne_of_gt hLI, hI₀⟩
            · exact ⟨hk4 _ _ (N₃ p hp).1, (N₃ p hp).2⟩
          · intro h₅ tk₅ ys' m'' F₅ hn₅ N₅ hR₅
            refine ⟨n + 1 - (i + 1), by omega, h₅, tk₅, i + 1, ys', m'', rfl, hlt, rfl, ?_, F₅, hn₅, fun p hp => N₅ p (.tail _ hp), hR₅⟩
            show h₅.get? I = some _
            rw [(N₅ _ (.head _)).1]
            exact hoI.symm.trans hit₂
      · obtain rfl : i = n := Nat.le_antisymm hi (Nat.not_lt.mp hlt)
        refine W.done _ _ _ hit fun h₂ tk₂ hk₂ => ?_
        have F₂ : Fr h₀ env.locals h₂ m := fr_but F' hk₂ (Nat.ne_of_lt hLI) hI₀
        have N₂ : News h₀ env.locals h₂ ((I + 1, lst ys) :: news) := news_but N' hk₂ fun p hp => by
          rcases List.mem_cons.mp hp with rfl | hp
          · exact Nat.ne_of_gt (Nat.lt_succ_self _)
          · exact Nat.ne_of_lt (hnI p hp)
        have hn2 : h₂.Ns (I + 1 + 1) m' := hn'.at' fun o e => hk₂ _ o hCI e
        show wpAny _ A (assign (.Name y py) env (.ref (I + 1))) _ _ _
        refine wpAny_assign_Name (wpAny_storeName_local hy F₂.ns (fun h₃ hn₃ hs₃ => ?_) hp)
        have hL₀ : h₀.get? env.locals = none := Heap.get?_none_of_le F₂.above
        have F₃ : Fr h₀ env.locals h₃ (fun z => if z = y then some (.ref (I + 1)) else m z) := ⟨hn₃, fun b o e => hs₃.extBut b o (fun q => by rw [q, hL₀] at e; cases e) (F₂.keep b o e), F₂.above⟩
        refine ⟨m', hn2.sameBut hs₃ kC, fun h'' hs'' => hfin (I + 1) h'' _ ys hR' (F₃.change hs'' kC hC₀) (fun p hp => ?_) ?_⟩
        · have z : h₃.get? p.1 = some p.2 := hs₃.extBut _ _ (N₂ p hp).2.1 (N₂ p hp).1
          refine ⟨hs''.extBut _ _ ?_ z, (N₂ p hp).2⟩
          rcases List.mem_cons.mp hp with rfl | hp
          · exact Nat.ne_of_lt (Nat.lt_succ_self _)
          · exact hnC p hp
        · exact (Off3.of (I := I + 1) (C := I + 1) (D := I + 1) fun p hp => ⟨Nat.ne_of_lt (Nat.lt_trans (hnI p hp) (Nat.lt_succ_self _)), Nat.ne_of_lt (Nat.lt_trans (hnI p hp) (Nat.lt_succ_self _)), Nat.ne_of_lt (Nat.lt_trans (hnI p hp) (Nat.lt_succ_self _))⟩).one
    · show h₁.get? I = some _
      simpa using old _ _ hI1
    · intro p hp
      rcases List.mem_cons.mp hp with rfl | hp
      · exact ⟨hacc, kD, hD₀⟩
      · exact ⟨old _ _ (N1 p hp).1, (N1 p hp).2⟩
  refine comp_start (g := ⟨.Name x0 p0, i0, [], 0⟩) rfl rfl rfl (loop _ rfl) (W.self 0 _ _ _ (by show h₁.get? I = some _; simpa using old _ _ hI1) (loop _ rfl)) rfl rfl rfl (fun _ => rfl)
end
end Mine
end
section
open PySem PySem.W PyProof.Rows PySem.Calls PyProof.Rows.LCg
namespace Mine
def RelI (Rel : Nat → Value → Prop) (n : Nat) (ys : List Value) : Prop := ys.length = n ∧ ∀ i, i < n → Rel i (ys.getD i .none)
theorem RelI.snoc {Rel : Nat → Value → Prop} {n : Nat} {ys : List Value} {y : Value} (h : RelI Rel n ys) (hy : Rel n y) : RelI Rel (n + 1) (ys ++ [y]) := by
  refine ⟨by rw [List.length_append, h.1]; rfl, fun i hi => ?_⟩
  by_cases e : i = n
  · subst e
    have : (ys ++ [y]).getD i .none = y := by
      rw [List.getD_eq_getElem?_getD, ← h.1, List.getElem?_append_right (Nat.le_refl _)]; simp
    rw [this]; exact hy
  · have hlt : i < ys.length := by rw [h.1]; omega
    have : (ys ++ [y]).getD i .none = ys.getD i .none := by
      rw [List.getD_eq_getElem?_getD, List.getElem?_append_left hlt, List.getD_eq_getElem?_getD]
    rw [this]; exact h.2 i (by omega)
section
variable {prog : Program} {w : World} {A : Around} {s : Shared} {h₀ : Heap} {L : Addr} {m : Str → Option Value} {env : Env}
def Elt1 (h₀ : Heap) (L : Addr) (m : Str → Option Value) (s : Shared) (led : List (Addr × Obj)) (Rel : Value → Prop) (y : Value) (s' : Shared) : Prop :=
  ∃ h' tk', s' = { s with heap := h', toks := tk' } ∧ Fr h₀ L h' m ∧ News h₀ L h' led ∧ Rel y
theorem elt1 {h' : Heap} {tk' : Nat} {led all : List (Addr × Obj)} {Rel : Value → Prop} {y : Value} (F : Fr h₀ L h' m) (N : News h₀ L h' all) (sub : ∀ p ∈ led, p ∈ all) (r : Rel y) : Elt1 h₀ L m s led Rel y { s with heap := h', toks := tk' } :=
  ⟨h', tk', rfl, F, fun p hp => N p (sub p hp), r⟩
def ElemAt (prog : Program) (w : World) (A : Around) (h₀ : Heap) (L : Addr) (m : Str → Option Value) (env : Env) (elt : Expr) (x : Str) (scope : Scope) (cl : List (Str × Addr)) (news : List (Addr × Obj)) (n : Nat) (P : Nat → Value → Prop) (Rel : Nat → Value → Prop) (s : Shared) : Prop :=
  ∀ (i : Nat) (v : Value) (I : Addr) (oI : Obj) (C : Addr) (oC : Obj) (D : Addr) (oD : Obj) (m₂ : Str → Option Value) (h : Heap) (tk : Nat), i < n → P i v → NsObj oC m₂ → m₂ x = some v → Fr h₀ L h m → News h₀ L h ((I, oI) :: (C, oC) :: (D, oD) :: news) → Off3 I C D news → ((@Ne Nat I C) ∧ (@Ne Nat I D) ∧ (@Ne Nat C D)) →
    wpAny (model prog w) A (eval elt (compEnvC scope cl C env)) (Elt1 h₀ L m { s with heap := h, toks := tk } ((I, oI) :: (C, oC) :: (D, oD) :: news) (Rel i)) NoE { s with heap := h, toks := tk }
theorem comp_rest {elt : Expr} {x : Str} {scope : Scope} {cl : List (Str × Addr)} {S : List (Addr × Obj) → Prop} {P : Nat → Value → Prop} {Rel : Nat → Value → Prop} {Fin : List Value → List (Addr × Obj) → Prop} {news : List (Addr × Obj)} {n : Nat}
    (hE : ElemAt prog w A h₀ L m env elt x scope cl news n P Rel s) (hS : S news) (hF : ∀ ys, RelI Rel n ys → Fin ys news) :
    ∀ k i ys, i + k = n → RelI Rel i ys → CompRest prog w A h₀ L m env elt x scope cl s S P Fin k i ys news
  | 0, i, ys, e, hr => by
    have e' : i = n := by omega
    exact hF ys (e' ▸ hr)
  | k + 1, i, ys, e, hr => by
    refine CompRest.succ fun v I oI C oC D m₂ h tk E' hP hoC hm2 F N off ne => ?_
    refine wpAny_noRaise (wpAny_mono (hE i v I oI C oC D (lst ys) m₂ h tk (by omega) hP hoC hm2 F N off ne) (fun y s' hy => ?_) fun _ _ x => x)
    obtain ⟨h', tk', rfl, F', N', hy⟩ := hy
    exact CompEnd.intro F' N' news (fun p hp => hp) off hS (comp_rest hE hS hF k (i + 1) (ys ++ [y]) (by omega) (hr.snoc hy))
def Src1L (prog : Program) (w : World) (A : Around) (h₀ : Heap) (L : Addr) (m : Str → Option Value) (env : Env) (elt : Expr) (x : Str) (scope : Scope) (cl : List (Str × Addr)) (Rel : Nat → Value → Prop) (Q : Value → Shared → Prop) (xv : Value) (s₁ : Shared) : Prop :=
  ∃ (ax : Addr) (its : List Value) (nn : Nat) (news : List (Addr × Obj)), xv = .ref ax ∧ Fr h₀ L s₁.heap m ∧ News h₀ L s₁.heap news ∧ (ax, listOf its.toArray nn) ∈ news ∧ its.length ≤ 1000 ∧ (∀ g, ElemAt prog w A h₀ L m env elt x scope cl news its.length (fun i v => its[i]? = some v) Rel { s₁ with heap := g }) ∧
    ∀ D h tk ys, RelI Rel its.length ys → Fr h₀ L h m → News h₀ L h ((D, lst ys) :: news) → Off1 D news → Q (.ref D) { s₁ with heap := h, toks := tk }
theorem comp1_list {elt iter : Expr} {x : Str} {px : Pos} {scope : Scope} {cl : List (Str × Addr)} {pos : Pos} {Q : Value → Shared → Prop} (Rel : Nat → Value → Prop) (F₀ : Fr h₀ L s.heap m)
    (hclos : closureFor scope env = pure cl) (hcell : ∀ y ∈ scope.names, y.2 ≠ .cell) (hkind : scope.kind = .function)
    (hnames : ∀ y ∈ scope.names, y.2 = .local → scope.names.lookup y.1 = some .local) (hx : scope.names.lookup x = some .local) (hh : A.handled = none)
    (h : wpAny (model prog w) A (eval iter env) (Src1L prog w A h₀ L m env elt x scope cl Rel Q) NoE s)
    (hs : ∀ x, foldedSetIterable iter env x = pure x) :
    wpAny (model prog w) A (eval (.ListComp elt [⟨.Name x px, iter, [], 0⟩] scope pos) env) Q NoE s := by
  refine ListComp_U F₀ hclos hcell hkind hnames hx (wpAny_mono h (fun xv s₁ hsrc => ?_) fun _ _ e => e) hs
  obtain ⟨ax, its, nn, news, rfl, F, N, hm, hsz, hE, hfin⟩ := hsrc
  refine CompSrc.ledger (its := its.toArray) hh F N hm (by rw [List.size_toArray]; exact Nat.le_trans hsz (by decide)) fun g => ?_
  have hsz' : its.toArray.size = its.length := List.size_toArray
  rw [hsz']
  refine comp_rest (n := its.length) (Rel := Rel) ?_ (.inr ⟨_, hm, rfl, _, rfl⟩) (fun ys hr D h tk F' N' o1 => hfin D h tk ys hr F' N' o1) its.length 0 [] (by omega) ⟨rfl, fun i hi => absurd hi (Nat.not_lt_zero _)⟩
  intro i v I oI C oC D oD m₂ h tk hi hP
  exact hE g i v I oI C oC D oD m₂ h tk hi (by simpa using hP)
def Src1R (prog : Program) (w : World) (A : Around) (h₀ : Heap) (L : Addr) (m : Str → Option Value) (env : Env) (elt : Expr) (x : Str) (scope : Scope) (cl : List (Str × Addr)) (Rel : Nat → Value → Prop) (Q : Value → Shared → Prop) (xv : Value) (s₁ : Shared) : Prop :=
  ∃ r a b t u v n news, xv = .ref r ∧ Fr h₀ L s₁.heap m ∧ News h₀ L s₁.heap news ∧ IsRange s₁.heap r a b 1 t u v ∧ Builtin.Range.small a b 1 = true ∧ Builtin.Range.rangeSize a b 1 = ((n : Nat) : Int) ∧ n ≤ 1000 ∧ (∀ g, ElemAt prog w A h₀ L m env elt x scope cl news n (fun i v => ∃ t, v = .int (a + (i : Int)) t) Rel { s₁ with heap := g }) ∧
    ∀ D h tk ys, RelI Rel n ys → Fr h₀ L h m → News h₀ L h ((D, lst ys) :: news) → Off1 D news → Q (.ref D) { s₁ with heap := h, toks := tk }
theorem comp1_range {elt iter : Expr} {x : Str} {px : Pos} {scope : Scope} {cl : List (Str × Addr)} {pos : Pos} {Q : Value → Shared → Prop} (Rel : Nat → Value → Prop) (F₀ : Fr h₀ L s.heap m)
    (hclos : closureFor scope env = pure cl) (hcell : ∀ y ∈ scope.names, y.2 ≠ .cell) (hkind : scope.kind = .function)
    (hnames : ∀ y ∈ scope.names, y.2 = .local → scope.names.lookup y.1 = some .local) (hx : scope.names.lookup x = some .local) (hh : A.handled = none)
    (h : wpAny (model prog w) A (eval iter env) (Src1R prog w A h₀ L m env elt x scope cl Rel Q) NoE s)
    (hs : ∀ x, foldedSetIterable iter env x = pure x) :
    wpAny (model prog w) A (eval (.ListComp elt [⟨.Name x px, iter, [], 0⟩] scope pos) env) Q NoE s := by
  refine ListComp_U F₀ hclos hcell hkind hnames hx (wpAny_mono h (fun xv s₁ hsrc => ?_) fun _ _ e => e) hs
  obtain ⟨r, a, b, t, u, v, n, news, rfl, F, N, hr, hsm, hn, hsz, hE, hfin⟩ := hsrc
  refine CompSrc.range hh F N hr hsm hn (Nat.le_trans hsz (by decide)) fun g => ?_
  exact comp_rest (n := n) (Rel := Rel) (hE g) trivial (fun ys hr D h tk F' N' o1 => hfin D h tk ys hr F' N' o1) n 0 [] (by omega) ⟨rfl, fun i hi => absurd hi (Nat.not_lt_zero _)⟩
end
end Mine
end
section
open PySem PySem.W PyProof.Rows PySem.Calls
namespace Mine
theorem str_append (a b : Str) : (a ++ b).cps.toList = a.cps.toList ++ b.cps.toList := by
  show (a.cps ++ b.cps).toList = _
  simp
theorem join_cps (sep : Str) (hs : sep.cps.toList = []) : ∀ ys : List Str, (Str.join sep ys).cps.toList = ys.flatMap (·.cps.toList)
  | [] => rfl
  | [x] => by simp [Str.join]
  | x :: y :: r => by
    show (x ++ sep ++ Str.join sep (y :: r)).cps.toList = _
    rw [str_append, str_append, hs, join_cps sep hs (y :: r)]
    simp
theorem txt_join (sep : Str) (ys : List Str) : Txt.join sep ys = Str.join sep ys := eq_of_beq (join_closes rfl)
theorem foldl_cps (k : Nat) (x : Array Nat) : ∀ a : Array Nat, ((List.replicate k x).foldl (· ++ ·) a).toList = a.toList ++ (List.replicate k x.toList).flatten := by
  induction k with
  | zero => intro a; simp
  | succ k ih => intro a; rw [List.replicate_succ, List.foldl_cons, ih, List.replicate_succ]; simp
theorem mul_cps (k : Nat) : (Txt.mul (Str.ofString " ") (k : Int)).cps.toList = List.replicate k 32 := by
  rw [sp_eq]
  unfold Txt.mul
  rcases Nat.eq_zero_or_pos k with rfl | hk
  · rfl
  · rw [if_neg (by omega)]
    by_cases h1 : k = 1
    · subst h1; rfl
    · rw [if_neg (by simp [Str.length]; omega)]
      show ((List.replicate (k : Int).toNat #[32]).foldl (· ++ ·) #[]).toList = _
      rw [foldl_cps, Int.toNat_natCast]
      have : ∀ n : Nat, (List.replicate n [32]).flatten = List.replicate n 32 := by
        intro n
        induction n with
        | zero => rfl
        | succ n ih => rw [List.replicate_succ, List.flatten_cons, ih, List.replicate_succ]; rfl
      simpa using this k
end Mine
end
section
open PySem PySem.W PyProof.Rows PySem.Calls
namespace Mine
local macro_rules | `(tactic| omega) => `(tactic| lia)
def partsOf (ks : List Int) : List Int := flatR (fun i => (i : Int)) (fun i => (ks.getD i 0).toNat) ks.length
def leadRot (ks : List Int) (tv : Int) : List Int :=
  (partsOf ks).drop (tv % ((partsOf ks).length : Int)).toNat ++ (partsOf ks).take (tv % ((partsOf ks).length : Int)).toNat
theorem flatR_mem {cnt : Nat → Nat} : ∀ {n : Nat} {x : Int}, x ∈ flatR (fun i => (i : Int)) cnt n → 0 ≤ x ∧ x < n
  | 0, x, h => by cases h
  | n + 1, x, h => by
    rcases List.mem_append.mp h with h | h
    · have h1 := flatR_mem h
      exact ⟨h1.1, by have := h1.2; omega⟩
    · have h1 : x = (n : Int) := List.eq_of_mem_replicate h
      omega
theorem flatR_count {cnt : Nat → Nat} (i : Nat) : ∀ n, (flatR (fun i => (i : Int)) cnt n).count (i : Int) = if i < n then cnt i else 0
  | 0 => by simp [flatR]
  | n + 1 => by
    simp only [flatR, List.count_append, flatR_count i n]
    by_cases h : i = n
    · subst h
      rw [List.count_replicate_self]; simp
    · have h2 : List.count (i : Int) (List.replicate (cnt n) (n : Int)) = 0 := by
        rw [List.count_replicate]
        have : ¬ ((n : Int) == (i : Int)) = true := by simp; omega
        rw [if_neg this]
      rw [h2]
      by_cases h3 : i < n
      · rw [if_pos h3, if_pos (by omega)]; rfl
      · rw [if_neg h3, if_neg (by omega)]
theorem getD_set (c : List Int) (b i : Nat) (v : Int) (h : b < c.length) : (c.set b v).getD i 0 = if i = b then v else c.getD i 0 := by
  rw [List.getD_eq_getElem?_getD, List.getElem?_set]
  by_cases e : b = i
  · subst e; simp [h]
  · rw [if_neg e, if_neg (fun q => e q.symm), List.getD_eq_getElem?_getD]
theorem getD_pad (c : List Int) (k i : Nat) : (c ++ List.replicate k 0).getD i 0 = c.getD i 0 := by
  rw [List.getD_eq_getElem?_getD, List.getD_eq_getElem?_getD]
  by_cases h : i < c.length
  · rw [List.getElem?_append_left h]
  · rw [List.getElem?_append_right (by omega), List.getElem?_replicate, List.getElem?_eq_none (by omega)]
    split <;> rfl
theorem wsTab_getD (c : List Int) (b i : Nat) : (wsTab c b).getD i 0 = c.getD i 0 + if i = b then 1 else 0 := by
  unfold wsTab
  split
  · rw [getD_set _ _ _ _ (by rw [List.length_append, List.length_replicate]; omega), getD_pad, getD_pad]
    split
    · next h => rw [h]
    · simp
  · rw [getD_set _ _ _ _ (by omega)]
    split
    · next h => rw [h]
    · simp
theorem wsRun_sp (k : Nat) : ∀ (r : List Nat) (c : List Int) (b n nt : Nat), wsRun (List.replicate k 32 ++ r) c b n nt = wsRun r c (b + k) (n + k) nt := by
  induction k with
  | zero => intro r c b n nt; rfl
  | succ k ih =>
    intro r c b n nt
    rw [List.replicate_succ, List.cons_append, wsRun, if_pos rfl, ih]
    congr 1 <;> omega
theorem wsRun_tabs (tl : List Nat) : ∀ (rot : List Int) (c : List Int) (n nt : Nat), ∃ n', wsRun (rot.flatMap (fun (j : Int) => List.replicate j.toNat 32 ++ [9]) ++ 120 :: tl) c 0 n nt = (rot.foldl (fun c j => wsTab c j.toNat) c, 0, n', nt + rot.length)
  | [], c, n, nt => ⟨n, by simp [wsRun]⟩
  | j :: r, c, n, nt => by
    obtain ⟨n', e⟩ := wsRun_tabs tl r (wsTab c j.toNat) (n + j.toNat + 1) (nt + 1)
    refine ⟨n', ?_⟩
    rw [List.flatMap_cons, List.append_assoc, List.append_assoc, wsRun_sp]
    show wsRun (9 :: (List.flatMap (fun (j : Int) => List.replicate j.toNat 32 ++ [9]) r ++ 120 :: tl)) c (0 + j.toNat) (n + j.toNat) nt = _
    rw [wsRun, if_neg (by decide), if_pos rfl, Nat.zero_add, e, List.foldl_cons, List.length_cons]
    congr 3; omega
theorem tabs_getD (i : Nat) : ∀ (rot : List Int) (c : List Int), (∀ x ∈ rot, 0 ≤ x) → (rot.foldl (fun c j => wsTab c j.toNat) c).getD i 0 = c.getD i 0 + ((rot.count (i : Int) : Nat) : Int)
  | [], c, _ => by simp
  | j :: r, c, h => by
    have hj := h j (.head _)
    rw [List.foldl_cons, tabs_getD i r _ fun x hx => h x (.tail _ hx), wsTab_getD, List.count_cons]
    by_cases e : i = j.toNat
    · have : (j == (i : Int)) = true := by simp; omega
      rw [if_pos e, if_pos this]; push_cast; omega
    · have : ¬ (j == (i : Int)) = true := by simp; omega
      rw [if_neg e, if_neg this]; push_cast; omega
theorem tabs_len_le (M : Nat) : ∀ (rot : List Int) (c : List Int), c.length ≤ M → (∀ x ∈ rot, 0 ≤ x ∧ x < M) → (rot.foldl (fun c j => wsTab c j.toNat) c).length ≤ M
  | [], c, h, _ => h
  | j :: r, c, h, hr => by
    have hj := hr j (.head _)
    rw [List.foldl_cons]
    exact tabs_len_le M r _ (by rw [wsTab_length]; omega) fun x hx => hr x (.tail _ hx)
theorem tabs_len_mono : ∀ (rot : List Int) (c : List Int), c.length ≤ (rot.foldl (fun c j => wsTab c j.toNat) c).length
  | [], c => Nat.le_refl _
  | j :: r, c => by
    rw [List.foldl_cons]
    have h1 := tabs_len_mono r (wsTab c j.toNat)
    rw [wsTab_length] at h1; omega
theorem tabs_len_ge (x : Int) : ∀ (rot : List Int) (c : List Int), x ∈ rot → x.toNat + 1 ≤ (rot.foldl (fun c j => wsTab c j.toNat) c).length
  | j :: r, c, h => by
    rw [List.foldl_cons]
    rcases List.mem_cons.mp h with rfl | h
    · have h1 := tabs_len_mono r (wsTab c x.toNat)
      rw [wsTab_length] at h1; omega
    · exact tabs_len_ge x r _ h
def okC (ks : List Int) : Bool := ks.all (fun d => decide (0 ≤ d)) && decide (0 < ks.getD (ks.length - 1) 0) && decide (ks.length < 20) && decide (0 < ks.length)
theorem okC_pos {ks : List Int} (h : okC ks = true) (i : Nat) : 0 ≤ ks.getD i 0 := by
  unfold okC at h
  simp only [Bool.and_eq_true, List.all_eq_true, decide_eq_true_eq] at h
  rw [List.getD_eq_getElem?_getD]
  by_cases hi : i < ks.length
  · rw [List.getElem?_eq_getElem hi]; exact h.1.1.1 _ (List.getElem_mem _)
  · rw [List.getElem?_eq_none (by omega)]; exact Int.le_refl _
theorem okC_len {ks : List Int} (h : okC ks = true) : 0 < ks.length ∧ ks.length < 20 ∧ 0 < ks.getD (ks.length - 1) 0 := by
  unfold okC at h
  simp only [Bool.and_eq_true, List.all_eq_true, decide_eq_true_eq] at h
  exact ⟨h.2, h.1.2, h.1.1.2⟩
theorem rot_perm (ks : List Int) (tv : Int) : (leadRot ks tv).Perm (partsOf ks) := by
  unfold leadRot
  have h := List.perm_append_comm (l₁ := (partsOf ks).drop (tv % ((partsOf ks).length : Int)).toNat) (l₂ := (partsOf ks).take (tv % ((partsOf ks).length : Int)).toNat)
  rw [List.take_append_drop] at h
  exact h
theorem ws_lead {ks : List Int} (h : okC ks = true) (tv : Int) : ∃ n', wsRun ((leadRot ks tv).flatMap (fun (j : Int) => List.replicate j.toNat 32 ++ [9]) ++ [120, 9, 32]) [] 0 0 0 = (ks, 0, n', (partsOf ks).length) := by
  obtain ⟨n', e⟩ := wsRun_tabs [9, 32] (leadRot ks tv) [] 0 0
  refine ⟨n', ?_⟩
  have hp := rot_perm ks tv
  have hl := okC_len h
  have hm : ∀ x ∈ leadRot ks tv, 0 ≤ x ∧ x < (ks.length : Int) := fun x hx => flatR_mem (hp.mem_iff.mp hx)
  rw [e, hp.length_eq, Nat.zero_add]
  congr 1
  apply List.ext_getElem?
  intro i
  have hlen : ((leadRot ks tv).foldl (fun c j => wsTab c j.toNat) []).length = ks.length := by
    apply Nat.le_antisymm
    · exact tabs_len_le ks.length _ [] (Nat.zero_le _) hm
    · have hin : ((ks.length - 1 : Nat) : Int) ∈ leadRot ks tv := by
        rw [hp.mem_iff]
        have hc := flatR_count (cnt := fun i => (ks.getD i 0).toNat) (ks.length - 1) ks.length
        rw [if_pos (by omega)] at hc
        exact List.count_pos_iff.mp (by unfold partsOf; omega)
      have := tabs_len_ge _ _ [] hin
      omega
  by_cases hi : i < ks.length
  · have hg := tabs_getD i (leadRot ks tv) [] fun x hx => (hm x hx).1
    rw [hp.count_eq, show partsOf ks = flatR _ _ _ from rfl, flatR_count, if_pos hi] at hg
    have hz := okC_pos h i
    have e2 : ((leadRot ks tv).foldl (fun c j => wsTab c j.toNat) []).getD i 0 = ks.getD i 0 := by
      rw [hg]; simp only [List.getD_nil]; omega
    rw [List.getD_eq_getElem?_getD, List.getD_eq_getElem?_getD, List.getElem?_eq_getElem hi, List.getElem?_eq_getElem (by omega)] at e2
    rw [List.getElem?_eq_getElem hi, List.getElem?_eq_getElem (by omega)]
    simpa using e2
  · rw [List.getElem?_eq_none (by omega), List.getElem?_eq_none (by omega)]
theorem lead_len (ks : List Int) (tv : Int) : ((leadRot ks tv).flatMap (fun (j : Int) => List.replicate j.toNat 32 ++ [9]) ++ [120, 9, 32]).length = ((partsOf ks).map fun j => j.toNat + 1).sum + 3 := by
  have h1 : ∀ r : List Int, (r.flatMap (fun (j : Int) => List.replicate j.toNat 32 ++ [9])).length = (r.map fun j => j.toNat + 1).sum := by
    intro r
    induction r with
    | nil => rfl
    | cons j r ih => rw [List.flatMap_cons, List.length_append, ih, List.map_cons, List.sum_cons, List.length_append, List.length_replicate]; rfl
  rw [List.length_append, h1, ((rot_perm ks tv).map _).sum_nat]
  rfl
theorem lead_ascii (r : List Int) : (r.flatMap (fun (j : Int) => List.replicate j.toNat 32 ++ [9]) ++ [120, 9, 32]).all (· < 128) = true := by
  rw [List.all_eq_true]
  intro x hx
  rcases List.mem_append.mp hx with hx | hx
  · obtain ⟨j, _, hj⟩ := List.mem_flatMap.mp hx
    rcases List.mem_append.mp hj with hj | hj
    · rw [List.eq_of_mem_replicate hj]; rfl
    · rw [List.mem_singleton.mp hj]; rfl
  · simp only [List.mem_cons, List.not_mem_nil, or_false] at hx
    rcases hx with rfl | rfl | rfl <;> rfl
end Mine
end
section
open PySem PySem.W PyProof.Rows PySem.Calls
namespace Mine
section
variable {prog : Program} {w : World} {A : Around} {E : Value → Shared → Prop} {s : Shared} {h₀ : Heap} {L : Addr} {m : Str → Option Value} {news : List (Addr × Obj)} {l : Addr} {its : List Value} {n : Nat} {k : Int} {u : Tok}
theorem cat_script {b : Addr} {its2 : List Value} {n2 : Nat} {ks ks2 : List Int} {Q : Value → Shared → Prop} (F : Fr h₀ L s.heap m) (N : News h₀ L s.heap news) (hl : s.heap.IsList l its.toArray) (hm2 : (b, listOf its2.toArray n2) ∈ news) (hR : Rels IntR its ks) (hR2 : Rels IntR its2 ks2) (hz : ks.length + ks2.length ≤ 2 ^ 20)
    (h : ∀ l' its' h', Rels IntR its' (ks ++ ks2) → Fr h₀ L h' m → News h₀ L h' ((l', listOf its'.toArray 0) :: news) → (∀ p ∈ news, p.1 < l') → Q (.ref l') { s with heap := h' }) : wpAny (model prog w) A (binaryOp .Add (.ref l) (.ref b)) Q E s :=
  add_lists (hsz := by rw [hR.length, hR2.length]; exact Nat.le_trans hz (by decide)) F N hl ⟨_, (N _ hm2).1, rfl, n2, rfl⟩ fun h' F' N' => h _ _ h' (hR.append hR2) F' N' fun p hp => Heap.lt_size (N p hp).1
theorem ne_lists_at {a b : Addr} {xs ys : List Value} {na nb : Nat} {ks ms : List Int} {Q : Value → Shared → Prop} (N : News h₀ L s.heap news) (ha : (a, listOf xs.toArray na) ∈ news) (hb : (b, listOf ys.toArray nb) ∈ news) (hR : Rels IntR xs ks) (hS : Rels IntR ys ms) (hu : A.units + 64 < cLine)
    (h : Q (.bool (!decide (ks = ms))) s) : wpAny (model prog w) A (compareOp .NotEq (.ref a) (.ref b)) Q E s :=
  ke_ne_ints (isL N ha) (isL N hb) (rels_ints hR) (rels_ints hS) hu h
theorem eq_lists_at {a b : Addr} {xs ys : List Value} {na nb : Nat} {ks ms : List Int} {Q : Value → Shared → Prop} (N : News h₀ L s.heap news) (ha : (a, listOf xs.toArray na) ∈ news) (hb : (b, listOf ys.toArray nb) ∈ news) (hR : Rels IntR xs ks) (hS : Rels IntR ys ms) (hu : A.units + 64 < cLine)
    (h : Q (.bool (decide (ks = ms))) s) : wpAny (model prog w) A (compareOp .Eq (.ref a) (.ref b)) Q E s :=
  ke_eq_ints (isL N ha) (isL N hb) (rels_ints hR) (rels_ints hS) hu h
theorem news_one3 {h : Heap} {x y : Addr × Obj} {a : Int} {t : Tok} {nq : Nat} {rest : List (Addr × Obj)} (N : News h₀ L h (x :: y :: (l, listOf [.int a t].toArray nq) :: rest)) : ∃ its1, Rels IntR its1 [a] ∧ News h₀ L h (x :: y :: (l, listOf its1.toArray nq) :: rest) := ⟨_, .cons ⟨_, rfl⟩ .nil, N⟩
theorem news_sub {h : Heap} {a b : List (Addr × Obj)} (N : News h₀ L h a) (sub : ∀ p ∈ b, p ∈ a) : News h₀ L h b := fun p hp => N p (sub p hp)
theorem dj_one {k : Nat} {o : Obj} {l : List (Addr × Obj)} (h : @List.Nodup Nat (k :: l.map (·.1))) : Dj [(k, o)] l := by
  intro q hq p hp
  rw [List.mem_singleton.mp hq]
  intro e
  rw [List.nodup_cons] at h
  exact h.1 (List.mem_map.mpr ⟨p, hp, e.symm⟩)
theorem relI_ints {f : Nat → Int} : ∀ {n : Nat} {ys : List Value}, RelI (fun i y => ∃ t, y = Value.int (f i) t) n ys → Rels IntR ys ((List.range n).map f)
  | 0, ys, h => by rw [List.eq_nil_of_length_eq_zero h.1]; exact .nil
  | n + 1, ys, h => by
    have hne : ys ≠ [] := by intro e; rw [e] at h; exact absurd h.1 (by simp)
    have hl : ys.dropLast.length = n := by rw [List.length_dropLast, h.1]; rfl
    have e := List.dropLast_concat_getLast hne
    rw [← e, List.range_succ, List.map_append]
    refine (relI_ints (n := n) ⟨hl, fun i hi => ?_⟩).append (.cons ?_ .nil)
    · obtain ⟨t, q⟩ := h.2 i (by omega)
      refine ⟨t, ?_⟩
      rw [← q, List.getD_eq_getElem?_getD, List.getD_eq_getElem?_getD, List.getElem?_dropLast, if_pos (by rw [h.1]; omega)]
    · obtain ⟨t, q⟩ := h.2 n (by omega)
      refine ⟨t, ?_⟩
      rw [← q, List.getLast_eq_getElem, List.getD_eq_getElem?_getD, List.getElem?_eq_getElem (by rw [h.1]; omega)]
      have hn1 : ys.length - 1 = n := by rw [h.1]; rfl
      simp [hn1]
theorem mod_nat (x : Int) (k : Nat) (h : 0 < k) : ∃ a : Nat, a < k ∧ x % (k : Int) = (a : Int) := by
  have h1 := Int.emod_nonneg x (b := (k : Int)) (by omega)
  have h2 := Int.emod_lt_of_pos x (b := (k : Int)) (by omega)
  exact ⟨(x % (k : Int)).toNat, by omega, by omega⟩
def Nd (news : List (Addr × Obj)) : Prop := (news.map (·.1)).Nodup
theorem Nd.cons {a : Addr} {o : Obj} {news : List (Addr × Obj)} (h : Nd news) (hn : ∀ p ∈ news, p.1 ≠ a) : Nd ((a, o) :: news) := by
  unfold Nd at *
  rw [List.map_cons, List.nodup_cons]
  refine ⟨fun hm => ?_, h⟩
  obtain ⟨p, hp, e⟩ := List.mem_map.mp hm
  exact hn p hp e
theorem Nd.head {a : Addr} {o : Obj} {news : List (Addr × Obj)} (h : Nd ((a, o) :: news)) : ∀ p ∈ news, p.1 ≠ a := by
  unfold Nd at *
  rw [List.map_cons, List.nodup_cons] at h
  intro p hp e
  exact h.1 (List.mem_map.mpr ⟨p, hp, e⟩)
theorem Nd.tail {x : Addr × Obj} {news : List (Addr × Obj)} (h : Nd (x :: news)) : Nd news := by
  unfold Nd at *
  rw [List.map_cons, List.nodup_cons] at h
  exact h.2
theorem Nd.perm {a b : List (Addr × Obj)} (h : Nd a) (p : a.Perm b) : Nd b := (p.map _).nodup_iff.mp h
theorem Nd.dj {a b : List (Addr × Obj)} (h : Nd (a ++ b)) : Dj a b := by
  unfold Nd at h
  rw [List.map_append, List.nodup_append] at h
  intro q hq p hp e
  exact h.2.2 q.1 (List.mem_map.mpr ⟨q, hq, rfl⟩) p.1 (List.mem_map.mpr ⟨p, hp, rfl⟩) e
theorem Nd.app {a b : List (Addr × Obj)} (ha : Nd a) (hb : Nd b) (h : Dj a b) : Nd (a ++ b) := by
  unfold Nd at *
  rw [List.map_append, List.nodup_append]
  refine ⟨ha, hb, fun x hx y hy e => ?_⟩
  obtain ⟨q, hq, rfl⟩ := List.mem_map.mp hx
  obtain ⟨p, hp, rfl⟩ := List.mem_map.mp hy
  exact h q hq p hp e
theorem Nd.left {a b : List (Addr × Obj)} (h : Nd (a ++ b)) : Nd a := by
  unfold Nd at *
  rw [List.map_append, List.nodup_append] at h; exact h.1
theorem Nd.right {a b : List (Addr × Obj)} (h : Nd (a ++ b)) : Nd b := by
  unfold Nd at *
  rw [List.map_append, List.nodup_append] at h; exact h.2.1
theorem Nd.lt {a : Addr} {o : Obj} {news : List (Addr × Obj)} (h : Nd news) (hl : ∀ p ∈ news, p.1 < a) : Nd ((a, o) :: news) := h.cons fun p hp => Nat.ne_of_lt (hl p hp)
theorem Nd.same {a : Addr} {o o' : Obj} {news : List (Addr × Obj)} (h : Nd ((a, o) :: news)) : Nd ((a, o') :: news) := h
end
end Mine
end
section
open PySem PySem.W PyProof.Rows PySem.Calls PySem.Builtin.Slice
namespace Mine
section
variable {prog : Program} {w : World} {A : Around} {E : Value → Shared → Prop} {s : Shared} {h₀ : Heap} {L : Addr} {m : Str → Option Value} {news : List (Addr × Obj)} {l : Addr} {its : List Value} {n : Nat} {k : Int} {u : Tok}
theorem ne_norm_at {a b D D2 : Addr} {i j : Int} {t v : Tok} {xs ys : List Value} {ks ms : List Int} {Q : Value → Shared → Prop} (N : News h₀ L s.heap news) (ha : (a, tupOf [.ref D, .int i t]) ∈ news) (hD : (D, tupOf xs) ∈ news) (hb : (b, tupOf [.ref D2, .int j v]) ∈ news) (hD2 : (D2, tupOf ys) ∈ news)
    (hR : Rels IntR xs ks) (hS : Rels IntR ys ms) (hu : A.units + 64 < cLine) (h : Q (.bool (!(decide (ks = ms) && decide (i = j)))) s) : wpAny (model prog w) A (compareOp .NotEq (.ref a) (.ref b)) Q E s := by
  refine ne_dataH (da := .tuple [.tuple (ks.map PyData.int), .int i]) (db := .tuple [.tuple (ms.map PyData.int), .int j]) (reads_tuple_at (N _ ha).1 rfl rfl (.cons (reads_newDataT (isT N hD) (ke_carried (rels_ints hR))) (.cons (Reads.int _ _) .nil)))
    (reads_tuple_at (N _ hb).1 rfl rfl (.cons (reads_newDataT (isT N hD2) (ke_carried (rels_ints hS))) (.cons (Reads.int _ _) .nil))) ?_ ?_ hu ?_
  · simp [SeqAt.shaped, PyData.canLay0, PyData.canLayAll0, PyData.depth, PyData.depthAll, ke_canLayAll0, ke_depthAll]
  · simp [SeqAt.shaped, PyData.canLay0, PyData.canLayAll0, PyData.depth, PyData.depthAll, ke_canLayAll0, ke_depthAll]
  · simp only [PyData.eqv, PyData.eqvAll, ked_eqvAll, Bool.and_true]
    exact h
end
theorem cut_adjust (a n : Nat) : sliceAdjust (some (a : Int)) none 1 (n : Int) = (((min a n : Nat) : Int), (n : Int)) := by
  by_cases h : a ≤ n
  · rw [adjust_from a n h, Nat.min_eq_left h]
  · unfold sliceAdjust
    simp only [show ¬ ((1 : Int) < 0) from by omega, show ¬ ((a : Int) < 0) from by omega, if_false]
    congr 1
    omega
section
variable {prog : Program} {w : World} {A : Around} {E : Value → Shared → Prop} {s : Shared} {h₀ : Heap} {L : Addr} {m : Str → Option Value} {news : List (Addr × Obj)}
theorem cut_applied {sl : Addr} {a n : Nat} {u : Tok} {Q : Int × Int × Nat → Shared → Prop} (hs : s.heap.IsSliceOf sl (.int a u) .none .none) (h : Q (((min a n : Nat) : Int), 1, n - min a n) s) :
    wpAny (model prog w) A (sliceApplied (.ref sl) (pure (n : Int))) Q E s := by
  obtain ⟨os, hos, -, hds⟩ := id hs
  unfold sliceApplied sliceFields
  refine wpAny_bind (wpAny_bind (wpAny_field hos hds (x := .int a u) rfl (wpAny_bind (wpAny_field hos hds (x := .none) rfl (wpAny_bind (wpAny_field hos hds (x := .none) rfl (wpAny_pure (wpAny_bind (slicePart_none ?_))))))))) 
  show wpAny _ _ (if ((1 : Int) == 0) = true then _ else _) _ _ s
  rw [if_neg (by decide)]
  refine wpAny_bind (slicePart_int (wpAny_bind (slicePart_none (wpAny_bind (wpAny_pure ?_)))))
  show wpAny _ _ (match sliceAdjust (some (a : Int)) none 1 (n : Int) with | (lo, hi) => pure (lo, (1 : Int), slicePlaces lo hi 1)) _ _ s
  rw [cut_adjust]
  show wpAny _ _ (pure (((min a n : Nat) : Int), (1 : Int), slicePlaces ((min a n : Nat) : Int) (n : Int) 1)) _ _ s
  rw [places_from _ n (Nat.min_le_right a n)]
  exact wpAny_pure h
theorem cut_item {t sl : Addr} {items : Array Value} {a : Nat} {u : Tok} {Q : Value → Shared → Prop} (ht : IsTup s.heap t items) (hs : s.heap.IsSliceOf sl (.int a u) .none .none) (h1 : 1 ≤ a) (hn : 1 ≤ items.size) (hsz : items.size ≤ sizeLine)
    (h : Q (.ref s.heap.objs.size) { s with heap := s.heap.push { cls := .type "tuple", data := .seq (items.toList.drop a).toArray } }) : wpAny (model prog w) A (getItem (.ref t) (.ref sl)) Q E s := by
  have hpick := pick_from items (min a items.size) (Nat.min_le_right _ _)
  have hl : items.toList.length = items.size := Array.length_toList
  have hm : items.toList.drop (min a items.size) = items.toList.drop a := by rw [← hl]; exact kmk_drop_min _ _
  rw [hm] at hpick
  have hok : sizeOk (.seq (items.toList.drop a).toArray) := by
    show (items.toList.drop a).toArray.size ≤ sizeLine
    rw [List.size_toArray, List.length_drop]; omega
  obtain ⟨os, hos, hcs, -⟩ := id hs
  unfold getItem
  try with_reducible refine wpAny_holding ?_
  first | refine wpAny_bind (wpAny_pure ?_) | skip
  refine wpAny_bind (wpAny_sequenceKey ht.typeIs (by decide) (wpAny_bind (wpAny_callSpecial?_slot (name := Str.ofString "__getitem__") ht.typeIs slot_tuple_getitem (wpAny_call_entry slot_tuple_getitem ht.typeIs entry_tuple_getitem ?_ (args_tuple_getitem _ _)))))
  show wpAny _ _ (Builtin.Tuple.tupleItemsOf (.ref t) >>= _) _ _ s
  refine wpAny_bind (tupleItemsOf_ ht (wpAny_bind (wpAny_typeOf (show s.TypeIs (.ref sl) "slice" from ⟨os, hos, hcs⟩) ?_)))
  rw [if_pos (by decide)]
  refine wpAny_bind (cut_applied hs ?_)
  show wpAny _ _ (if (((min a items.size : Nat) : Int) == 0 && (1 : Int) == 1 && (items.size - min a items.size) == items.size) = true then _ else _) _ _ s
  have e0 : (((min a items.size : Nat) : Int) == 0) = false := by rw [beq_eq_false_iff_ne]; omega
  rw [e0, if_neg (by simp), hpick]
  first
    | exact wpAny_bind (m := Builtin.Tuple.tupleExact _) (wpAny_newObj_type (wpAny_pure ⟨_, rfl, wpAny_pure h⟩) hok)
    | exact wpAny_bind (m := Builtin.Tuple.tupleExact _) (wpAny_newObj_type (wpAny_bind (wpAny_pure (wpAny_pure ⟨_, rfl, wpAny_pure h⟩))) hok)
    | exact wpAny_bind (wpAny_bind (m := Builtin.Tuple.tupleExact _) (wpAny_newObj_type (wpAny_pure ⟨_, rfl, wpAny_pure h⟩) hok))
theorem cut_tup {value slice : Expr} {t : Addr} {its : List Value} {a : Nat} {u : Tok} {Q : Value → Shared → Prop}
    (F : Fr h₀ L s.heap m) (N : News h₀ L s.heap news) (hm : (t, tupOf its) ∈ news) (h1 : 1 ≤ a) (hn : 1 ≤ its.length) (hsz : its.length ≤ 1000)
    (h : ∀ D h', Fr h₀ L h' m → News h₀ L h' ((D, tupOf (its.drop a)) :: news) → (∀ p ∈ news, p.1 < D) → Q (.ref D) { s with heap := h' })
    (hs : subscripted slice false (.ref t) (.ref s.heap.objs.size) = operate [.ref s.heap.objs.size, .ref t] (getItem (.ref t) (.ref s.heap.objs.size)) := by with_unfolding_all rfl)
    (hg : ∀ r, letTemporaryGo value (.ref t) r = pure () := by intro _; with_unfolding_all rfl) :
    wpAny (model prog w) A (subscriptTail value slice (.ref t) (.ref s.heap.objs.size)) Q E { s with heap := s.heap.push { cls := .type "slice", data := .fields #[.int a u, .none, .none] } } := by
  have ht : IsTup (s.heap.push { cls := .type "slice", data := .fields #[.int a u, .none, .none] }) t its.toArray := (isT N hm).keeps fun _ _ e => Heap.get?_push_of_some _ e
  refine subscriptTail_ops (s := { s with heap := s.heap.push { cls := .type "slice", data := .fields #[.int a u, .none, .none] } }) ht.typeIs slot_tuple_getitem.lookup
    (cut_item ht (Heap.IsSliceOf.new ..) h1 (by rw [List.size_toArray]; exact hn) (by rw [List.size_toArray]; exact Nat.le_trans hsz (by decide)) ?_) hs hg
  have F1 := F.push { cls := .type "slice", data := .fields #[.int a u, .none, .none] }
  have N1 := News.push F1 (N.grown fun _ _ e => Heap.get?_push_of_some _ e) { cls := .type "tuple", data := .seq (its.drop a).toArray }
  rw [Heap.size_push] at N1
  show Q (.ref (s.heap.push _).objs.size) _
  rw [Heap.size_push]
  refine h _ _ ((F.push _).push _) N1 fun p hp => ?_
  exact Nat.lt_succ_of_lt (Heap.lt_size (N p hp).1)
end
end Mine
end
section
open PySem PySem.W PyProof.Rows PySem.Calls PyProof.Rows.LCg
namespace Mine
local macro_rules | `(tactic| omega) => `(tactic| lia)
def flat2 (f : Nat → Nat → Int) (cnt : Nat → Nat) : Nat → List Int
  | 0 => []
  | n + 1 => flat2 f cnt n ++ (List.range (cnt n)).map (f n)
theorem flat2_le {f : Nat → Nat → Int} {cnt : Nat → Nat} : ∀ {i n : Nat}, i ≤ n → (flat2 f cnt i).length ≤ (flat2 f cnt n).length
  | i, 0, h => by obtain rfl : i = 0 := by omega
                  exact Nat.le_refl _
  | i, n + 1, h => by
    by_cases e : i = n + 1
    · rw [e]; exact Nat.le_refl _
    · have := flat2_le (f := f) (cnt := cnt) (i := i) (n := n) (by omega)
      simp only [flat2, List.length_append]; omega
theorem size1 (c : Nat) : Builtin.Range.rangeSize 1 ((c : Int) + 1) 1 = (c : Int) := by
  rw [show ((c : Int) + 1) = ((c + 1 : Nat) : Int) by push_cast; rfl, rangeSize_nat]; omega
section
variable {prog : Program} {w : World} {A : Around} {s : Shared} {h₀ : Heap} {L : Addr} {m : Str → Option Value} {env : Env}
def Rng3 (s : Shared) (h : Heap) (c : Nat) (xv : Value) (s' : Shared) : Prop := ∃ r t u v h' tk', xv = .ref r ∧ s' = { s with heap := h', toks := tk' } ∧ IsRange h' r 1 ((c : Int) + 1) 1 t u v ∧ (∀ b o, h.get? b = some o → h'.get? b = some o)
def InnerAt3 (prog : Program) (w : World) (A : Around) (h₀ : Heap) (L : Addr) (m : Str → Option Value) (env : Env) (i1 : Expr) (x0 : Str) (scope : Scope) (cl : List (Str × Addr)) (news : List (Addr × Obj)) (n : Nat) (cnt : Nat → Nat) (s : Shared) : Prop :=
  ∀ (i : Nat) (t : Tok) (C : Addr) (oC : Obj) (m₂ : Str → Option Value) (h : Heap) (tk : Nat), i < n → NsObj oC m₂ → m₂ x0 = some (.int (1 + (i : Int)) t) → Fr h₀ L h m → News h₀ L h ((C, oC) :: news) →
    wpAny (model prog w) A (eval i1 (compEnvC scope cl C env)) (Rng3 s h (cnt i)) NoE { s with heap := h, toks := tk }
def EltAt3 (prog : Program) (w : World) (A : Around) (h₀ : Heap) (L : Addr) (m : Str → Option Value) (env : Env) (elt : Expr) (x0 x1 : Str) (scope : Scope) (cl : List (Str × Addr)) (news : List (Addr × Obj)) (c : Nat) (f : Nat → Int) (i : Nat) (s : Shared) (C : Addr) : Prop :=
  ∀ (j : Nat) (tj ti : Tok) (oC : Obj) (m₂ : Str → Option Value) (h : Heap) (tk : Nat), j < c → NsObj oC m₂ → m₂ x0 = some (.int (1 + (i : Int)) ti) → m₂ x1 = some (.int (1 + (j : Int)) tj) → Fr h₀ L h m → News h₀ L h ((C, oC) :: news) →
    wpAny (model prog w) A (eval elt (compEnvC scope cl C env)) (fun y s' => ∃ h' tk' t, s' = { s with heap := h', toks := tk' } ∧ y = .int (f j) t ∧ ∀ b o, h.get? b = some o → h'.get? b = some o) NoE { s with heap := h, toks := tk }
theorem inner_loop3 {i0 i1 : Expr} {x0 x1 : Str} {p0 p1 : Pos} {elt : Expr} {f : Nat → Nat → Int} {scope : Scope} {cl : List (Str × Addr)} {pos : Pos} {news : List (Addr × Obj)} {I C D : Addr} {oI : Obj} {i c : Nat} {ti : Tok} {ys : List Value} {ks : List Int} {m' : Str → Option Value} {R : Result → Shared → Prop}
    (hh : A.handled = none) (hkind : scope.kind = .function) (hx0 : scope.names.lookup x0 = some .local) (hx1 : scope.names.lookup x1 = some .local) (h01 : x0 ≠ x1)
    (hIL : I ≠ L) (hCL : C ≠ L) (hDL : D ≠ L) (hIC : I ≠ C) (hID : I ≠ D) (hCD : C ≠ D) (hI₀ : h₀.get? I = none) (hC₀ : h₀.get? C = none) (hD₀ : h₀.get? D = none) (offC : ∀ p ∈ news, p.1 ≠ C) (offD : ∀ p ∈ news, p.1 ≠ D)
    {r : Addr} {t u v : Tok} (hr : IsRange s.heap r 1 ((c : Int) + 1) 1 t u v) (hsm : Builtin.Range.small 1 ((c : Int) + 1) 1 = true)
    (F : Fr h₀ L s.heap m) (hn : s.heap.Ns C m') (hm' : m' x0 = some (.int (1 + (i : Int)) ti)) (hel : EltAt3 prog w A h₀ L m env elt x0 x1 scope cl news c (f i) i s C) (N : News h₀ L s.heap ((I, oI) :: (D, lst ys) :: news)) (hR : Rels IntR ys ks) (hz : ks.length + c ≤ 1000)
    (hend : ∀ h tk ys' m'', Fr h₀ L h m → h.Ns C m'' → News h₀ L h ((I, oI) :: (D, lst ys') :: news) → Rels IntR ys' (ks ++ (List.range c).map (f i)) → R (.ok .next) { s with heap := h, toks := tk }) :
    wpAny (model prog w) A (pyIter (.ref r)) (fun it2 s₄ => codeAny (model prog w) A (.compStart (.ListComp elt [⟨.Name x0 p0, i0, [], 0⟩, ⟨.Name x1 p1, i1, [], 0⟩] scope pos) 1 it2 (.ref D) (compEnvC scope cl C env)) R s₄) NoE s := by
  refine wpAny_pyIter_range hr hsm ?_
  have hn1 : Builtin.Range.rangeSize 1 ((c : Int) + 1) 1 = (c : Int) := size1 c
  rw [hn1]
  generalize hJ : s.heap.objs.size = J
  have hlt : ∀ b o, s.heap.get? b = some o → b ≠ J := fun b o e q => absurd (Heap.lt_size e) (by rw [q, ← hJ]; exact Nat.lt_irrefl _)
  have hCJ : C ≠ J := by obtain ⟨o, _, _, e, _⟩ := hn; exact hlt C o e
  have hLJ : L ≠ J := by obtain ⟨o, _, _, e, _⟩ := F.ns; exact hlt L o e
  have hDJ : D ≠ J := hlt D _ (N (D, lst ys) (.tail _ (.head _))).1
  have hIJ : I ≠ J := hlt I _ (N (I, oI) (.head _)).1
  have hJ₀ : h₀.get? J = none := by rw [← hJ]; exact next_is_new F
  have W := Walks.range (prog := prog) (w := w) hh J 1 1 c
  have loop : ∀ s₃ : Shared, s₃ = { s with heap := s.heap.push { cls := .type "range_iterator", data := .fields #[rawInt 1, rawInt (c : Int), rawInt 1] } } →
      codeAny (model prog w) A (.compLoop (.ListComp elt [⟨.Name x0 p0, i0, [], 0⟩, ⟨.Name x1 p1, i1, [], 0⟩] scope pos) 1 (.ref J) (.ref D) (compEnvC scope cl C env)) R s₃ := by
    rintro s₃ rfl
    refine comp_inner (fun k s' => ∃ h tk j ys' m'', s' = { s with heap := h, toks := tk } ∧ j ≤ c ∧ k = c + 1 - j ∧ IsRangeIter h J (1 + (j : Nat) * 1) ((c : Int) - (j : Nat)) 1 ∧ Fr h₀ L h m ∧ h.Ns C m'' ∧ m'' x0 = some (.int (1 + (i : Int)) ti) ∧ News h₀ L h ((I, oI) :: (D, lst ys') :: news) ∧ Rels IntR ys' (ks ++ (List.range j).map (f i))) ?_ (c + 1)
      ⟨_, s.toks, 0, ys, m', rfl, Nat.zero_le _, rfl, ?_, F.push _, ?_, hm', fun p hp => ⟨Heap.get?_push_of_some _ (N p hp).1, (N p hp).2⟩, by simpa using hR⟩ (by intro _; rfl)
    · rintro k s' ⟨h, tk, j, ys', m'', rfl, hj, rfl, hit, F', hn', hm'', N', hR'⟩
      by_cases hlt' : j < c
      · refine W.item j _ _ _ hlt' hit fun v h₂ tk₂ hP hit₂ hk₂ => ?_
        obtain ⟨tv, rfl⟩ := hP
        have hkeep : ∀ b o, b ≠ J → h.get? b = some o → h₂.get? b = some o := fun b o hb e => hk₂ b o (by simpa using hb) e
        have F₂ : Fr h₀ L h₂ m := fr_but F' hk₂ hLJ hJ₀
        have N₂ : News h₀ L h₂ ((I, oI) :: (D, lst ys') :: news) := news_but N' hk₂ fun p hp => by
          rcases List.mem_cons.mp hp with rfl | hp
          · exact hIJ
          · rcases List.mem_cons.mp hp with rfl | hp
            · exact hDJ
            · exact hlt _ _ (N p (.tail _ (.tail _ hp))).1
        refine wpAny_assign_Name (wpAny_storeName_local (lookup_relabel_local hx1) (hn'.at' fun o e => hkeep _ o hCJ e) (fun h₃ hn₃ hs₃ => ?_) (by simp [compEnvC, relabel, hkind]))
        have F₃ : Fr h₀ L h₃ m := F₂.change hs₃ hCL hC₀
        have N₃ : News h₀ L h₃ ((I, oI) :: (D, lst ys') :: news) := fun p hp => ⟨hs₃.extBut _ _ (by
          rcases List.mem_cons.mp hp with rfl | hp
          · exact hIC
          · rcases List.mem_cons.mp hp with rfl | hp
            · exact Ne.symm hCD
            · exact offC p hp) (N₂ p hp).1, (N₂ p hp).2⟩
        have hm3 : (fun z => if z = x1 then some (Value.int (1 + (j : Int) * 1) tv) else m'' z) x0 = some (.int (1 + (i : Int)) ti) := by
          show (if x0 = x1 then _ else _) = _
          rw [if_neg h01]; exact hm''
        have hm4 : (fun z => if z = x1 then some (Value.int (1 + (j : Int) * 1) tv) else m'' z) x1 = some (.int (1 + (j : Int)) tv) := by
          show (if x1 = x1 then _ else _) = _
          rw [if_pos rfl, Int.mul_one]
        obtain ⟨oC, heC, hoC⟩ := ns_obj hn₃
        refine wpAny_mono (hel j tv ti oC _ h₃ _ hlt' hoC hm3 hm4 F₃ (fun p hp => ?_)) (fun y s'' hy => ?_) fun _ _ e => e
        · rcases List.mem_cons.mp hp with rfl | hp
          · exact ⟨heC, hCL, hC₀⟩
          · exact N₃ p (.tail _ (.tail _ hp))
        obtain ⟨h₄, tk₄, ty, rfl, rfl, hk4⟩ := hy
        replace N₃ : News h₀ L h₄ ((I, oI) :: (D, lst ys') :: news) := fun p hp => ⟨hk4 _ _ (N₃ p hp).1, (N₃ p hp).2⟩
        replace F₃ : Fr h₀ L h₄ m := F₃.keeps hk4
        have hn₄ := hn₃.at' fun o e => hk4 _ o e
        have hlen := hR'.length
        rw [List.length_append, List.length_map, List.length_range] at hlen
        refine PyProof.Rows.append_at (hsz := by rw [List.size_toArray]; exact Nat.le_trans (show ys'.length ≤ 1000 by omega) (by decide)) (N₃ (D, lst ys') (.tail _ (.head _))).1 fun h₅ hs₅ hD₅ => ?_
        refine ⟨c + 1 - (j + 1), by omega, h₅, _, j + 1, ys' ++ [.int (f i j) ty], _, rfl, hlt', rfl, ?_, F₃.change hs₅ hDL hD₀, hn₄.sameBut hs₅ hCD, hm3, fun p hp => ?_, ?_⟩
        · have e1 : h₅.get? J = h₂.get? J := by
            have := hit₂
            have q1 : h₃.get? J = some _ := hs₃.extBut _ _ (Ne.symm hCJ) hit₂
            exact (hs₅.extBut _ _ (Ne.symm hDJ) (hk4 _ _ q1)).trans hit₂.symm
          show h₅.get? J = some _
          rw [e1]; exact hit₂
        · rcases List.mem_cons.mp hp with rfl | hp
          · exact ⟨hs₅.extBut _ _ hID (N₃ _ (.head _)).1, (N₃ _ (.head _)).2⟩
          · rcases List.mem_cons.mp hp with rfl | hp
            · exact ⟨hD₅.trans (congrArg some (lst_snoc ys' _)), hDL, hD₀⟩
            · exact ⟨hs₅.extBut _ _ (offD p hp) (N₃ p (.tail _ (.tail _ hp))).1, (N₃ p (.tail _ (.tail _ hp))).2⟩
        · rw [List.range_succ, List.map_append, ← List.append_assoc]
          exact hR'.append (.cons ⟨_, rfl⟩ .nil)
      · obtain rfl : j = c := Nat.le_antisymm hj (Nat.not_lt.mp hlt')
        refine W.done _ _ _ hit fun h₂ tk₂ hk₂ => ?_
        exact hend h₂ tk₂ ys' m'' (fr_but F' hk₂ hLJ hJ₀) (hn'.at' fun o e => hk₂ _ o (by simpa using hCJ) e) (news_but N' hk₂ fun p hp => by
          rcases List.mem_cons.mp hp with rfl | hp
          · exact hIJ
          · rcases List.mem_cons.mp hp with rfl | hp
            · exact hDJ
            · exact hlt _ _ (N p (.tail _ (.tail _ hp))).1) hR'
    · show IsRangeIter _ _ _ _ _
      rw [← hJ]
      simpa using Heap.get?_push_size _ rfl
    · exact hn.push _
  refine comp_start (g := ⟨.Name x1 p1, i1, [], 0⟩) rfl rfl rfl (loop _ rfl) (W.self 0 _ _ _ (by show IsRangeIter _ _ _ _ _; rw [← hJ]; simpa using Heap.get?_push_size _ rfl) (loop _ rfl)) rfl rfl rfl (fun _ => rfl)
def Src3 (prog : Program) (w : World) (A : Around) (h₀ : Heap) (L : Addr) (m : Str → Option Value) (env : Env) (elt i1 : Expr) (x0 x1 : Str) (scope : Scope) (cl : List (Str × Addr)) (n : Nat) (cnt : Nat → Nat) (f : Nat → Nat → Int) (Q : Value → Shared → Prop) (xv : Value) (s₁ : Shared) : Prop :=
  ∃ r t u v news, xv = .ref r ∧ Fr h₀ L s₁.heap m ∧ News h₀ L s₁.heap news ∧ IsRange s₁.heap r 1 ((n : Int) + 1) 1 t u v ∧ InnerAt3 prog w A h₀ L m env i1 x0 scope cl news n cnt s₁ ∧
      (∀ i C, i < n → ∀ g tk, EltAt3 prog w A h₀ L m env elt x0 x1 scope cl news (cnt i) (f i) i { s₁ with heap := g, toks := tk } C) ∧
      ∀ D h tk ys, Rels IntR ys (flat2 f cnt n) → Fr h₀ L h m → News h₀ L h ((D, lst ys) :: news) → Off1 D news → Q (.ref D) { s₁ with heap := h, toks := tk }
theorem ev_comp2 {i0 i1 : Expr} {x0 x1 : Str} {p0 p1 : Pos} {elt : Expr} {f : Nat → Nat → Int} {scope : Scope} {cl : List (Str × Addr)} {pos : Pos} {Q : Value → Shared → Prop} {n : Nat} {cnt : Nat → Nat} (F₀ : Fr h₀ L s.heap m) (hLe : env.locals = L)
    (hclos : closureFor scope env = pure cl) (hcell : ∀ z ∈ scope.names, z.2 ≠ .cell) (hkind : scope.kind = .function)
    (hnames : ∀ z ∈ scope.names, z.2 = .local → scope.names.lookup z.1 = some .local) (hx0 : scope.names.lookup x0 = some .local) (hx1 : scope.names.lookup x1 = some .local) (h01 : x0 ≠ x1) (hh : A.handled = none)
    (hz : (flat2 f cnt n).length ≤ 1000) (hn62 : n ≤ 1000)
    (h : wpAny (model prog w) A (eval i0 env) (Src3 prog w A h₀ L m env elt i1 x0 x1 scope cl n cnt f Q) NoE s)
    (hs : ∀ x, foldedSetIterable i0 env x = pure x) (hs1 : ∀ C x, foldedSetIterable i1 (compEnvC scope cl C env) x = pure x) :
    wpAny (model prog w) A (eval (.ListComp elt [⟨.Name x0 p0, i0, [], 0⟩, ⟨.Name x1 p1, i1, [], 0⟩] scope pos) env) Q NoE s := by
  subst hLe
  rw [eval_ListComp]
  refine wpAny_comprehension_free (use := none) rfl hs hclos hkind hnames (wpAny_mono h (fun xv s₁ h₁ => ?_) fun _ _ e => e)
  obtain ⟨r, t, u, v, news, rfl, F, N, hr, hIn, hEl, hfin⟩ := h₁
  refine wpAny_pyIter_range hr (small_one (by decide) (by decide) (by omega) (by omega)) ?_
  have hn1 : Builtin.Range.rangeSize 1 ((n : Int) + 1) 1 = (n : Int) := size1 n
  rw [hn1]
  generalize hII : s₁.heap.objs.size = I
  have hI₀ : h₀.get? I = none := by rw [← hII]; exact next_is_new F
  have hI1 : (s₁.heap.push { cls := .type "range_iterator", data := .fields #[rawInt 1, rawInt (n : Int), rawInt 1] }).get? I = some { cls := .type "range_iterator", data := .fields #[rawInt 1, rawInt (n : Int), rawInt 1] } := by rw [← hII]; exact Heap.get?_push_size _ rfl
  have hsz1 : (s₁.heap.push { cls := .type "range_iterator", data := .fields #[rawInt 1, rawInt (n : Int), rawInt 1] }).objs.size = I + 1 := by rw [Heap.size_push, hII]
  have F1 := F.push { cls := .type "range_iterator", data := .fields #[rawInt 1, rawInt (n : Int), rawInt 1] }
  have N1 : News h₀ env.locals (s₁.heap.push { cls := .type "range_iterator", data := .fields #[rawInt 1, rawInt (n : Int), rawInt 1] }) news := fun p hp => ⟨Heap.get?_push_of_some _ (N p hp).1, (N p hp).2⟩
  have hnI : ∀ p ∈ news, p.1 < I := fun p hp => by rw [← hII]; exact Heap.lt_size (N p hp).1
  have hLI : env.locals < I := by rw [← hII]; exact F.ns.lt
  generalize hH1 : s₁.heap.push { cls := .type "range_iterator", data := .fields #[rawInt 1, rawInt (n : Int), rawInt 1] } = H1 at *
  refine wpAny_newObj_type (wpAny_newFunctionEnv hcell (by intro y hy; simp at hy) (fun h₁ hns₁ hsb₁ => ?_) hkind)
  dsimp only at hns₁ hsb₁ ⊢
  generalize hH2 : H1.push { cls := .type "list", dict := none, data := .seq ([] : List Value).toArray } = H2 at hns₁ hsb₁ ⊢
  have hC : H2.objs.size = I + 1 + 1 := by rw [← hH2, Heap.size_push, hsz1]
  rw [hsz1]
  rw [hC] at hns₁ hsb₁ ⊢
  have old : ∀ b o, H1.get? b = some o → h₁.get? b = some o := fun b o e => hsb₁.extBut b o (Nat.ne_of_lt (Nat.lt_trans (Heap.lt_size e) (by rw [hsz1]; exact Nat.lt_succ_self _))) (Heap.get?_push_of_some _ (hH2 ▸ Heap.get?_push_of_some _ e))
  have hacc : h₁.get? (I + 1) = some (lst []) := hsb₁.extBut _ _ (Nat.ne_of_lt (Nat.lt_succ_self _)) (Heap.get?_push_of_some _ (hH2 ▸ (by rw [← hsz1]; exact Heap.get?_push_size _ rfl)))
  have fresh₀ : ∀ a : Nat, I ≤ a → h₀.get? a = none := fun a ha => Heap.get?_none_of_le (Nat.le_trans F.above (Nat.le_of_lt (Nat.lt_of_lt_of_le hLI ha)))
  have hC₀ := fresh₀ (I + 1 + 1) (by omega)
  have hD₀ := fresh₀ (I + 1) (by omega)
  have W := Walks.range (prog := prog) (w := w) hh I 1 1 n
  have kC : I + 1 + 1 ≠ env.locals := Nat.ne_of_gt (Nat.lt_of_lt_of_le hLI (Nat.le_trans (Nat.le_succ _) (Nat.le_succ _)))
  have kD : I + 1 ≠ env.locals := Nat.ne_of_gt (Nat.lt_of_lt_of_le hLI (Nat.le_succ _))
  have kIC : I ≠ I + 1 + 1 := by omega
  have kID : I ≠ I + 1 := by omega
  have kCD : I + 1 + 1 ≠ I + 1 := by omega
  have hnC : ∀ p ∈ news, p.1 ≠ I + 1 + 1 := fun p hp => Nat.ne_of_lt (Nat.lt_of_lt_of_le (hnI p hp) (Nat.le_trans (Nat.le_succ _) (Nat.le_succ _)))
  have hnD : ∀ p ∈ news, p.1 ≠ I + 1 := fun p hp => Nat.ne_of_lt (Nat.lt_of_lt_of_le (hnI p hp) (Nat.le_succ _))
  have hCI : (I + 1 + 1) ∉ [I] := fun hm => absurd (List.mem_singleton.mp hm) (Nat.ne_of_gt (by omega))
  have hE : ∀ i : Nat, (1 : Int) + (i : Int) * 1 = 1 + (i : Int) := fun i => by omega
  have loop : ∀ s₃ : Shared, s₃ = { s₁ with heap := h₁, toks := s₁.toks + ([] : List (Str × Value)).length } →
      codeAny (model prog w) A (.compLoop (.ListComp elt [⟨.Name x0 p0, i0, [], 0⟩, ⟨.Name x1 p1, i1, [], 0⟩] scope pos) 0 (.ref I) (.ref (I + 1)) (compEnvC scope cl (I + 1 + 1) env))
        (compPost (model prog w) A NoE none Q (.ref (I + 1)) (I + 1 + 1)) s₃ := by
    rintro s₃ rfl
    refine comp_outer (fun k s' => ∃ h tk i ys m', s' = { s₁ with heap := h, toks := tk } ∧ i ≤ n ∧ k = n + 1 - i ∧ IsRangeIter h I (1 + (i : Nat) * 1) ((n : Int) - (i : Nat)) 1 ∧ Fr h₀ env.locals h m ∧ h.Ns (I + 1 + 1) m' ∧ News h₀ env.locals h ((I + 1, lst ys) :: news) ∧ Rels IntR ys (flat2 f cnt i)) ?_ (n + 1)
      ⟨h₁, _, 0, [], _, rfl, Nat.zero_le _, rfl, ?_, F1.keeps old, hns₁, ?_, .nil⟩ (by intro _; rfl) (hs1 _)
    · rintro k s' ⟨h, tk, i, ys, m', rfl, hi, rfl, hit, F', hn', N', hR'⟩
      by_cases hlt : i < n
      · refine W.item i _ _ _ hlt hit fun v h₂ tk₂ hP hit₂ hk₂ => ?_
        obtain ⟨tv, rfl⟩ := hP
        rw [hE]
        have F₂ : Fr h₀ env.locals h₂ m := fr_but F' hk₂ (Nat.ne_of_lt hLI) hI₀
        have N₂ : News h₀ env.locals h₂ ((I + 1, lst ys) :: news) := news_but N' hk₂ fun p hp => by
          rcases List.mem_cons.mp hp with rfl | hp
          · exact Nat.ne_of_gt (Nat.lt_succ_self _)
          · exact Nat.ne_of_lt (hnI p hp)
        refine wpAny_assign_Name (wpAny_storeName_local (lookup_relabel_local hx0) (hn'.at' fun o e => hk₂ _ o hCI e) (fun h₃ hn₃ hs₃ => ?_) (by simp [compEnvC, relabel, hkind]))
        have hit₃ : h₃.get? I = h₂.get? I := (hs₃.extBut _ _ kIC hit₂).trans hit₂.symm
        have F₃ : Fr h₀ env.locals h₃ m := F₂.change hs₃ kC hC₀
        have N₃ : News h₀ env.locals h₃ ((I + 1, lst ys) :: news) := fun p hp => ⟨hs₃.extBut _ _ (by
          rcases List.mem_cons.mp hp with rfl | hp
          · exact Nat.ne_of_lt (Nat.lt_succ_self _)
          · exact hnC p hp) (N₂ p hp).1, (N₂ p hp).2⟩
        obtain ⟨oC, heC, hoC⟩ := ns_obj hn₃
        refine wpAny_mono (hIn i tv (I + 1 + 1) oC _ h₃ _ hlt hoC (by simp) F₃ (fun p hp => ?_)) (fun xv s' hx => ?_) fun _ _ e => e
        · rcases List.mem_cons.mp hp with rfl | hp
          · exact ⟨heC, kC, hC₀⟩
          · exact N₃ p (.tail _ hp)
        · obtain ⟨r2, t2, u2, v2, h₄, tk₄, rfl, rfl, hr2, hk4⟩ := hx
          have hfl := flat2_le (f := f) (cnt := cnt) (i := i + 1) (n := n) hlt
          simp only [flat2, List.length_append, List.length_map, List.length_range] at hfl
          obtain ⟨oI, hoI⟩ : ∃ o, h₂.get? I = some o := ⟨_, hit₂⟩
          refine inner_loop3 (i := i) (ti := tv) (oI := oI) (I := I) (C := I + 1 + 1) (D := I + 1) hh hkind hx0 hx1 h01 (Nat.ne_of_gt hLI) kC kD kIC kID kCD hI₀ hC₀ hD₀
            hnC hnD hr2 (small_one (by decide) (by decide) (by omega) (by omega)) (F₃.keeps hk4) (hn₃.at' fun o e => hk4 _ o e) (by simp) (hEl i _ hlt _ _) (fun p hp => ?_) hR' (by omega) ?_
          · rcases List.mem_cons.mp hp with rfl | hp
            · exact ⟨hk4 _ _ (hit₃.trans hoI), Nat.ne_of_gt hLI, hI₀⟩
            · exact ⟨hk4 _ _ (N₃ p hp).1, (N₃ p hp).2⟩
          · intro h₅ tk₅ ys' m'' F₅ hn₅ N₅ hR₅
            refine ⟨n + 1 - (i + 1), by omega, h₅, tk₅, i + 1, ys', m'', rfl, hlt, rfl, ?_, F₅, hn₅, fun p hp => N₅ p (.tail _ hp), hR₅⟩
            show h₅.get? I = some _
            rw [(N₅ _ (.head _)).1]
            exact hoI.symm.trans hit₂
      · obtain rfl : i = n := Nat.le_antisymm hi (Nat.not_lt.mp hlt)
        refine W.done _ _ _ hit fun h₂ tk₂ hk₂ => ?_
        have F₂ : Fr h₀ env.locals h₂ m := fr_but F' hk₂ (Nat.ne_of_lt hLI) hI₀
        have N₂ : News h₀ env.locals h₂ ((I + 1, lst ys) :: news) := news_but N' hk₂ fun p hp => by
          rcases List.mem_cons.mp hp with rfl | hp
          · exact Nat.ne_of_gt (Nat.lt_succ_self _)
          · exact Nat.ne_of_lt (hnI p hp)
        have hn2 : h₂.Ns (I + 1 + 1) m' := hn'.at' fun o e => hk₂ _ o hCI e
        refine ⟨m', hn2, fun h'' hs'' => hfin (I + 1) h'' _ ys hR' (F₂.change hs'' kC hC₀) (fun p hp => ?_) ?_⟩
        · refine ⟨hs''.extBut _ _ ?_ (N₂ p hp).1, (N₂ p hp).2⟩
          rcases List.mem_cons.mp hp with rfl | hp
          · exact Nat.ne_of_lt (Nat.lt_succ_self _)
          · exact hnC p hp
        · exact (Off3.of (I := I + 1) (C := I + 1) (D := I + 1) fun p hp => ⟨Nat.ne_of_lt (Nat.lt_trans (hnI p hp) (Nat.lt_succ_self _)), Nat.ne_of_lt (Nat.lt_trans (hnI p hp) (Nat.lt_succ_self _)), Nat.ne_of_lt (Nat.lt_trans (hnI p hp) (Nat.lt_succ_self _))⟩).one
    · show h₁.get? I = some _
      simpa using old _ _ hI1
    · intro p hp
      rcases List.mem_cons.mp hp with rfl | hp
      · exact ⟨hacc, kD, hD₀⟩
      · exact ⟨old _ _ (N1 p hp).1, (N1 p hp).2⟩
  refine comp_start (g := ⟨.Name x0 p0, i0, [], 0⟩) rfl rfl rfl (loop _ rfl) (W.self 0 _ _ _ (by show h₁.get? I = some _; simpa using old _ _ hI1) (loop _ rfl)) rfl rfl rfl (fun _ => rfl)
end
end Mine
end
open PySem PySem.W PyProof.Rows PySem.Calls
namespace Mine
local macro_rules | `(tactic| walk_at "GO") => `(tactic| repeat' (first | (k_unfold; (try dsimp only)) | walk1 | (dsimp only; walk1)))
local macro_rules | `(tactic| walk_at "exec While Compare cons nil") => `(tactic| refine Stop.out ?_)
local macro_rules | `(tactic| walk_at "call ref") => `(tactic| refine Stop.out ?_)
local macro_rules | `(tactic| walk_at "subscriptTail") => `(tactic| ((with_reducible show wpAny _ _ (subscriptTail _ _ (Value.ref _) (Value.int _ _)) _ _ _); k_dflt (refine' item_at ?k1 ?k2 ?k3 ?k4 ?k5 ?_ ?k6 ?k7; (case k1 => k_asm); (case k2 => k_mem); (case k3 => omega); (case k4 => omega); (case k5 => omega); (case k6 => with_unfolding_all rfl); (case k7 => intro _; with_unfolding_all rfl))))
local macro_rules | `(tactic| walk_at "binaryOp RShift int int") => `(tactic| first | (refine rshift1 ?_; intro _ _; (try dsimp only)) | refine Stop.out ?_)
local macro_rules | `(tactic| walk_at "binaryOp LShift int int") => `(tactic| refine Stop.out ?_)
local macro_rules | `(tactic| walk_at "binaryOp BitXor int int") => `(tactic| refine Stop.out ?_)
local macro_rules | `(tactic| walk_at "binaryOp Add int int") => `(tactic| (refine add_a ?_; intro _ _; (try dsimp only)))
local macro_rules | `(tactic| walk_at "binaryOp Sub int int") => `(tactic| (refine sub_a ?_; intro _ _; (try dsimp only)))
local macro_rules | `(tactic| walk_at "binaryOp Mult int int") => `(tactic| (refine mul_a (by mul_fits) ?_; intro _ _; (try dsimp only)))
local macro_rules | `(tactic| walk_at "SAME") => `(tactic| (intro z h2 h3; (simp only [List.forall_mem_cons, List.not_mem_nil, false_implies, implies_true, and_true, ne_eq] at h2); (simp only [List.contains_cons, List.contains_nil, Bool.or_false, Bool.or_eq_false_iff, beq_eq_false_iff_ne, ne_eq] at h3); simp only [h2, h3, List.contains_cons, List.contains_nil, Bool.or_false, Bool.or_eq_true, beq_iff_eq, or_self, if_false]))
local macro_rules | `(tactic| walk_at "call builtin:len") => `(tactic| ((with_reducible show wpAny _ _ (call (Value.builtin "len") [Value.ref _]) _ _ _); k_dflt (refine' len_at ?k1 ?k2 ?k3 ?_; (case k1 => k_asm); (case k2 => k_mem); (case k3 => omega)); intro _ _))
local macro_rules | `(tactic| walk_at "truthy ref") => `(tactic| (k_dflt (refine' truthy_at ?k1 ?k2 ?k3 ?_; (case k1 => k_asm); (case k2 => k_mem); (case k3 => omega)); intro _))
local macro_rules | `(tactic| walk_at "binaryOp FloorDiv int int") => `(tactic| (refine fdiv_a (by omega) (l2_small (by omega)) ?_; intro _ _; (try dsimp only)))
local macro_rules | `(tactic| walk_at "binaryOp Mod int int") => `(tactic| (refine mod_a (by omega) ?_; intro _ _; (try dsimp only)))
local macro_rules | `(tactic| walk_at "binaryOp Mult ref int") => `(tactic| refine Stop.out ?_)
local macro_rules | `(tactic| k_mem) => `(tactic| with_reducible first | assumption | (refine memR ?_; assumption) | (refine memL ?_; assumption) | (refine memA ?_; assumption))
local macro_rules | `(tactic| walk_at "pyIter") => `(tactic| refine Stop.out ?_)
local macro_rules | `(tactic| walk_at "pyIter ref") => `(tactic| refine Stop.out ?_)
local macro_rules | `(tactic| walk_at "pyIter str") => `(tactic| refine Stop.out ?_)
local macro_rules | `(tactic| walk_at "FPost") => `(tactic| dsimp only [FPost])
local macro_rules | `(tactic| walk_at "SAMEF") => `(tactic| (intro z h1 h2 h3; (simp only [List.forall_mem_cons, List.not_mem_nil, false_implies, implies_true, and_true, ne_eq] at h2); (simp only [List.contains_cons, List.contains_nil, Bool.or_false, Bool.or_eq_false_iff, beq_eq_false_iff_ne, ne_eq] at h3); simp only [h1, h2, h3, List.contains_cons, List.contains_nil, Bool.or_false, Bool.or_eq_true, beq_iff_eq, or_self, if_false]))
local macro_rules | `(tactic| walk_at "subscriptTail") => `(tactic| ((with_reducible show wpAny _ _ (subscriptTail _ _ (Value.ref _) (Value.int _ _)) _ _ _); k_dflt (refine' item_int ?k1 ?k2 ?k9 ?k3 ?k4 ?k5 ?_ ?k6 ?k7; (case k1 => k_asm); (case k2 => k_mem); (case k9 => with_reducible assumption); (case k3 => omega); (case k4 => omega); (case k5 => omega); (case k6 => with_unfolding_all rfl); (case k7 => intro _; with_unfolding_all rfl)); intro _))
local macro_rules | `(tactic| walk_at "binaryOp Add ref ref") => `(tactic| refine Stop.out ?_)
local macro_rules | `(tactic| walk_at "call type:tuple") => `(tactic| refine Stop.out ?_)
local macro_rules | `(tactic| walk_at "call builtin:len") => `(tactic| ((with_reducible show wpAny _ _ (call (Value.builtin "len") [Value.ref _]) _ _ _); k_dflt (refine' len_tup_at ?k1 ?k2 ?k3 ?_; (case k1 => k_asm); (case k2 => k_mem); (case k3 => omega)); intro _ _))
local macro_rules | `(tactic| walk_at "subscriptTail") => `(tactic| ((with_reducible show wpAny _ _ (subscriptTail _ _ (Value.ref _) (Value.int _ _)) _ _ _); k_dflt (refine' item_tup_int ?k1 ?k2 ?k9 ?k3 ?k4 ?k5 ?_ ?k6 ?k7; (case k1 => k_asm); (case k2 => k_mem); (case k9 => with_reducible assumption); (case k3 => omega); (case k4 => omega); (case k5 => omega); (case k6 => with_unfolding_all rfl); (case k7 => intro _; with_unfolding_all rfl)); intro _))
local macro_rules | `(tactic| walk_at "binaryOp Pow int int") => `(tactic| refine Stop.out ?_)
local macro_rules | `(tactic| walk_at "eval ListComp") => `(tactic| refine Stop.out ?_)
local macro_rules | `(tactic| walk_at "SUBS") => `(tactic| (intro p hp; (simp only [List.mem_cons, List.mem_append, List.cons_append, List.nil_append, List.append_assoc, List.not_mem_nil, or_false, or_assoc] at hp ⊢); (repeat' ((with_reducible refine Or.elim hp ?_ ?_) <;> (clear hp; intro hp))); all_goals (repeat (with_reducible first | exact hp | exact Or.inl hp | apply Or.inr))))
local macro_rules | `(tactic| walk_at "G1") => `(tactic| (first | (k_unfold; (try dsimp only)) | walk1 | (dsimp only; walk1)))
local macro_rules | `(tactic| walk_at "compareOp NotEq ref ref") => `(tactic| refine Stop.out ?_)
local macro_rules | `(tactic| walk_at "compareOp Eq ref ref") => `(tactic| refine Stop.out ?_)
local macro_rules | `(tactic| k_all) => `(tactic| with_reducible assumption)
local macro_rules | `(tactic| walk_at "storeName") => `(tactic| ((with_reducible first | show wpAny _ _ (storeName _ (Str.ofString "counts") _) _ _ _ | show wpAny _ _ (storeName _ (Str.ofString "bags") _) _ _ _); refine Stop.out ?_))
local macro_rules | `(tactic| walk_at "MEM") => `(tactic| (with_reducible repeat (first | exact List.mem_cons_self | refine List.mem_cons_of_mem _ ?_)))
theorem fill01_all : (PySem.Challenge.rw_qj0011_01 = PySem.Challenge.rw_qj0011_01) ∧ (hd01.heap_1 = hd01.heap_1) := by k_fill; exact ⟨rfl, rfl⟩
section
theorem rst_Sift01 : True := by
  w_top off
  trivial
local macro_rules | `(tactic| omega) => `(tactic| lia)
local macro_rules | `(tactic| walk_at "compareOp Lt") => `(tactic| refine Stop.out ?_)
local macro_rules | `(tactic| walk_at "setItem ref int") => `(tactic| refine Stop.out ?_)
def Cmp {κ : Type} (prog : Program) (w : World) (R : Value → κ → Prop) (lt : κ → κ → Bool) (news : List (Addr × Obj)) : Prop :=
  ∀ (x y : Value) (a b : κ) (A : Around) (s : Shared) (Q : Value → Shared → Prop) (E : Value → Shared → Prop), R x a → R y b → (∀ p ∈ news, s.heap.get? p.1 = some p.2) → A.units + 8 < cLine →
    (∀ tk, Q (.bool (lt a b)) { s with toks := tk }) → wpAny (model prog w) A (compareOp .Lt x y) Q E s

def sdn {κ : Type} [Inhabited κ] (lt : κ → κ → Bool) (new : κ) : Nat → List κ → Nat → List κ
  | 0, ks, pos => ks.set pos new
  | f + 1, ks, pos => if pos = 0 then ks.set pos new else if lt new (ks.getD ((pos - 1) / 2) default) then sdn lt new f (ks.set pos (ks.getD ((pos - 1) / 2) default)) ((pos - 1) / 2) else ks.set pos new
theorem sdn_fuel {κ : Type} [Inhabited κ] (lt : κ → κ → Bool) (new : κ) : ∀ (f : Nat) (ks : List κ) (pos : Nat), pos ≤ f → sdn lt new f ks pos = sdn lt new pos ks pos
  | 0, ks, pos, h => by obtain rfl : pos = 0 := by omega
                        rfl
  | f + 1, ks, 0, _ => by simp [sdn]
  | f + 1, ks, pos + 1, h => by
    simp only [sdn, Nat.add_sub_cancel, Nat.add_one_ne_zero, if_false]
    split
    · rw [sdn_fuel lt new f _ (pos / 2) (by omega), sdn_fuel lt new pos _ (pos / 2) (by omega)]
    · rfl
theorem sdn_length {κ : Type} [Inhabited κ] (lt : κ → κ → Bool) (new : κ) : ∀ (f : Nat) (ks : List κ) (pos : Nat), (sdn lt new f ks pos).length = ks.length
  | 0, ks, pos => by simp [sdn]
  | f + 1, ks, pos => by
    simp only [sdn]
    split
    · simp
    · split
      · rw [sdn_length lt new f]; simp
      · simp
theorem sdn_go {κ : Type} [Inhabited κ] (lt : κ → κ → Bool) (new : κ) (ks : List κ) (pos : Nat) (hp : pos ≠ 0) (hl : lt new (ks.getD ((pos - 1) / 2) default) = true) :
    sdn lt new pos ks pos = sdn lt new ((pos - 1) / 2) (ks.set pos (ks.getD ((pos - 1) / 2) default)) ((pos - 1) / 2) := by
  obtain ⟨q, rfl⟩ := Nat.exists_eq_succ_of_ne_zero hp
  show (if q + 1 = 0 then _ else _) = _
  rw [if_neg hp, if_pos hl]
  exact sdn_fuel _ _ _ _ _ (by simp only [Nat.succ_eq_add_one]; omega)
theorem sdn_stay {κ : Type} [Inhabited κ] (lt : κ → κ → Bool) (new : κ) (ks : List κ) (pos : Nat) (hl : pos = 0 ∨ lt new (ks.getD ((pos - 1) / 2) default) = false) : sdn lt new pos ks pos = ks.set pos new := by
  cases pos with
  | zero => rfl
  | succ q =>
    show (if q + 1 = 0 then _ else _) = _
    rw [if_neg (by omega), if_neg (by rw [hl.resolve_left (by omega)]; decide)]

theorem siftdown_c {κ : Type} [Inhabited κ] {prog : Program} {w : World} {p : Program} {loose : List Str} {mean : ExcName → Option Value} {mg mb : Str → Option Value} {A A₀ : Around} {env : Env} {outer : List Env} {base h₀ : Heap} {L : Addr} {m : Str → Option Value} {s : Shared} {Q E : Value → Shared → Prop}
  {R : Value → κ → Prop} {lt : κ → κ → Bool} {l : Addr} {its : List Value} {ks : List κ} {n : Nat} {k : Int} {t0 t1 : Tok} {news : List (Addr × Obj)}
  (B : Below A₀ base outer h₀) (F : Fr h₀ L s.heap m) (X : (hd01.heap_1 w.params).In h₀) (T : Top p loose mean mg mb h₀) (N : News h₀ L s.heap ((l, listOf its.toArray n) :: news))
  (hA : A.frames = some (env :: outer)) (hf : env.frame = some L) (hke : env.scope.kind = .function) (hh : A.handled = none) (hd : A.depth + 1 < recursionLimit) (hu : A.units + 20 < cLine)
  (hne : ∀ p ∈ news, p.1 ≠ l) (hC : Cmp prog w R lt news) (hR : Rels R its ks) (h0 : 0 ≤ k) (h1 : k < ks.length) (hz : ks.length < 2 ^ 20)
  (hret : ∀ (h' : Heap) (tk' : Nat) (its' : List Value), Rels R its' (sdn lt (ks.getD k.toNat default) k.toNat ks k.toNat) → Fr h₀ L h' m → News h₀ L h' ((l, listOf its'.toArray n) :: news) →  Q (.none) { s with heap := h', toks := tk' }) :
  wpAny (model prog w) A (call (.ref 49) [.ref l, .int 0 t0, .int k t1]) Q E s := by
  obtain ⟨ah, dp, fr, gd, un⟩ := A
  dsimp only at hA hh hd hu
  subst hA hh
  have hl := hR.length
  refine wpAny_call ?_
  k_dflt (refine code_def B F X N T rfl hf hke (by k_is) (by k_is) (Nat.lt_of_succ_lt hd) (BindsTo.of_eq rfl) (locs rfl) ?_ rfl rfl rfl (by decide))
  intro g L' h₁ FG F1 N1 B1 X1 T1
  replace F1 : Fr g L' h₁ (fun y => List.lookup y [(Str.ofString "pos", Value.int k t1), (Str.ofString "startpos", Value.int 0 t0), (Str.ofString "heap", Value.ref l)]) := F1
  refine wpAny_noRaise ?_
  dsimp only
  k_fold
  have hK : k.toNat < ks.length := by omega
  walk_at "GO"
  refine Stop.mk ?_
  rename Fr _ _ _ _ => F2
  rename News _ _ _ _ => N2
  refine while_c (σ := List Value × List κ × Int × Tok) (fun c => (l, listOf c.1.toArray n) :: news) (fun c => [(Str.ofString "pos", Value.int c.2.2.1 c.2.2.2)]) [Str.ofString "parentpos", Str.ofString "parent"]
    (fun c => Rels R c.1 c.2.1 ∧ 0 ≤ c.2.2.1 ∧ c.2.2.1 < c.2.1.length ∧ c.2.1.length = ks.length ∧ sdn lt (ks.getD k.toNat default) c.2.2.1.toNat c.2.1 c.2.2.1.toNat = sdn lt (ks.getD k.toNat default) k.toNat ks k.toNat) (fun c => c.2.2.1.toNat) (its, ks, k, t1) F2 N2 ?hk ⟨hR, h0, h1, rfl, rfl⟩ ?turn
  case hk => kst_all
  case turn =>
    rintro ⟨its1, ks1, pos, tk1⟩ u h tk ⟨hR1, hp0, hp1, hl1, hs1⟩ F3 N3
    dsimp only [kstB] at hR1 hp0 hp1 hl1 hs1 F3 N3 ⊢
    have hl2 := hR1.length
    have hnew : R (its.getD k.toNat .none) (ks.getD k.toNat default) := hR.getD default _ hK
    walk_at "GO"
    · refine Stop.mk ?_
      rename News _ _ _ _ => N4
      have hpar := hR1.getD default ((pos - 1) / 2).toNat (by omega)
      refine hC _ _ _ _ _ _ _ _ hnew hpar (fun p hp => (N4 p (.tail _ hp)).1) (by dsimp only [Around.deeper]; omega) ?_
      intro tk9
      have e : ((pos - 1) / 2).toNat = (pos.toNat - 1) / 2 := by omega
      walk_at "GO"
      · refine Stop.mk ?_
        rename Fr _ _ _ _ => F5
        rename News _ _ _ _ => N5
        rename (_ = true) => hc
        refine set_at F5 N5 (Upd.head hne) (by omega) (by omega) (by omega) ?_
        intro h9 F9 N9
        walk_at "GO"
        refine ksw_end (_, ks1.set pos.toNat (ks1.getD ((pos - 1) / 2).toNat default), _, _) (by assumption) (by assumption) (fun p hp => hp) trivial (by kst_all) (by walk_at "SAME") ⟨hR1.set hpar _, by dsimp only; omega, by dsimp only; rw [List.length_set]; omega, by dsimp only; rw [List.length_set]; omega, ?_⟩ (by dsimp only; omega)
        dsimp only
        rw [← hs1, e, sdn_go _ _ ks1 pos.toNat (by omega) (by rw [← e]; exact hc)]
      · refine Stop.mk ?_
        rename Fr _ _ _ _ => F5
        rename News _ _ _ _ => N5
        rename (_ = false) => hc
        refine set_at F5 N5 (Upd.head hne) (by omega) (by omega) (by omega) ?_
        intro h9 F9 N9
        walk_at "GO"
        refine hret _ _ _ ?_ (by assumption) (by assumption)
        rw [← hs1, sdn_stay _ _ _ _ (.inr (by rw [← e]; exact hc))]
        exact hR1.set hnew _
    · refine Stop.mk ?_
      rename Fr _ _ _ _ => F4
      rename News _ _ _ _ => N4
      refine set_at F4 N4 (Upd.head hne) (by omega) (by omega) (by omega) ?_
      intro h9 F9 N9
      walk_at "GO"
      refine hret _ _ _ ?_ (by assumption) (by assumption)
      rw [← hs1, sdn_stay _ _ _ _ (.inl (by omega))]
      exact hR1.set hnew _
end
section
local macro_rules | `(tactic| walk_at "PAD2") => `(tactic| skip)
theorem rst_Heap01 : True := by
  w_top off
  trivial
local macro_rules | `(tactic| omega) => `(tactic| lia)
local macro_rules | `(tactic| walk_at "compareOp Lt") => `(tactic| refine Stop.out ?_)
local macro_rules | `(tactic| walk_at "setItem ref int") => `(tactic| refine Stop.out ?_)
def sup {κ : Type} [Inhabited κ] (lt : κ → κ → Bool) : Nat → List κ → Nat → List κ × Nat
  | 0, ks, pos => (ks, pos)
  | f + 1, ks, pos =>
    if 2 * pos + 1 < ks.length then
      if 2 * pos + 2 < ks.length && !lt (ks.getD (2 * pos + 1) default) (ks.getD (2 * pos + 2) default) then sup lt f (ks.set pos (ks.getD (2 * pos + 2) default)) (2 * pos + 2)
      else sup lt f (ks.set pos (ks.getD (2 * pos + 1) default)) (2 * pos + 1)
    else (ks, pos)
theorem sup_fuel {κ : Type} [Inhabited κ] (lt : κ → κ → Bool) : ∀ (f f' : Nat) (ks : List κ) (pos : Nat), ks.length ≤ pos + f → ks.length ≤ pos + f' → sup lt f ks pos = sup lt f' ks pos
  | 0, 0, ks, pos, _, _ => rfl
  | 0, f' + 1, ks, pos, h, _ => by
    show (ks, pos) = if _ then _ else _
    rw [if_neg (by omega)]
  | f + 1, 0, ks, pos, _, h => by
    show (if _ then _ else _) = (ks, pos)
    rw [if_neg (by omega)]
  | f + 1, f' + 1, ks, pos, h1, h2 => by
    simp only [sup]
    split
    · split
      · exact sup_fuel lt f f' _ _ (by rw [List.length_set]; omega) (by rw [List.length_set]; omega)
      · exact sup_fuel lt f f' _ _ (by rw [List.length_set]; omega) (by rw [List.length_set]; omega)
    · rfl
theorem sup_right {κ : Type} [Inhabited κ] (lt : κ → κ → Bool) {n : Nat} {ks : List κ} {pos : Nat} (hn : ks.length = n) (h : 2 * pos + 2 < ks.length) (hl : lt (ks.getD (2 * pos + 1) default) (ks.getD (2 * pos + 2) default) = false) :
    sup lt n ks pos = sup lt n (ks.set pos (ks.getD (2 * pos + 2) default)) (2 * pos + 2) := by
  obtain ⟨f, rfl⟩ := Nat.exists_eq_succ_of_ne_zero (show n ≠ 0 by omega)
  conv => lhs; unfold sup
  rw [if_pos (by omega), if_pos (by rw [hl]; simp; omega)]
  exact sup_fuel lt _ _ _ _ (by rw [List.length_set]; omega) (by rw [List.length_set]; omega)
theorem sup_left {κ : Type} [Inhabited κ] (lt : κ → κ → Bool) {n : Nat} {ks : List κ} {pos : Nat} (hn : ks.length = n) (h : 2 * pos + 1 < ks.length) (hl : ks.length ≤ 2 * pos + 2 ∨ lt (ks.getD (2 * pos + 1) default) (ks.getD (2 * pos + 2) default) = true) :
    sup lt n ks pos = sup lt n (ks.set pos (ks.getD (2 * pos + 1) default)) (2 * pos + 1) := by
  obtain ⟨f, rfl⟩ := Nat.exists_eq_succ_of_ne_zero (show n ≠ 0 by omega)
  conv => lhs; unfold sup
  rw [if_pos h, if_neg (by
    intro q
    simp only [Bool.and_eq_true, decide_eq_true_eq, Bool.not_eq_true'] at q
    rcases hl with hl | hl
    · omega
    · rw [hl] at q; simp at q)]
  exact sup_fuel lt _ _ _ _ (by rw [List.length_set]; omega) (by rw [List.length_set]; omega)
theorem sup_end {κ : Type} [Inhabited κ] (lt : κ → κ → Bool) {n : Nat} {ks : List κ} {pos : Nat} (h : ks.length ≤ 2 * pos + 1) : sup lt n ks pos = (ks, pos) := by
  cases n with
  | zero => rfl
  | succ f => show (if _ then _ else _) = _; rw [if_neg (by omega)]
def siftup {κ : Type} [Inhabited κ] (lt : κ → κ → Bool) (ks : List κ) : List κ :=
  let r := sup lt ks.length ks 0
  sdn lt (ks.getD 0 default) r.2 (r.1.set r.2 (ks.getD 0 default)) r.2

theorem siftup_c {κ : Type} [Inhabited κ] {prog : Program} {w : World} {p : Program} {loose : List Str} {mean : ExcName → Option Value} {mg mb : Str → Option Value} {A A₀ : Around} {env : Env} {outer : List Env} {base h₀ : Heap} {L : Addr} {m : Str → Option Value} {s : Shared} {Q E : Value → Shared → Prop}
  {R : Value → κ → Prop} {lt : κ → κ → Bool} {l : Addr} {its : List Value} {ks : List κ} {n : Nat} {t0 : Tok} {news : List (Addr × Obj)}
  (B : Below A₀ base outer h₀) (F : Fr h₀ L s.heap m) (X : (hd01.heap_1 w.params).In h₀) (T : Top p loose mean mg mb h₀) (N : News h₀ L s.heap ((l, listOf its.toArray n) :: news))
  (hA : A.frames = some (env :: outer)) (hf : env.frame = some L) (hke : env.scope.kind = .function) (hh : A.handled = none) (hd : A.depth + 2 < recursionLimit) (hu : A.units + 40 < cLine)
  (hne : ∀ p ∈ news, p.1 ≠ l) (hC : Cmp prog w R lt news) (hR : Rels R its ks) (h1 : 0 < ks.length) (hz : ks.length < 2 ^ 20)
  (hret : ∀ (h' : Heap) (tk' : Nat) (its' : List Value), Rels R its' (siftup lt ks) → Fr h₀ L h' m → News h₀ L h' ((l, listOf its'.toArray n) :: news) →  Q (.none) { s with heap := h', toks := tk' }) :
  wpAny (model prog w) A (call (.ref 56) [.ref l, .int 0 t0]) Q E s := by
  obtain ⟨ah, dp, fr, gd, un⟩ := A
  dsimp only at hA hh hd hu
  subst hA hh
  have hl := hR.length
  refine wpAny_call ?_
  k_dflt (refine code_def B F X N T rfl hf hke (by k_is) (by k_is) (Nat.lt_of_succ_lt (Nat.lt_of_succ_lt hd)) (BindsTo.of_eq rfl) (locs rfl) ?_ rfl rfl rfl (by decide))
  intro g L' h₁ FG F1 N1 B1 X1 T1
  replace F1 : Fr g L' h₁ (fun y => List.lookup y [(Str.ofString "pos", Value.int 0 t0), (Str.ofString "heap", Value.ref l)]) := F1
  refine wpAny_noRaise ?_
  dsimp only
  k_fold
  walk_at "GO"
  refine Stop.mk ?_
  rename Fr _ _ _ _ => F2
  rename News _ _ _ _ => N2
  have hnew : R (its.getD 0 .none) (ks.getD 0 default) := hR.getD default _ h1
  refine' while_c (σ := List Value × List κ × Int × Tok × Int × Tok) (fun c => (l, listOf c.1.toArray n) :: news) (fun c => [(Str.ofString "pos", Value.int c.2.2.1 c.2.2.2.1), (Str.ofString "childpos", Value.int c.2.2.2.2.1 c.2.2.2.2.2)]) [Str.ofString "rightpos"]
    (fun c => Rels R c.1 c.2.1 ∧ 0 ≤ c.2.2.1 ∧ c.2.2.1 < c.2.1.length ∧ c.2.1.length = ks.length ∧ c.2.2.2.2.1 = 2 * c.2.2.1 + 1 ∧ sup lt ks.length c.2.1 c.2.2.1.toNat = sup lt ks.length ks 0) (fun c => ks.length - c.2.2.1.toNat) (its, ks, 0, _, _, _) F2 N2 ?hk ⟨hR, Int.le_refl 0, by dsimp only; omega, rfl, rfl, rfl⟩ ?turn
  case hk => kst_all
  case turn =>
    rintro ⟨its1, ks1, pos, tk1, cp, tk2⟩ u h tk ⟨hR1, hp0, hp1, hl1, hcp, hs1⟩ F3 N3
    dsimp only [kstB] at hR1 hp0 hp1 hl1 hcp hs1 F3 N3 ⊢
    have hl2 := hR1.length
    have e1 : cp.toNat = 2 * pos.toNat + 1 := by omega
    have e2 : (cp + 1).toNat = 2 * pos.toNat + 2 := by omega
    walk_at "GO"
    · refine Stop.mk ?_
      rename News _ _ _ _ => N4
      refine hC _ _ _ _ _ _ _ _ (hR1.getD default _ (by omega)) (hR1.getD default _ (by omega)) (fun p hp => (N4 p (.tail _ hp)).1) (by dsimp only [Around.deeper]; omega) ?_
      intro tk9
      dsimp only
      walk_at "GO"
      · rename (_ = true) => hc
        refine Stop.mk ?_
        rename Fr _ _ _ _ => F5
        rename News _ _ _ _ => N5
        refine set_at F5 N5 (Upd.head hne) (by omega) (by omega) (by omega) ?_
        intro h9 F9 N9
        walk_at "GO"
        refine ksw_end (_, ks1.set pos.toNat (ks1.getD cp.toNat default), _, _, _, _) (by assumption) (by assumption) (fun p hp => hp) trivial (by kst_all) (by walk_at "SAME") ⟨hR1.set (hR1.getD default _ (by omega)) _, by dsimp only; omega, by dsimp only; rw [List.length_set]; omega, by dsimp only; rw [List.length_set]; omega, rfl, ?_⟩ (by dsimp only; omega)
        dsimp only
        rw [← hs1, e1, sup_left lt hl1 (by omega) (.inr (by rw [← e1, ← e2]; exact hc))]
      · rename (_ = false) => hc
        refine Stop.mk ?_
        rename Fr _ _ _ _ => F5
        rename News _ _ _ _ => N5
        refine set_at F5 N5 (Upd.head hne) (by omega) (by omega) (by omega) ?_
        intro h9 F9 N9
        walk_at "GO"
        refine ksw_end (_, ks1.set pos.toNat (ks1.getD (cp + 1).toNat default), _, _, _, _) (by assumption) (by assumption) (fun p hp => hp) trivial (by kst_all) (by walk_at "SAME") ⟨hR1.set (hR1.getD default _ (by omega)) _, by dsimp only; omega, by dsimp only; rw [List.length_set]; omega, by dsimp only; rw [List.length_set]; omega, rfl, ?_⟩ (by dsimp only; omega)
        dsimp only
        rw [← hs1, e2, sup_right lt hl1 (by omega) (by rw [← e1, ← e2]; exact hc)]
    · refine Stop.mk ?_
      rename Fr _ _ _ _ => F5
      rename News _ _ _ _ => N5
      refine set_at F5 N5 (Upd.head hne) (by omega) (by omega) (by omega) ?_
      intro h9 F9 N9
      walk_at "GO"
      refine ksw_end (_, ks1.set pos.toNat (ks1.getD cp.toNat default), _, _, _, _) (by assumption) (by assumption) (fun p hp => hp) trivial (by kst_all) (by walk_at "SAME") ⟨hR1.set (hR1.getD default _ (by omega)) _, by dsimp only; omega, by dsimp only; rw [List.length_set]; omega, by dsimp only; rw [List.length_set]; omega, rfl, ?_⟩ (by dsimp only; omega)
      dsimp only
      rw [← hs1, e1, sup_left lt hl1 (by omega) (.inl (by omega))]
    · refine Stop.mk ?_
      rename Fr _ _ _ _ => F5
      rename News _ _ _ _ => N5
      refine set_at F5 N5 (Upd.head hne) (by omega) (by omega) (by omega) ?_
      intro h9 F9 N9
      walk_at "GO"
      refine Stop.mk ?_
      rename Fr _ _ _ _ => F6
      rename News _ _ _ _ => N6
      have hse : sup lt ks.length ks 0 = (ks1, pos.toNat) := by rw [← hs1, sup_end lt (by omega)]
      refine siftdown_c B1 F6 X1 T1 N6 rfl rfl rfl rfl (by dsimp only [Around.deeper]; omega) (by dsimp only [Around.deeper]; omega) hne hC (hR1.set hnew _) hp0 (by rw [List.length_set]; exact hp1) (by rw [List.length_set]; omega) ?_
      intro h7 tk7 its7 hR7 F7 N7
      walk_at "GO"
      refine hret _ _ _ ?_ (by assumption) (by assumption)
      unfold siftup
      rw [hse]
      have e3 : (ks1.set pos.toNat (ks.getD 0 default)).getD pos.toNat default = ks.getD 0 default := by
        rw [List.getD_eq_getElem?_getD, List.getElem?_set_self (by omega)]; rfl
      rw [e3] at hR7
      exact hR7
end
section
local macro_rules | `(tactic| walk_at "PAD3") => `(tactic| skip)
theorem rst_Ops01 : True := by
  w_top off
  trivial
local macro_rules | `(tactic| walk_at "setItem ref int") => `(tactic| refine Stop.out ?_)
local macro_rules | `(tactic| walk_at "call builtin:list.append") => `(tactic| refine Stop.out ?_)
local macro_rules | `(tactic| walk_at "call builtin:list.pop") => `(tactic| refine Stop.out ?_)
def push {κ : Type} [Inhabited κ] (lt : κ → κ → Bool) (ks : List κ) (x : κ) : List κ := sdn lt x ks.length (ks ++ [x]) ks.length
def pop {κ : Type} [Inhabited κ] (lt : κ → κ → Bool) (ks : List κ) : List κ := if 0 < ks.dropLast.length then siftup lt (ks.dropLast.set 0 (ks.getD (ks.length - 1) default)) else ks.dropLast
def repl {κ : Type} [Inhabited κ] (lt : κ → κ → Bool) (ks : List κ) (x : κ) : List κ := siftup lt (ks.set 0 x)
theorem heappush_c {κ : Type} [Inhabited κ] {prog : Program} {w : World} {p : Program} {loose : List Str} {mean : ExcName → Option Value} {mg mb : Str → Option Value} {A A₀ : Around} {env : Env} {outer : List Env} {base h₀ : Heap} {L : Addr} {m : Str → Option Value} {s : Shared} {Q E : Value → Shared → Prop}
  {R : Value → κ → Prop} {lt : κ → κ → Bool} {l : Addr} {its : List Value} {ks : List κ} {n : Nat} {news : List (Addr × Obj)} {x : Value} {kx : κ}
  (B : Below A₀ base outer h₀) (F : Fr h₀ L s.heap m) (X : (hd01.heap_1 w.params).In h₀) (T : Top p loose mean mg mb h₀) (N : News h₀ L s.heap ((l, listOf its.toArray n) :: news))
  (hA : A.frames = some (env :: outer)) (hf : env.frame = some L) (hke : env.scope.kind = .function) (hh : A.handled = none) (hd : A.depth + 3 < recursionLimit) (hu : A.units + 60 < cLine)
  (hne : ∀ p ∈ news, p.1 ≠ l) (hC : Cmp prog w R lt news) (hR : Rels R its ks) (hx : R x kx) (hz : ks.length < 2 ^ 19)
  (hret : ∀ (v : Value) (h' : Heap) (tk' : Nat) (its' : List Value) (n' : Nat), v = .none → Rels R its' (push lt ks kx) → Fr h₀ L h' m → News h₀ L h' ((l, listOf its'.toArray n') :: news) →  Q v { s with heap := h', toks := tk' }) :
  wpAny (model prog w) A (call (.ref 28) [.ref l, x]) Q E s := by
  obtain ⟨ah, dp, fr, gd, un⟩ := A
  dsimp only at hA hh hd hu
  subst hA hh
  have hl := hR.length
  refine wpAny_call ?_
  k_dflt (refine code_def B F X N T rfl hf hke (by k_is) (by k_is) (by dsimp only; omega) (BindsTo.of_eq rfl) (locs rfl) ?_ rfl rfl rfl (by decide))
  intro g L' h₁ FG F1 N1 B1 X1 T1
  replace F1 : Fr g L' h₁ (fun y => List.lookup y [(Str.ofString "item", x), (Str.ofString "heap", Value.ref l)]) := F1
  refine wpAny_noRaise ?_
  dsimp only
  k_fold
  walk_at "GO"
  refine Stop.mk ?_
  rename Fr _ _ _ _ => F2
  rename News _ _ _ _ => N2
  refine append_at F2 N2 (Upd.head hne) (by omega) ?_
  intro h9 F9 N9
  have hz2 : (its ++ [x]).length < 2 ^ 62 := by rw [List.length_append]; simp; omega
  walk_at "GO"
  refine Stop.mk ?_
  rename Fr _ _ _ _ => F6
  rename News _ _ _ _ => N6
  have hR2 := hR.append (Rels.cons hx .nil)
  have hlen : (its ++ [x]).length = ks.length + 1 := by rw [List.length_append]; simp; omega
  refine siftdown_c B1 F6 X1 T1 N6 rfl rfl rfl rfl (by dsimp only [Around.deeper]; omega) (by dsimp only [Around.deeper]; omega) hne hC hR2 (by omega) (by rw [List.length_append]; simp; omega) (by rw [List.length_append]; simp; omega) ?_
  intro h7 tk7 its7 hR7 F7 N7
  walk_at "GO"
  refine hret _ _ _ _ _ rfl ?_ (by assumption) (by assumption)
  have e1 : (((its ++ [x]).length : Int) - 1).toNat = ks.length := by omega
  rw [e1] at hR7
  have e2 : (ks ++ [kx]).getD ks.length default = kx := by simp [List.getD_eq_getElem?_getD]
  rw [e2] at hR7
  exact hR7
theorem heapreplace_c {κ : Type} [Inhabited κ] {prog : Program} {w : World} {p : Program} {loose : List Str} {mean : ExcName → Option Value} {mg mb : Str → Option Value} {A A₀ : Around} {env : Env} {outer : List Env} {base h₀ : Heap} {L : Addr} {m : Str → Option Value} {s : Shared} {Q E : Value → Shared → Prop}
  {R : Value → κ → Prop} {lt : κ → κ → Bool} {l : Addr} {its : List Value} {ks : List κ} {n : Nat} {news : List (Addr × Obj)} {x : Value} {kx : κ}
  (B : Below A₀ base outer h₀) (F : Fr h₀ L s.heap m) (X : (hd01.heap_1 w.params).In h₀) (T : Top p loose mean mg mb h₀) (N : News h₀ L s.heap ((l, listOf its.toArray n) :: news))
  (hA : A.frames = some (env :: outer)) (hf : env.frame = some L) (hke : env.scope.kind = .function) (hh : A.handled = none) (hd : A.depth + 3 < recursionLimit) (hu : A.units + 60 < cLine)
  (hne : ∀ p ∈ news, p.1 ≠ l) (hC : Cmp prog w R lt news) (hR : Rels R its ks) (hx : R x kx) (h1 : 0 < ks.length) (hz : ks.length < 2 ^ 19)
  (hret : ∀ (v : Value) (h' : Heap) (tk' : Nat) (its' : List Value) (n' : Nat), R v (ks.getD 0 default) → Rels R its' (repl lt ks kx) → Fr h₀ L h' m → News h₀ L h' ((l, listOf its'.toArray n') :: news) →  Q v { s with heap := h', toks := tk' }) :
  wpAny (model prog w) A (call (.ref 42) [.ref l, x]) Q E s := by
  obtain ⟨ah, dp, fr, gd, un⟩ := A
  dsimp only at hA hh hd hu
  subst hA hh
  have hl := hR.length
  refine wpAny_call ?_
  k_dflt (refine code_def B F X N T rfl hf hke (by k_is) (by k_is) (by dsimp only; omega) (BindsTo.of_eq rfl) (locs rfl) ?_ rfl rfl rfl (by decide))
  intro g L' h₁ FG F1 N1 B1 X1 T1
  replace F1 : Fr g L' h₁ (fun y => List.lookup y [(Str.ofString "item", x), (Str.ofString "heap", Value.ref l)]) := F1
  refine wpAny_noRaise ?_
  dsimp only
  k_fold
  walk_at "GO"
  refine Stop.mk ?_
  rename Fr _ _ _ _ => F2
  rename News _ _ _ _ => N2
  refine set_at F2 N2 (Upd.head hne) (by omega) (by omega) (by omega) ?_
  intro h9 F9 N9
  walk_at "GO"
  refine Stop.mk ?_
  rename Fr _ _ _ _ => F6
  rename News _ _ _ _ => N6
  refine siftup_c B1 F6 X1 T1 N6 rfl rfl rfl rfl (by dsimp only [Around.deeper]; omega) (by dsimp only [Around.deeper]; omega) hne hC (hR.set hx _) (by rw [List.length_set]; omega) (by rw [List.length_set]; omega) ?_
  intro h7 tk7 its7 hR7 F7 N7
  walk_at "GO"
  refine hret _ _ _ _ _ ?_ hR7 (by assumption) (by assumption)
  exact hR.getD default _ h1
theorem heappop_c {κ : Type} [Inhabited κ] {prog : Program} {w : World} {p : Program} {loose : List Str} {mean : ExcName → Option Value} {mg mb : Str → Option Value} {A A₀ : Around} {env : Env} {outer : List Env} {base h₀ : Heap} {L : Addr} {m : Str → Option Value} {s : Shared} {Q E : Value → Shared → Prop}
  {R : Value → κ → Prop} {lt : κ → κ → Bool} {l : Addr} {its : List Value} {ks : List κ} {n : Nat} {news : List (Addr × Obj)}
  (B : Below A₀ base outer h₀) (F : Fr h₀ L s.heap m) (X : (hd01.heap_1 w.params).In h₀) (T : Top p loose mean mg mb h₀) (N : News h₀ L s.heap ((l, listOf its.toArray n) :: news))
  (hA : A.frames = some (env :: outer)) (hf : env.frame = some L) (hke : env.scope.kind = .function) (hh : A.handled = none) (hd : A.depth + 3 < recursionLimit) (hu : A.units + 60 < cLine)
  (hne : ∀ p ∈ news, p.1 ≠ l) (hC : Cmp prog w R lt news) (hR : Rels R its ks) (h1 : 0 < ks.length) (hz : ks.length < 2 ^ 19)
  (hret : ∀ (v : Value) (h' : Heap) (tk' : Nat) (its' : List Value) (n' : Nat), R v (ks.getD 0 default) → Rels R its' (pop lt ks) → Fr h₀ L h' m → News h₀ L h' ((l, listOf its'.toArray n') :: news) →  Q v { s with heap := h', toks := tk' }) :
  wpAny (model prog w) A (call (.ref 35) [.ref l]) Q E s := by
  obtain ⟨ah, dp, fr, gd, un⟩ := A
  dsimp only at hA hh hd hu
  subst hA hh
  have hl := hR.length
  refine wpAny_call ?_
  k_dflt (refine code_def B F X N T rfl hf hke (by k_is) (by k_is) (by dsimp only; omega) (BindsTo.of_eq rfl) (locs rfl) ?_ rfl rfl rfl (by decide))
  intro g L' h₁ FG F1 N1 B1 X1 T1
  replace F1 : Fr g L' h₁ (fun y => List.lookup y [(Str.ofString "heap", Value.ref l)]) := F1
  refine wpAny_noRaise ?_
  dsimp only
  k_fold
  walk_at "GO"
  refine Stop.mk ?_
  rename Fr _ _ _ _ => F2
  rename News _ _ _ _ => N2
  refine pop_at F2 N2 (by omega) (by omega) (Upd.head hne) ?_
  intro h9 F9 N9
  have hR2 := hR.dropLast
  have hl3 := hR2.length
  have hl4 : ks.dropLast.length = ks.length - 1 := List.length_dropLast
  have hlast : R (its.getD (its.length - 1) .none) (ks.getD (ks.length - 1) default) := by rw [hl]; exact hR.getD default _ (by omega)
  walk_at "GO"
  · refine Stop.mk ?_
    rename Fr _ _ _ _ => F4
    rename News _ _ _ _ => N4
    refine set_at F4 N4 (Upd.head hne) (by omega) (by omega) (by omega) ?_
    intro h8 F8 N8
    walk_at "GO"
    refine Stop.mk ?_
    rename Fr _ _ _ _ => F6
    rename News _ _ _ _ => N6
    refine siftup_c B1 F6 X1 T1 N6 rfl rfl rfl rfl (by dsimp only [Around.deeper]; omega) (by dsimp only [Around.deeper]; omega) hne hC (hR2.set hlast _) (by rw [List.length_set]; omega) (by rw [List.length_set]; omega) ?_
    intro h7 tk7 its7 hR7 F7 N7
    walk_at "GO"
    refine hret _ _ _ _ _ ?_ ?_ (by assumption) (by assumption)
    · have := hR2.getD default 0 (by omega)
      have e : ks.dropLast.getD 0 default = ks.getD 0 default := by
        rw [List.getD_eq_getElem?_getD, List.getD_eq_getElem?_getD, List.getElem?_dropLast, if_pos (by omega)]
      rw [← e]; exact this
    · unfold pop
      rw [if_pos (by omega)]
      exact hR7
  · refine hret _ _ _ _ _ ?_ ?_ (by assumption) (by assumption)
    · have e : ks.length - 1 = 0 := by omega
      rw [e] at hlast
      exact hlast
    · unfold pop
      rw [if_neg (by omega)]
      exact hR2
end
section
theorem rst_Mach01 : True := by
  w_top off
  trivial
def ltI (a b : Int) : Bool := decide (a < b)
def dg (W : Nat) (x : Int) : List Int := digs W ((Builtin.Int.intBits x + W - 1) / W) x.toNat
structure MSt where
  hp : List Int
  last : Int
  rk : List Int
  ck : List Int
  col : Int
def weigh (ks : List Int) : Int := ((List.range ks.length).map fun (j : Nat) => ((j : Int) + 1) * ks.getD j 0).sum
def indentP (ks : List Int) (sz nt : Int) : Int := 0 + sz * (((List.range (ks.length - sz.toNat)).map fun (i : Nat) => (sz + i) / sz * ks.getD (sz.toNat + i) 0).sum + nt)
def msOk (n : Int) (W : Nat) (s : MSt) : Bool :=
  let number := s.hp.getD 0 0
  let ks := dg W number
  decide (s.last < number) && (weigh ks == n) && okC ks && decide (number.toNat < 2 ^ 200) && decide (0 < number) && decide (s.hp.length < 30) && decide (s.rk.length < 30) && decide (s.ck.length < 30) && decide ((partsOf ks).length ≤ 100) && decide (0 < (partsOf ks).length) && decide ((Builtin.Int.intBits number + W - 1) / W ≤ 100) && decide (ks.getD 0 0 < 100) && decide (((partsOf ks).map fun j => j.toNat + 1).sum ≤ 500)
def msNext (sz : Int) (W : Nat) (s : MSt) : MSt :=
  let number := s.hp.getD 0 0
  let ks := dg W number
  let nt := ((partsOf ks).length : Int)
  let gr := (ks.length : Int) - 1 + 1
  let lone := ks.getD 0 0
  let g := grown number W ks
  { hp := if g.length = 0 then pop ltI s.hp else (g.drop 1).foldl (push ltI) (repl ltI s.hp (g.getD 0 0)),
    last := number,
    rk := s.rk ++ [gr - nt],
    ck := s.ck ++ [if lone = 0 then gr else (ks.drop lone.toNat).sum - lone],
    col := s.col + indentP ks sz nt }
def msStep (n sz : Int) (W : Nat) (s : MSt) : Option MSt := if msOk n W s then some (msNext sz W s) else none
def msRun (n sz : Int) (W : Nat) : Nat → MSt → Option MSt
  | 0, s => if s.hp.length = 0 then some s else none
  | f + 1, s => if s.hp.length = 0 then some s else match msStep n sz W s with | some s' => msRun n sz W f s' | none => none
def overN (n W : Nat) : Nat := 2 ^ (W * (n + n * (n + 1) / 2))
def byN (n W : Nat) : Nat := (List.range n).foldl (fun b j => b * (2 ^ (W * (j + 1)) - 1)) 1
def bagsP (n W : Nat) : List Int := (dg W ((overN n W / byN n W : Nat) : Int)).reverse
def stopsP (n : Nat) (sz : Int) (bags : List Int) : Int :=
  ((List.range n).map fun (i : Nat) => ((List.range (n / (i + 1))).map fun (j : Nat) => -(-((i : Int) + 1) / sz) * bags.getD (n - (j + 1) * (i + 1)) 0).sum).sum
def shareOk (n : Nat) (bags told : List Int) (times : Int) : Bool :=
  (List.range (n + 1)).all fun (m : Nat) => ((told.count (m : Int) : Nat) : Int) == shareP bags n m times && ((told.count (-(m : Int)) : Nat) : Int) == shareP bags n m times
def mFin (n : Nat) (sz : Int) (W : Nat) (s : MSt) : Bool :=
  let bags := bagsP n W
  decide (0 < byN n W) && decide (byN n W < 2 ^ 900) && decide (overN n W < 2 ^ 900) && decide ((Builtin.Int.intBits (overN n W : Int) + Builtin.Int.intBits (byN n W : Int) - 1) / Builtin.Int.intBits (byN n W : Int) ≤ 100) && decide (overN n W / byN n W < 2 ^ 900) && decide ((Builtin.Int.intBits ((overN n W / byN n W : Nat) : Int) + W - 1) / W ≤ 100) && decide (bags.length = n + 1) && ((s.rk.length : Int) == bags.getD n 0) && shareOk n bags s.rk 3 && shareOk n bags s.ck 1 && (s.col == sz * stopsP n sz bags)
def mAll (n : Nat) (sz : Int) (W : Nat) : Bool := match msRun n sz W 16 ⟨[(n : Int)], 0, [], [], 0⟩ with | some s => mFin n sz W s | none => false
theorem mall_3 : ((List.range 4).all fun b => (List.range 8).all fun c => mAll 3 ((1 + b : Nat) : Int) (8 + c)) = true := by decide +kernel
theorem mall_4 : ((List.range 4).all fun b => (List.range 8).all fun c => mAll 4 ((1 + b : Nat) : Int) (8 + c)) = true := by decide +kernel
theorem mall_5 : ((List.range 4).all fun b => (List.range 8).all fun c => mAll 5 ((1 + b : Nat) : Int) (8 + c)) = true := by decide +kernel
theorem mall_6 : ((List.range 4).all fun b => (List.range 8).all fun c => mAll 6 ((1 + b : Nat) : Int) (8 + c)) = true := by decide +kernel
theorem mall_7 : ((List.range 4).all fun b => (List.range 8).all fun c => mAll 7 ((1 + b : Nat) : Int) (8 + c)) = true := by decide +kernel
theorem mall_use {n : Nat} (h : ((List.range 4).all fun b => (List.range 8).all fun c => mAll n ((1 + b : Nat) : Int) (8 + c)) = true) {b c : Nat} (hb : b < 4) (hc : c < 8) : ∃ res, msRun (n : Int) ((1 + b : Nat) : Int) (8 + c) 16 ⟨[(n : Int)], 0, [], [], 0⟩ = some res ∧ mFin n ((1 + b : Nat) : Int) (8 + c) res = true := by
  simp only [List.all_eq_true, List.mem_range] at h
  have h1 := h b hb c hc
  unfold mAll at h1
  split at h1
  · next s e => exact ⟨s, e, h1⟩
  · cases h1
theorem mall_run {a b c : Nat} (ha : a < 5) (hb : b < 4) (hc : c < 8) : ∃ res, msRun ((3 + a : Nat) : Int) ((1 + b : Nat) : Int) (8 + c) 16 ⟨[((3 + a : Nat) : Int)], 0, [], [], 0⟩ = some res ∧ mFin (3 + a) ((1 + b : Nat) : Int) (8 + c) res = true := by
  match a, ha with
  | 0, _ => exact mall_use mall_3 hb hc
  | 1, _ => exact mall_use mall_4 hb hc
  | 2, _ => exact mall_use mall_5 hb hc
  | 3, _ => exact mall_use mall_6 hb hc
  | 4, _ => exact mall_use mall_7 hb hc
theorem draws (tot : Int) (len : Nat) : ∃ (nn sz W : Nat) (res : MSt), 3 ≤ nn ∧ nn ≤ 7 ∧ 1 ≤ sz ∧ sz ≤ 4 ∧ 8 ≤ W ∧ W ≤ 15 ∧ 3 + (tot + 2) % 5 = (nn : Int) ∧ 1 + tot / 5 % 4 = (sz : Int) ∧ 8 + (len : Int) % 8 = (W : Int) ∧
    msRun (nn : Int) (sz : Int) W 16 ⟨[(nn : Int)], 0, [], [], 0⟩ = some res ∧ mFin nn (sz : Int) W res = true := by
  obtain ⟨a, ha, ea⟩ := mod_nat (tot + 2) 5 (by decide)
  obtain ⟨b, hb, eb⟩ := mod_nat (tot / 5) 4 (by decide)
  obtain ⟨c, hc, ec⟩ := mod_nat (len : Int) 8 (by decide)
  obtain ⟨res, h1, h2⟩ := mall_run ha hb hc
  refine ⟨3 + a, 1 + b, 8 + c, res, by omega, by omega, by omega, by omega, by omega, by omega, ?_, ?_, ?_, h1, h2⟩
  · have e : (tot + 2) % 5 = (a : Int) := ea
    rw [e]; omega
  · have e : tot / 5 % 4 = (b : Int) := eb
    rw [e]; omega
  · have e : (len : Int) % 8 = (c : Int) := ec
    rw [e]; omega
theorem ms_turn {n sz : Int} {W f : Nat} {s res : MSt} (h : msRun n sz W f s = some res) (hne : s.hp.length ≠ 0) : ∃ f', f = f' + 1 ∧ s.last < s.hp.getD 0 0 ∧ weigh (dg W (s.hp.getD 0 0)) = n ∧ okC (dg W (s.hp.getD 0 0)) = true ∧ (s.hp.getD 0 0).toNat < 2 ^ 200 ∧ 0 < s.hp.getD 0 0 ∧
    s.hp.length < 30 ∧ s.rk.length < 30 ∧ s.ck.length < 30 ∧ (partsOf (dg W (s.hp.getD 0 0))).length ≤ 100 ∧ 0 < (partsOf (dg W (s.hp.getD 0 0))).length ∧ (Builtin.Int.intBits (s.hp.getD 0 0) + W - 1) / W ≤ 100 ∧ (dg W (s.hp.getD 0 0)).getD 0 0 < 100 ∧ ((partsOf (dg W (s.hp.getD 0 0))).map fun j => j.toNat + 1).sum ≤ 500 ∧ msRun n sz W f' (msNext sz W s) = some res := by
  cases f with
  | zero =>
    rw [msRun, if_neg hne] at h; cases h
  | succ f =>
    rw [msRun, if_neg hne] at h
    unfold msStep at h
    by_cases hc : msOk n W s = true
    · rw [if_pos hc] at h
      unfold msOk at hc
      simp only [Bool.and_eq_true, decide_eq_true_eq, beq_iff_eq] at hc
      obtain ⟨⟨⟨⟨⟨⟨⟨⟨⟨⟨⟨⟨c1, c2⟩, c3⟩, c4⟩, c5⟩, c6⟩, c7⟩, c8⟩, c9⟩, c10⟩, c11⟩, c12⟩, c13⟩ := hc
      exact ⟨f, rfl, c1, c2, c3, c4, c5, c6, c7, c8, c9, c10, c11, c12, c13, h⟩
    · rw [if_neg hc] at h; cases h
theorem ms_end {n sz : Int} {W f : Nat} {s res : MSt} (h : msRun n sz W f s = some res) (hne : s.hp.length = 0) : s = res := by
  cases f with
  | zero => rw [msRun, if_pos hne] at h; exact Option.some.inj h
  | succ f => rw [msRun, if_pos hne] at h; exact Option.some.inj h
theorem mfin_get {n W : Nat} {sz : Int} {s : MSt} (h : mFin n sz W s = true) : 0 < byN n W ∧ byN n W < 2 ^ 900 ∧ overN n W < 2 ^ 900 ∧ (Builtin.Int.intBits (overN n W : Int) + Builtin.Int.intBits (byN n W : Int) - 1) / Builtin.Int.intBits (byN n W : Int) ≤ 100 ∧
    overN n W / byN n W < 2 ^ 900 ∧ (Builtin.Int.intBits ((overN n W / byN n W : Nat) : Int) + W - 1) / W ≤ 100 ∧ (bagsP n W).length = n + 1 ∧ (s.rk.length : Int) = (bagsP n W).getD n 0 ∧ shareOk n (bagsP n W) s.rk 3 = true ∧ shareOk n (bagsP n W) s.ck 1 = true ∧ s.col = sz * stopsP n sz (bagsP n W) := by
  unfold mFin at h
  simp only [Bool.and_eq_true, decide_eq_true_eq, beq_iff_eq] at h
  obtain ⟨⟨⟨⟨⟨⟨⟨⟨⟨⟨c1, c2⟩, c3⟩, c4⟩, c5⟩, c6⟩, c7⟩, c8⟩, c9⟩, c10⟩, c11⟩ := h
  exact ⟨c1, c2, c3, c4, c5, c6, c7, c8, c9, c10, c11⟩
theorem byN_succ (i W : Nat) : byN (i + 1) W = byN i W * (2 ^ (W * (i + 1)) - 1) := by
  unfold byN
  rw [List.range_succ, List.foldl_append]; rfl
theorem byN_le (W : Nat) : ∀ i, byN i W ≤ 2 ^ (W * (i * i))
  | 0 => by simp [byN]
  | i + 1 => by
    rw [byN_succ]
    have h1 := byN_le W i
    have h2 : byN i W * (2 ^ (W * (i + 1)) - 1) ≤ 2 ^ (W * (i * i)) * 2 ^ (W * (i + 1)) := Nat.mul_le_mul h1 (Nat.sub_le _ _)
    rw [← Nat.pow_add] at h2
    refine Nat.le_trans h2 (Nat.pow_le_pow_right (by decide) ?_)
    rw [← Nat.mul_add]
    refine Nat.mul_le_mul_left _ ?_
    have e : (i + 1) * (i + 1) = i * i + i + i + 1 := by rw [Nat.add_mul, Nat.mul_add]; omega
    omega
theorem byN_cast (i W : Nat) : ((byN (i + 1) W : Nat) : Int) = (byN i W : Int) * (2 ^ (W * (i + 1)) - 1) := by
  rw [byN_succ, Int.natCast_mul, Int.natCast_sub (Nat.one_le_two_pow)]
  simp
end
section
theorem rst_Ws01 : True := by
  w_top off
  trivial
local macro_rules | `(tactic| omega) => `(tactic| lia)
abbrev wsEnt (w : World) (ws : Str) (t k1 k2 k3 k4 k5 tn tnt : Tok) (n nt : Int) (an : Addr) (bs : Bool) : List DictEntry :=
  [⟨PyData.keyHash w.params (Str.ofString "raw"), .str (Str.ofString "raw") k1, .str ws t⟩, ⟨PyData.keyHash w.params (Str.ofString "n"), .str (Str.ofString "n") k2, .int n tn⟩, ⟨PyData.keyHash w.params (Str.ofString "nt"), .str (Str.ofString "nt") k3, .int nt tnt⟩,
   ⟨PyData.keyHash w.params (Str.ofString "norm"), .str (Str.ofString "norm") k4, .ref an⟩, ⟨PyData.keyHash w.params (Str.ofString "is_simple"), .str (Str.ofString "is_simple") k5, .bool bs⟩]
theorem init_c {prog : Program} {w : World} {p : Program} {loose : List Str} {mean : ExcName → Option Value} {mg mb : Str → Option Value} {A A₀ : Around} {env : Env} {outer : List Env} {base h₀ : Heap} {L : Addr} {m : Str → Option Value} {s : Shared} {R : Result → Shared → Prop}
  {news : List (Addr × Obj)} {x dx : Addr} {ws : Str} {t : Tok}
  (B : Below A₀ base outer h₀) (F : Fr h₀ L s.heap m) (X : (hd01.heap_1 w.params).In h₀) (T : Top p loose mean mg mb h₀) (N : News h₀ L s.heap ((x, instObj 160 dx) :: (dx, dictOf [] 0) :: news))
  (hA : A.frames = some (env :: outer)) (hf : env.frame = some L) (hke : env.scope.kind = .function) (hh : A.handled = none) (hd : A.depth + 10 < recursionLimit) (hu : A.units + 100 < cLine)
  (hlt : ∀ p ∈ news, p.1 < dx) (hxd : dx < x) (ha : ws.cps.all (· < 128) = true) (hz : ws.cps.size < 1000)
  (hret : ∀ (an D : Addr) (its : List Value) (ks : List Int) (h' : Heap) (tk' : Nat) (k1 k2 k3 k4 k5 tn tnt tb : Tok) (n nt b : Int) (bs : Bool), Rels IntR its ks → wsRun ws.cps.toList [] 0 0 0 = (ks, b.toNat, n.toNat, nt.toNat) → 0 ≤ b → 0 ≤ n → 0 ≤ nt → ks.length < 1000 → Fr h₀ L h' m →
    News h₀ L h' ((an, tupOf [.ref D, .int b tb]) :: (D, tupOf its) :: (x, instObj 160 dx) :: (dx, dictOf (wsEnt w ws t k1 k2 k3 k4 k5 tn tnt n nt an bs) 5) :: news) → x < D → D < an → R (.ok (.ret .none)) { s with heap := h', toks := tk' })
  : codeAny (model prog w) A (.call (.ref 115) ⟨[.ref x, .str ws t], []⟩) R s := by
  obtain ⟨ah, dp, fr, gd, un⟩ := A
  dsimp only at hA hh hd hu
  subst hA hh
  k_dflt (refine code_def B F X N T rfl hf hke (by k_is) (by k_is) (by dsimp only; omega) (BindsTo.of_eq rfl) (locs rfl) ?_ rfl rfl rfl (by decide))
  intro g L' h₁ FG F1 N1 B1 X1 T1
  replace F1 : Fr g L' h₁ (fun y => List.lookup y [(Str.ofString "ws", Value.str ws t), (Str.ofString "self", Value.ref x)]) := F1
  refine wpAny_noRaise ?_
  dsimp only
  k_fold
  have hxd' := ltN hxd
  walk_at "GO"
  refine Stop.mk ?_
  rename Fr _ _ _ _ => F4
  rename News _ _ _ _ => N4
  rename_i lc _ hlc _ _ _ _
  obtain ⟨od, hod, N5⟩ := news_ws N4
  refine' iter_str_c (σ := Addr × List Value × List Int × Nat × Int × Tok × Int × Tok × Int × Tok) (fun c => (c.1, listOf c.2.1.toArray c.2.2.2.1) :: (x, instObj 160 dx) :: (dx, od) :: news)
    (fun c => [(Str.ofString "count", Value.ref c.1), (Str.ofString "b", Value.int c.2.2.2.2.1 c.2.2.2.2.2.1), (Str.ofString "n", Value.int c.2.2.2.2.2.2.1 c.2.2.2.2.2.2.2.1), (Str.ofString "nt", Value.int c.2.2.2.2.2.2.2.2.1 c.2.2.2.2.2.2.2.2.2)]) [Str.ofString "_"]
    (fun i c => Rels IntR c.2.1 c.2.2.1 ∧ c.2.2.1.length ≤ i ∧ 0 ≤ c.2.2.2.2.1 ∧ c.2.2.2.2.1 ≤ i ∧ 0 ≤ c.2.2.2.2.2.2.1 ∧ 0 ≤ c.2.2.2.2.2.2.2.2.1 ∧ (∀ p ∈ (x, instObj 160 dx) :: (dx, od) :: news, p.1 < c.1) ∧ wsRun (ws.cps.toList.drop i) c.2.2.1 c.2.2.2.2.1.toNat c.2.2.2.2.2.2.1.toNat c.2.2.2.2.2.2.2.2.1.toNat = wsRun ws.cps.toList [] 0 0 0) (lc, [], [], 0, 0, _, 0, _, 0, _) rfl F4 N5 ?hk ?h0 ha ?turn ?done
  case hk => kst_all
  case h0 =>
    refine ⟨.nil, Nat.le_refl _, Int.le_refl _, Int.le_refl _, Int.le_refl _, Int.le_refl _, ?_, rfl⟩
    intro p hp
    rcases List.mem_cons.mp hp with rfl | hp
    · exact hlc.2.1
    · rcases List.mem_cons.mp hp with rfl | hp
      · exact hlc.2.2.1
      · exact kst_ltOf hlc.2.2.2 p hp
  case turn =>
    rintro i ch tc ⟨la, its, ks, ep, b, tb, n, tn, nt, tnt⟩ u h tk I oI hi hch ⟨hR, hkl, hb0, hbi, hn0, hnt0, hla, hrun⟩ hneI F5 N6
    dsimp only [kstB] at hR hkl hb0 hbi hn0 hnt0 hla hrun hneI F5 N6 ⊢
    have hl := hR.length
    have hchs : ws.cps.toList.drop i = ch :: ws.cps.toList.drop (i + 1) := by
      have h7 : ws.cps.toList[i]? = some ch := by simpa using hch
      obtain ⟨h8, h9⟩ := List.getElem?_eq_some_iff.mp h7
      rw [List.drop_eq_getElem_cons h8, h9]
    rw [hchs] at hrun
    walk_at "GO"
    · rename (_ = true) => hc
      rw [sp_eq, ch_one, decide_eq_true_eq] at hc
      refine fend (la, its, ks, ep, _, _, _, _, _, _) (by assumption) (by assumption) (fun p hp => .tail _ hp) (.head _) hneI (by kst_all) (by walk_at "SAMEF") ⟨hR, by dsimp only; omega, by dsimp only; omega, by dsimp only; omega, by dsimp only; omega, hnt0, hla, ?_⟩
      dsimp only
      rw [wsRun, if_pos hc] at hrun
      have e1 : (b + 1).toNat = b.toNat + 1 := by omega
      have e2 : (n + 1).toNat = n.toNat + 1 := by omega
      rw [e1, e2, hrun]
    · refine Stop.mk ?_
      rename (_ = false) => hc1
      rename (_ = true) => hc
      rw [tab_eq, ch_one, decide_eq_true_eq] at hc
      rename Fr _ _ _ _ => F6
      rename News _ _ _ _ => N7
      refine rep_int_at F6 N7 (.head _) (by omega) (by omega) ?_
      intro l3 its3 h3 hl3a hR3 F7 N8 hl3
      dsimp only
      walk_at "GO"
      refine Stop.mk ?_
      rename Fr _ _ _ _ => F8
      rename News _ _ _ _ => N9
      refine cat_at F8 N9 (.tail _ (.tail _ (.tail _ (.head _)))) (.head _) (by omega) ?_
      intro l4 h4 F9 N10 hl4
      dsimp only
      have hR4 := hR.append hR3
      have hl5 : (its ++ its3).length = b.toNat + 1 := by rw [List.length_append]; omega
      have hl6 : (ks ++ List.replicate (b - (its.length : Int) + 1).toNat (0 : Int)).length = b.toNat + 1 := by
        rw [List.length_append, List.length_replicate]; omega
      walk_at "GO"
      rename Fr _ _ _ _ => F10
      rename News _ _ _ _ => N11
      refine set_int_at _ F10 N11 (fun _ => Upd.head fun p hp => Nat.ne_of_lt (hl4 p hp)) hR4 (by omega) (by omega) (by omega) ?_
      intro its12 h12 hl12 hR12 F12 N12
      dsimp only
      walk_at "GO"
      refine fend (l4, its12, (ks ++ List.replicate (b - (its.length : Int) + 1).toNat (0 : Int)).set b.toNat ((ks ++ List.replicate (b - (its.length : Int) + 1).toNat (0 : Int)).getD b.toNat 0 + 1), 0, 0, _, _, _, _, _) (by assumption) (by assumption) ?_ (.tail _ (.tail _ (.tail _ (.head _)))) ?_ (by kst_all) (by walk_at "SAMEF") ⟨hR12, by dsimp only; rw [List.length_set]; omega, Int.le_refl _, by dsimp only; omega, by dsimp only; omega, by dsimp only; omega, ?_, ?_⟩
      · intro p hp
        rcases List.mem_cons.mp hp with rfl | hp
        · exact .head _
        · exact .tail _ (.tail _ (.tail _ (.tail _ (.tail _ hp))))
      · intro p hp
        rcases List.mem_cons.mp hp with rfl | hp
        · exact (Nat.ne_of_lt (hl4 (I, oI) (.tail _ (.tail _ (.head _))))).symm
        · exact hneI p (.tail _ hp)
      · intro p hp
        exact hl4 p (.tail _ (.tail _ (.tail _ (.tail _ hp))))
      · dsimp only
        have hc32 : ch ≠ 32 := by omega
        rw [wsRun, if_neg hc32, if_pos hc] at hrun
        have e2 : (n + 1).toNat = n.toNat + 1 := by omega
        have e3 : (nt + 1).toNat = nt.toNat + 1 := by omega
        have e4 : (b - (its.length : Int) + 1).toNat = b.toNat - ks.length + 1 := by omega
        have e5 : wsTab ks b.toNat = (ks ++ List.replicate (b - (its.length : Int) + 1).toNat (0 : Int)).set b.toNat ((ks ++ List.replicate (b - (its.length : Int) + 1).toNat (0 : Int)).getD b.toNat 0 + 1) := by
          unfold wsTab; rw [if_pos (by omega), e4]
        rw [e2, e3, ← e5]
        exact hrun
    · rename (_ = true) => hc
      rw [tab_eq, ch_one, decide_eq_true_eq] at hc
      rename Fr _ _ _ _ => F10
      rename News _ _ _ _ => N11
      refine set_int_at _ F10 N11 (fun _ => Upd.tail (hneI _ (.head _)).symm (Upd.head fun p hp => Nat.ne_of_lt (hla p hp))) hR (by omega) (by omega) (by omega) ?_
      intro its12 h12 hl12 hR12 F12 N12
      dsimp only
      walk_at "GO"
      refine fend (la, its12, ks.set b.toNat (ks.getD b.toNat 0 + 1), ep, 0, _, _, _, _, _) (by assumption) (by assumption) (fun p hp => .tail _ hp) (.head _) ?_ (by kst_all) (by walk_at "SAMEF") ⟨hR12, by dsimp only; rw [List.length_set]; omega, Int.le_refl _, by dsimp only; omega, by dsimp only; omega, by dsimp only; omega, hla, ?_⟩
      · intro p hp
        rcases List.mem_cons.mp hp with rfl | hp
        · exact hneI (la, listOf its.toArray ep) (.head _)
        · exact hneI p (.tail _ hp)
      · dsimp only
        have hc32 : ch ≠ 32 := by omega
        rw [wsRun, if_neg hc32, if_pos hc] at hrun
        have e2 : (n + 1).toNat = n.toNat + 1 := by omega
        have e3 : (nt + 1).toNat = nt.toNat + 1 := by omega
        have e5 : wsTab ks b.toNat = ks.set b.toNat (ks.getD b.toNat 0 + 1) := by
          unfold wsTab; rw [if_neg (by omega)]
        rw [e2, e3, ← e5]
        exact hrun
    · replace N6 := news_tail N6
      rename (_ = false) => hc2
      rw [tab_eq, ch_one, decide_eq_false_iff_not] at hc2
      rename ((_ == Str.ofString " ") = false) => hc1
      rw [sp_eq, ch_one, decide_eq_false_iff_not] at hc1
      subst hod
      have hne1 := ltN (hla _ (.head _))
      have hne2 := ltN (hla _ (.tail _ (.head _)))
      dsimp only at hne1 hne2
      walk_at "GO"
      refine Stop.mk ?_
      rename Fr _ _ _ _ => F20
      rename News _ _ _ _ => N20
      refine tuple_at F20 N20 (.head _) (by omega) ?_
      intro D h21 F21 N21 hD
      have q1 := ltN (hD _ (.head _))
      have q2 := ltN (hD _ (.tail _ (.head _)))
      have q3 := ltN (hD _ (.tail _ (.tail _ (.head _))))
      dsimp only at q1 q2 q3 ⊢
      walk_at "GO"
      rename News _ _ _ _ => N22
      rename (D < _ ∧ _) => hDa
      refine hret _ D its ks _ _ _ _ _ _ _ _ _ _ n nt b _ hR ?_ hb0 hn0 hnt0 (by omega) (by assumption) (news_re7 N22) q2 hDa.1
      rw [← hrun, wsRun, if_neg hc1, if_neg hc2]
  case done =>
    · rintro ⟨la, its, ks, ep, b, tb, n, tn, nt, tnt⟩ u h tk ⟨hR, hkl, hb0, hbi, hn0, hnt0, hla, hrun⟩ F5 N6
      dsimp only [kstB] at hR hkl hb0 hbi hn0 hnt0 hla hrun F5 N6 ⊢
      have hl := hR.length
      subst hod
      have hne1 := ltN (hla _ (.head _))
      have hne2 := ltN (hla _ (.tail _ (.head _)))
      dsimp only at hne1 hne2
      walk_at "GO"
      refine Stop.mk ?_
      rename Fr _ _ _ _ => F20
      rename News _ _ _ _ => N20
      refine tuple_at F20 N20 (.head _) (by omega) ?_
      intro D h21 F21 N21 hD
      have q1 := ltN (hD _ (.head _))
      have q2 := ltN (hD _ (.tail _ (.head _)))
      have q3 := ltN (hD _ (.tail _ (.tail _ (.head _))))
      dsimp only at q1 q2 q3 ⊢
      walk_at "GO"
      rename News _ _ _ _ => N22
      rename (D < _ ∧ _) => hDa
      refine hret _ D its ks _ _ _ _ _ _ _ _ _ _ n nt b _ hR ?_ hb0 hn0 hnt0 (by omega) (by assumption) (news_re7 N22) q2 hDa.1
      rw [← hrun, List.drop_eq_nil_of_le (by simp), wsRun]
end
section
theorem rst_LawH01 : True := by
  w_top off
  trivial
def lawDef : Option (List Stmt × Scope) := match PySem.Challenge.pw_qj0011_01.main.body.getLast? with
  | some (.FunctionDef _ _ b _ _ _ sc _ _ _) => some (b, sc)
  | _ => none
def lawB : List Stmt := match lawDef with | some x => x.1 | none => []
def lawSc : Scope := match lawDef with | some x => x.2 | none => default
def wBody : List Stmt := match lawB.drop 10 with | .While _ b _ _ :: _ => b | _ => []
abbrev lawEnv (L fa : Addr) (cd : Value) : Env := envOfC (Str.ofString "law") lawSc L fa cd
structure LSt where
  lh : Addr
  ith : List Value
  nh : Nat
  lrk : Addr
  itr : List Value
  nr : Nat
  lck : Addr
  itc : List Value
  nc : Nat
  tlast : Tok
  tcol : Tok
  cc : Obj
  tab : List (Addr × Obj)
  ms : MSt
  f : Nat
abbrev restL (L lt : Addr) (itst : List Value) (wb osz on : Obj) (c : LSt) : List (Addr × Obj) :=
  (c.lh, listOf c.ith.toArray c.nh) :: (c.lrk, listOf c.itr.toArray c.nr) :: (c.lck, listOf c.itc.toArray c.nc) :: (lt, listOf itst.toArray 0) :: (L + 1 + 1 + 1 + 1, wb) :: (L + 1 + 1, osz) :: (L + 1, on) :: (79, tabObj #[]) :: []
def lpn : List Str := [Str.ofString "heap", Str.ofString "ranks", Str.ofString "cranks", Str.ofString "columns", Str.ofString "last", Str.ofString "turns", Str.ofString "width"]
def lst0 : List Str := [Str.ofString "number", Str.ofString "white", Str.ofString "greatest", Str.ofString "lone", Str.ofString "grown", Str.ofString "gone", Str.ofString "further"]
abbrev lps (lt : Addr) (W : Nat) (tW : Tok) (c : LSt) : List (Str × Value) :=
  [(Str.ofString "heap", Value.ref c.lh), (Str.ofString "ranks", Value.ref c.lrk), (Str.ofString "cranks", Value.ref c.lck), (Str.ofString "columns", Value.int c.ms.col c.tcol), (Str.ofString "last", Value.int c.ms.last c.tlast), (Str.ofString "turns", Value.ref lt), (Str.ofString "width", Value.int (W : Int) tW)]
def Same (m' m : Str → Option Value) : Prop := ∀ z, (∀ q ∈ lpn, z ≠ q) → (∀ q ∈ lst0, z ≠ q) → m' z = m z
theorem Same.trans {a b c : Str → Option Value} (h : Same a b) (h' : Same b c) : Same a c := fun z h1 h2 => (h z h1 h2).trans (h' z h1 h2)
theorem fr_ext {h₀ h : Heap} {L : Addr} {m : Str → Option Value} {ps : List (Str × Value)} (F : Fr h₀ L h m) (hk : ∀ p ∈ ps, m p.1 = some p.2) : Fr h₀ L h (kstB m ps) := by
  have e : kstB m ps = m := by
    clear F
    funext y
    induction ps with
    | nil => rfl
    | cons p r ih =>
      show (if y = p.1 then some p.2 else kstB m r y) = m y
      by_cases e : y = p.1
      · rw [if_pos e, e]; exact (hk p (.head _)).symm
      · rw [if_neg e, ih fun q hq => hk q (.tail _ hq)]
  rw [e]; exact F
def Sep (L : Addr) (lt : Addr) (c : LSt) : Prop :=
  @List.Nodup Nat [c.lh, L + 3, c.lrk, c.lck, lt, L + 4, L + 2, L + 1, 79] ∧ ∀ q ∈ c.tab, ∀ x ∈ ([c.lh, L + 3, c.lrk, c.lck, lt, L + 4, L + 2, L + 1, 79] : List Nat), q.1 ≠ x
theorem Sep.cell {L lt : Addr} {itst : List Value} {wb osz on : Obj} {c : LSt} (h : Sep L lt c) : ∀ p ∈ restL L lt itst wb osz on c ++ c.tab, p.1 ≠ L + 1 + 1 + 1 := by
  intro p hp
  obtain ⟨h1, h2⟩ := h
  rcases List.mem_append.mp hp with hp | hp
  · have a1 := List.nodup_cons.mp h1
    have a2 := List.nodup_cons.mp a1.2
    rcases List.mem_cons.mp hp with e | hp
    · rw [e]; exact fun q => a1.1 (by rw [show c.lh = L + 3 from q]; exact .head _)
    · intro q
      refine a2.1 ?_
      have hm : p.1 ∈ ((restL L lt itst wb osz on c).drop 1).map (·.1) := List.mem_map.mpr ⟨p, hp, rfl⟩
      rw [show p.1 = L + 3 from q] at hm
      exact hm
  · exact h2 p hp _ (.tail _ (.head _))
theorem Sep.heap {L lt : Addr} {itst : List Value} {wb osz on : Obj} {c : LSt} (h : Sep L lt c) (cc : Obj) : ∀ p ∈ (L + 1 + 1 + 1, cc) :: ((restL L lt itst wb osz on c).drop 1 ++ c.tab), p.1 ≠ c.lh := by
  intro p hp
  obtain ⟨h1, h2⟩ := h
  rcases List.mem_append.mp (show p ∈ ((L + 1 + 1 + 1, cc) :: (restL L lt itst wb osz on c).drop 1) ++ c.tab from hp) with hp | hp
  · have a1 := List.nodup_cons.mp h1
    intro q
    refine a1.1 ?_
    have hm : p.1 ∈ ((L + 1 + 1 + 1, cc) :: (restL L lt itst wb osz on c).drop 1).map (·.1) := List.mem_map.mpr ⟨p, hp, rfl⟩
    rw [q] at hm
    exact hm
  · exact h2 p hp _ (.head _)
theorem Sep.dj {L lt : Addr} {itst : List Value} {wb osz on : Obj} {c : LSt} (h : Sep L lt c) (cc : Obj) : Dj c.tab ((L + 1 + 1 + 1, cc) :: restL L lt itst wb osz on c) := by
  intro q hq p hp
  refine h.2 q hq p.1 ?_
  have hm : p.1 ∈ ((L + 1 + 1 + 1, cc) :: restL L lt itst wb osz on c).map (·.1) := List.mem_map.mpr ⟨p, hp, rfl⟩
  rcases List.mem_cons.mp hm with e | hm
  · rw [e]; exact .tail _ (.head _)
  · rcases List.mem_cons.mp hm with e | hm
    · rw [e]; exact .head _
    · exact .tail _ (.tail _ hm)
end
section
local macro_rules | `(tactic| walk_at "PAD0") => `(tactic| skip)
theorem rst_Lead01 : True := by
  w_top off
  trivial
open PyProof.Rows.LCg
def oneStr (j : Int) : Str := Txt.mul (Str.ofString " ") j ++ Str.ofString "\t"
theorem oneStr_cps (j : Int) (h : 0 ≤ j) : (oneStr j).cps.toList = List.replicate j.toNat 32 ++ [9] := by
  obtain ⟨k, rfl⟩ := Int.eq_ofNat_of_zero_le h
  unfold oneStr
  rw [str_append, mul_cps, tab_eq, Int.toNat_natCast]
theorem oneStr_len (j : Int) (h : 0 ≤ j) : (oneStr j).length = j.toNat + 1 := by
  show (oneStr j).cps.size = _
  rw [← Array.length_toList, oneStr_cps j h]; simp
theorem lens_le (b : Nat) : ∀ ps : List Int, (∀ x ∈ ps, 0 ≤ x ∧ x < b) → ((ps.map oneStr).map (·.length)).sum ≤ ps.length * b
  | [], _ => by simp
  | x :: r, h => by
    have h1 := h x (.head _)
    have h2 := lens_le b r fun y hy => h y (.tail _ hy)
    simp only [List.map_cons, List.sum_cons, List.length_cons]
    rw [oneStr_len x h1.1, Nat.succ_mul]; omega
theorem strs_of_rel {ps : List Int} {ys : List Value} (hl : ys.length = ps.length) (h : ∀ i, i < ps.length → ∃ t, ys.getD i .none = Value.str (oneStr (ps.getD i 0)) t) : StrsAre ys (ps.map oneStr) := by
  induction ps generalizing ys with
  | nil => rw [List.eq_nil_of_length_eq_zero hl]; exact .nil
  | cons p r ih =>
    cases ys with
    | nil => simp at hl
    | cons y q =>
      obtain ⟨t, e⟩ := h 0 (by simp)
      have e' : y = Value.str (oneStr p) t := by simpa using e
      subst e'
      refine .cons _ _ (ih (by simpa using hl) fun i hi => ?_)
      obtain ⟨t', e'⟩ := h (i + 1) (by simpa using hi)
      exact ⟨t', by simpa using e'⟩
theorem lead_c {prog : Program} {w : World} {p : Program} {loose : List Str} {mean : ExcName → Option Value} {mg mb : Str → Option Value} {A A₀ : Around} {env : Env} {outer : List Env} {base h₀ : Heap} {L : Addr} {m : Str → Option Value} {s : Shared} {Q E : Value → Shared → Prop}
  {news : List (Addr × Obj)} {lc : Addr} {its : List Value} {ks : List Int} {nn : Nat} {tv : Int} {tt : Tok}
  (B : Below A₀ base outer h₀) (F : Fr h₀ L s.heap m) (X : (hd01.heap_1 w.params).In h₀) (T : Top p loose mean mg mb h₀) (N : News h₀ L s.heap news)
  (hA : A.frames = some (env :: outer)) (hf : env.frame = some L) (hke : env.scope.kind = .function) (hh : A.handled = none) (hd : A.depth + 10 < recursionLimit) (hu : A.units + 100 < cLine)
  (hlc : (lc, listOf its.toArray nn) ∈ news) (hR : Rels IntR its ks) (hkl : ks.length < 100) (hpos : ∀ i, 0 ≤ ks.getD i 0) (hfl : (flatR (fun i => (i : Int)) (fun i => (ks.getD i 0).toNat) ks.length).length ≤ 100) (hf0 : 0 < (flatR (fun i => (i : Int)) (fun i => (ks.getD i 0).toNat) ks.length).length)
  (hret : ∀ (ws : Str) (t : Tok) (h' : Heap) (tk' : Nat), ws.cps.toList = (leadRot ks tv).flatMap (fun j => List.replicate j.toNat 32 ++ [9]) ++ [120, 9, 32] → ws.cps.size ≤ 20000 → Fr h₀ L h' m → News h₀ L h' news → Q (.str ws t) { s with heap := h', toks := tk' }) :
  wpAny (model prog w) A (call (.ref 169) [.ref lc, .int tv tt]) Q E s := by
  obtain ⟨ah, dp, fr, gd, un⟩ := A
  dsimp only at hA hh hd hu
  subst hA hh
  have hl := hR.length
  refine wpAny_call ?_
  k_dflt (refine code_defC B F X N T rfl hf hke (by k_is) (by k_is) (by dsimp only; omega) (BindsTo.of_eq rfl) rfl (by decide +kernel) ?_ rfl rfl rfl)
  intro g L' h₁ tk0 cells FG F1 N1 Y B1 X1 T1 l1
  k_cells Y
  simp only [List.cons_append, List.nil_append] at N1
  refine wpAny_noRaise ?_
  try dsimp only
  k_fold
  rename_i oc dc
  replace dc : oc.data = .cell (some (.ref lc)) := dc
  walk_at "GO"
  rename Fr _ _ _ _ => F4
  k_dflt (refine asg_comp2 (n := ks.length) (cnt := fun i => (ks.getD i 0).toNat) F4 rfl rfl rfl (by decide) rfl (by decide) rfl rfl (by decide) rfl rfl rfl rfl (Nat.le_trans hfl (by decide)) (by omega) ?_ (by intro _; rfl) (by intro _ _; rfl))
  walk_at "GO"
  rename Fr _ _ _ _ => F5
  rename News _ _ _ _ => N5
  rename IsRange _ _ _ _ _ _ _ _ => hrg
  rw [hl] at hrg
  refine ⟨_, _, _, _, _, rfl, F5, N5, hrg, ?inner, ?fin⟩
  case inner =>
    intro i ti C oC m₂ h tk hi hoC hm2 F6 N6
    dsimp only
    walk_at "GO"
    rename IsRange _ _ _ _ _ _ _ _ => hrg2
    rename (∀ b o, _ → _) => hk2
    have e1 : ks.getD (i : Int).toNat 0 = (((ks.getD i 0).toNat : Nat) : Int) := by
      rw [Int.toNat_natCast]; exact (Int.toNat_of_nonneg (hpos i)).symm
    rw [e1] at hrg2
    exact ⟨_, _, _, _, _, _, rfl, rfl, hrg2, hk2⟩
  case fin =>
    intro D h tk ys hRy F6 N6 hoff
    dsimp only
    have hyl := hRy.length
    have hmem0 : ∀ x ∈ flatR (fun i => (i : Int)) (fun i => (ks.getD i 0).toNat) ks.length, 0 ≤ x ∧ x < ks.length := fun x hx => flatR_mem hx
    unfold leadRot partsOf at hret
    generalize hfd : flatR (fun i => (i : Int)) (fun i => (ks.getD i 0).toNat) ks.length = ps at *
    have hIy := rels_ints hRy
    have hb0 : 0 ≤ tv % (ys.length : Int) := Int.emod_nonneg _ (by omega)
    have hb1 : tv % (ys.length : Int) < ys.length := Int.emod_lt_of_pos _ (by omega)
    walk_at "GO"
    refine Stop.mk ?_
    rename Fr _ _ _ _ => F7
    k_dflt (refine comp1_list (fun i y => ∃ t, y = Value.str (oneStr ((ps.drop (tv % (ys.length : Int)).toNat ++ ps.take (tv % (ys.length : Int)).toNat).getD i 0)) t) F7 rfl (by decide) rfl (by decide) rfl rfl ?_ (by intro _; rfl))
    walk_at "GO"
    refine Stop.mk ?_
    rename Fr _ _ _ _ => F8
    rename News _ _ _ _ => N8
    rename_i D1 w1 _ hI1 _ _ hl1 D2 w2 _ hI2 _ _ hl2
    refine cat_int_at0 F8 N8 (.tail _ (.head _)) (.head _) (ints_rels hI1) (ints_rels hI2) (by rw [List.length_drop, List.length_take]; omega) ?_
    intro l9 its9 h9 hR9 F9 N9 hl9
    have hl9n := hR9.length
    have hrl : (ps.drop (tv % (ys.length : Int)).toNat ++ ps.take (tv % (ys.length : Int)).toNat).length = ps.length := by
      rw [List.length_append, List.length_drop, List.length_take]; omega
    have hmem : ∀ x ∈ ps.drop (tv % (ys.length : Int)).toNat ++ ps.take (tv % (ys.length : Int)).toNat, 0 ≤ x ∧ x < ks.length := fun x hx => by
      rcases List.mem_append.mp hx with hx | hx
      · exact hmem0 x (List.mem_of_mem_drop hx)
      · exact hmem0 x (List.mem_of_mem_take hx)
    rw [← hyl] at hret
    generalize hrot : ps.drop (tv % (ys.length : Int)).toNat ++ ps.take (tv % (ys.length : Int)).toNat = rot at *
    refine ⟨l9, its9, 0, _, rfl, F9, N9, .head _, by omega, ?elem, ?fin2⟩
    case elem =>
      intro g0 i v I oI C oC D9 oD m₂ h tk hi hP hoC hm2 F10 N10 hoff10 hne10
      obtain ⟨tk9, ek9⟩ := hR9.getD (0 : Int) i (by omega)
      have ev : v = Value.int (rot.getD i 0) tk9 := by
        rw [← ek9, List.getD_eq_getElem?_getD, hP]; rfl
      subst ev
      dsimp only
      walk_at "GO"
      have hri : i < rot.length := by omega
      have hmi := hmem (rot.getD i 0) (by rw [List.getD_eq_getElem?_getD, List.getElem?_eq_getElem hri]; exact List.getElem_mem _)
      refine SB.mul (mulOk_of 16 1000 (by decide) (by omega) (by omega) (by decide) (by decide)) ?_
      intro t11 tk11
      dsimp only
      walk_at "GO"
      have hml : (Txt.mul (Str.ofString " ") (rot.getD i 0)).length ≤ 1000 := by
        have h1 := len_mul (Str.ofString " ") (rot.getD i 0)
        have h2 : (Str.ofString " ").length = 1 := rfl
        rw [h2] at h1
        split at h1 <;> omega
      refine PyProof.Rows.add_str ?_ (by rw [sizeLine_eq]; have : (Str.ofString "\t").length = 1 := rfl; omega)
      intro t13 tk13
      refine elt1 F10 N10 (fun p hp => hp) ?_
      exact ⟨_, rfl⟩
    case fin2 =>
      intro D9 h tk ys9 hrel F10 N10 hoff10
      dsimp only
      walk_at "GO"
      have hss := strs_of_rel (hrel.1.trans hl9n) (fun i hi => hrel.2 i (by omega))
      have hll := lens_le ks.length rot hmem
      have hlb : rot.length * ks.length ≤ 100 * 100 := Nat.mul_le_mul (by omega) (by omega)
      refine join_listW (isL N10 (.head _)) hss (by decide) (by rw [List.length_map]; omega) ?_
      intro t12 tk12
      rw [txt_join]
      have hj := join_cps (Str.ofString "") rfl (rot.map oneStr)
      have hjl : (Str.join (Str.ofString "") (rot.map oneStr)).length ≤ 10000 := by
        have := StrLaws.join_length_le (Str.ofString "") (rot.map oneStr)
        have e0 : (Str.ofString "").length = 0 := rfl
        rw [e0] at this; omega
      have hj2 : (Str.join (Str.ofString "") (rot.map oneStr)).cps.toList = rot.flatMap (fun j => List.replicate j.toNat 32 ++ [9]) := by
        rw [hj, List.flatMap_map]
        have : ∀ r : List Int, (∀ x ∈ r, 0 ≤ x ∧ x < ks.length) → r.flatMap (fun j => (oneStr j).cps.toList) = r.flatMap (fun j => List.replicate j.toNat 32 ++ [9]) := by
          intro r hr
          induction r with
          | nil => rfl
          | cons x r ih => rw [List.flatMap_cons, List.flatMap_cons, oneStr_cps x (hr x (.head _)).1, ih fun y hy => hr y (.tail _ hy)]
        exact this rot hmem
      generalize Str.join (Str.ofString "") (rot.map oneStr) = jn at *
      dsimp only
      walk_at "GO"
      have hsz : ∀ z : Str, z.cps.size = z.cps.toList.length := fun z => Array.length_toList.symm
      have hx3 : (Str.ofString "x\t ").cps.toList = [120, 9, 32] := by decide +kernel
      refine hret _ _ _ _ ?_ ?_ (by assumption) (by (rename News h₀ _ _ _ => N99); exact fun p hp => N99 p (.tail _ (.tail _ (.tail _ (.tail _ (.tail _ (.tail _ hp)))))))
      · rw [str_append, hj2, hx3]
      · rw [hsz, str_append, hx3, List.length_append, ← hsz]
        have : jn.cps.size = jn.length := rfl
        simp; omega
end
section
theorem rst_Inner01 : True := by
  w_top off
  trivial
local macro_rules | `(tactic| omega) => `(tactic| lia)
def fnAt (K : Frag) (f : Addr) (i : Nat) : Option (Arguments × List Stmt × Scope) := match K.lookup f with
  | some ⟨_, _, .func fd, _⟩ => (match fd.body with
    | .stmts b => (match b[i]? with
      | some (.FunctionDef _ params body _ _ _ scope _ _ _) => some (params, body, scope)
      | _ => none)
    | _ => none)
  | _ => none
local macro_rules | `(tactic| walk_at "setItem ref int") => `(tactic| refine Stop.out ?_)
local macro_rules | `(tactic| walk_at "eval Name") => `(tactic| (k_dflt (refine nameX_F (by assumption) rfl (List.Mem.tail _ (by assumption)) (by assumption) ?_)))
local macro_rules | `(tactic| walk_at "callWith ref") => `(tactic| (k_dflt (refine callWith_F (FnAt.of (by assumption) (List.Mem.tail _ (by assumption))) ?_)))
local macro_rules | `(tactic| walk_at "And") => `(tactic| ((with_reducible show FnAt _ _ ∧ _); refine ⟨FnAt.of (by assumption) (List.Mem.tail _ (by assumption)), ?_⟩; try dsimp only [List.nil_append, List.cons_append]))

theorem inner_c {prog : Program} {w : World} {p : Program} {loose : List Str} {mean : ExcName → Option Value} {mg mb : Str → Option Value} {params : Arguments} {body : List Stmt} {scope : Scope} (hfd : fnAt (hd01.heap_1 w.params) 77 1 = some (params, body, scope))
  (W : Nat) (hW : 0 < W) (hW2 : W < 2 ^ 20) : ∀ (cnt : Nat) {A A₀ : Around} {env : Env} {outer : List Env} {base h₀ : Heap} {L : Addr} {m : Str → Option Value} {s : Shared} {Q E : Value → Shared → Prop} {qual : Str} {doc pm ctv : Value} {c' f ca cn ci : Addr} {oa on oi oc : Obj} {tn tq : Tok} {vs : Array Value}
  {l : Addr} {its : List Value} {ks : List Int} {n : Nat} {news : List (Addr × Obj)} {x lo hi : Int} {tx tl th : Tok}
  (_ : Below A₀ base outer h₀) (_ : Fr h₀ L s.heap m) (_ : (hd01.heap_1 w.params).In h₀) (_ : Top p loose mean mg mb h₀) (_ : News h₀ L s.heap ((l, listOf its.toArray n) :: news))
  (_ : A.frames = some (env :: outer)) (_ : env.frame = some L) (_ : env.scope.kind = .function) (_ : A.handled = none) (_ : A.depth + cnt < recursionLimit) (_ : A.units + 20 * cnt < cLine)
  (_ : ∀ p ∈ news, p.1 ≠ l) (_ : (f, fnMade (Str.ofString "inner") qual params body scope [(Str.ofString "n", cn), (Str.ofString "inner", ci), (Str.ofString "a_digits", ca)] doc pm c' ctv) ∈ news) (_ : (c', oc) ∈ news) (_ : oc.data = .fields vs) (_ : vs[1]? = some (.str qual tq))
  (_ : (ca, oa) ∈ news) (_ : oa.data = .cell (some (.ref l))) (_ : (cn, on) ∈ news) (_ : on.data = .cell (some (.int W tn))) (_ : (ci, oi) ∈ news) (_ : oi.data = .cell (some (.ref f)))
  (_ : Rels IntR its ks) (_ : ks.length < 2 ^ 20) (_ : 0 ≤ lo) (_ : hi = lo + cnt) (_ : 0 < cnt) (_ : hi ≤ ks.length) (_ : 0 ≤ x) (_ : x.toNat < 2 ^ (W * cnt)) (_ : W * cnt < 2 ^ 20)
  (_ : ∀ (h' : Heap) (tk' : Nat) (its' : List Value), Rels IntR its' (ks.take lo.toNat ++ digs W cnt x.toNat ++ ks.drop hi.toNat) → Fr h₀ L h' m → News h₀ L h' ((l, listOf its'.toArray n) :: news) →  Q .none { s with heap := h', toks := tk' }),
  wpAny (model prog w) A (call (.ref f) [.int x tx, .int lo tl, .int hi th]) Q E s := by
  have e := hfd.symm.trans (show fnAt (hd01.heap_1 w.params) 77 1 = some _ from rfl)
  simp only [Option.some.injEq, Prod.mk.injEq] at e
  obtain ⟨rfl, rfl, rfl⟩ := e
  intro cnt
  induction cnt using Nat.strongRecOn with
  | ind cnt ih =>
    intro A A₀ env outer base h₀ L m s Q E qual doc pm ctv c' f ca cn ci oa on oi oc tn tq vs l its ks n news x lo hi tx tl th B F X T N hA hf hke hh hd hu hne hfn hc1 hc2 hc3 ha1 ha2 hn1 hn2 hi1 hi2 hR hz h0 hhi hcnt hlen hx hxl hWc hret
    obtain ⟨ah, dp, fr, gd, un⟩ := A
    dsimp only at hA hh hd hu
    subst hA hh
    have hl := hR.length
    refine wpAny_call ?_
    k_dflt (refine code_nest B F X N T rfl hf hke (List.Mem.tail _ hfn) (codeRec_news N (List.Mem.tail _ hc1) hc2 hc3) (by dsimp only; omega) (BindsTo.of_eq rfl) (locs rfl) ?_ rfl rfl rfl (by decide))
    intro g L' h₁ FG F1 N1 B1 X1 T1
    replace F1 : Fr g L' h₁ (fun y => List.lookup y [(Str.ofString "R", Value.int hi th), (Str.ofString "L", Value.int lo tl), (Str.ofString "x", Value.int x tx)]) := F1
    refine wpAny_noRaise ?_
    dsimp only
    k_fold
    obtain ⟨X0, rfl⟩ := Int.eq_ofNat_of_zero_le hx
    simp only [Int.toNat_natCast] at hxl hret
    have eS : ((lo + hi) / 2 - lo) * (W : Int) = ((W * (cnt / 2) : Nat) : Int) := by
      have e9 : (lo + hi) / 2 - lo = ((cnt / 2 : Nat) : Int) := by omega
      rw [e9, Int.natCast_mul]; exact Int.mul_comm _ _
    have hWa : W * (cnt / 2) ≤ W * cnt := Nat.mul_le_mul_left _ (Nat.div_le_self _ _)
    walk_at "GO"
    · refine Stop.mk ?_
      rename Fr _ _ _ _ => F5
      rename News _ _ _ _ => N5
      have hc1' : cnt = 1 := by omega
      subst hc1'
      refine set_at F5 N5 (Upd.head hne) (by omega) (by omega) (by omega) ?_
      intro h9 F9 N9
      walk_at "GO"
      refine hret _ _ _ ?_ (by assumption) (by assumption)
      have e1 : digs W 1 X0 = [(X0 : Int)] := by
        simp only [digs]; rw [Nat.mod_eq_of_lt (by simpa using hxl)]
      have e2 : hi.toNat = lo.toNat + 1 := by omega
      have e3 : ks.take lo.toNat ++ digs W 1 X0 ++ ks.drop hi.toNat = ks.set lo.toNat (X0 : Int) := by
        rw [e1, e2, List.set_eq_take_append_cons_drop, if_pos (by omega)]; simp
      rw [e3]
      exact hR.set ⟨_, rfl⟩ _
    · refine Stop.mk ?_
      rw [eS]
      refine rshift_a (by omega) ?_
      intro t5 tk5
      rw [Int.toNat_natCast, cast_div]
      dsimp only
      walk_at "GO"
      refine Stop.mk ?_
      rw [eS]
      refine lshift_a (by omega) ?_ ?_
      · have := bits_le (X0 / 2 ^ (W * (cnt / 2))) (W * cnt) (Nat.lt_of_le_of_lt (Nat.div_le_self _ _) hxl)
        omega
      intro t6 tk6
      rw [Int.toNat_natCast, cast_mul]
      dsimp only
      walk_at "GO"
      refine Stop.mk ?_
      refine xor_a ?_
      intro t7 tk7
      rw [bitXor_low]
      dsimp only
      walk_at "GO"
      refine Stop.mk ?_
      rename Fr _ _ _ _ => F5
      rename News _ _ _ _ => N5
      have hlen1 : lo.toNat ≤ ks.length := by omega
      have e1 : ((lo + hi) / 2).toNat = lo.toNat + cnt / 2 := by omega
      have e2 : hi.toNat = lo.toNat + cnt / 2 + (cnt - cnt / 2) := by omega
      have ec : cnt / 2 + (cnt - cnt / 2) = cnt := by omega
      refine ih (cnt / 2) (by omega) B1 F5 X1 T1 N5 rfl rfl rfl rfl (by dsimp only [Around.deeper]; omega) (by dsimp only [Around.deeper]; omega) hne hfn hc1 hc2 hc3 ha1 ha2 hn1 hn2 hi1 hi2 hR hz h0 (by omega) (by omega) (by omega) (by omega) (by rw [Int.toNat_natCast]; exact Nat.mod_lt _ (Nat.two_pow_pos _)) (by omega) ?_
      intro h6 tk6 its6 hR6 F6 N6
      dsimp only
      rw [Int.toNat_natCast] at hR6
      have hl6 := hR6.length
      have hlk : (ks.take lo.toNat ++ digs W (cnt / 2) (X0 % 2 ^ (W * (cnt / 2))) ++ ks.drop ((lo + hi) / 2).toNat).length = ks.length := by
        simp only [List.length_append, List.length_take, List.length_drop, digs_length]; omega
      walk_at "GO"
      refine Stop.mk ?_
      rename Fr _ _ _ _ => F7
      rename News _ _ _ _ => N7
      refine ih (cnt - cnt / 2) (by omega) B1 F7 X1 T1 N7 rfl rfl rfl rfl (by dsimp only [Around.deeper]; omega) (by dsimp only [Around.deeper]; omega) hne hfn hc1 hc2 hc3 ha1 ha2 hn1 hn2 hi1 hi2 hR6 (by rw [hlk]; exact hz) (by omega) (by omega) (by omega) (by rw [hlk]; exact hlen) (Int.natCast_nonneg _) (by rw [Int.toNat_natCast]; exact div_bound (by rw [ec]; exact hxl)) (Nat.lt_of_le_of_lt (Nat.mul_le_mul_left _ (Nat.sub_le _ _)) hWc) ?_
      intro h8 tk8 its8 hR8 F8 N8
      walk_at "GO"
      refine hret _ _ _ ?_ (by assumption) (by assumption)
      rw [Int.toNat_natCast, e1, e2, splice_take _ _ _ _ (digs_length _ _ _) hlen1, splice_drop _ _ _ _ _ (digs_length _ _ _) hlen1, List.append_assoc (ks.take lo.toNat), ← digs_append, ec, ← e2] at hR8
      exact hR8
end
section
theorem rst_I2d01 : True := by
  w_top off
  trivial
local macro_rules | `(tactic| walk_at "exec FunctionDef") => `(tactic| refine Stop.out ?_)
theorem int2digits_c {prog : Program} {w : World} {p : Program} {loose : List Str} {mean : ExcName → Option Value} {mg mb : Str → Option Value} {A A₀ : Around} {env : Env} {outer : List Env} {base h₀ : Heap} {L : Addr} {m : Str → Option Value} {s : Shared} {Q E : Value → Shared → Prop}
  {tab news : List (Addr × Obj)} {x W : Int} {tx tw : Tok}
  (B : Below A₀ base outer h₀) (F : Fr h₀ L s.heap m) (X : (hd01.heap_1 w.params).In h₀) (T : Top p loose mean mg mb h₀) (N : News h₀ L s.heap (tab ++ news))
  (hA : A.frames = some (env :: outer)) (hf : env.frame = some L) (hke : env.scope.kind = .function) (hh : A.handled = none) (hd : A.depth + 120 < recursionLimit) (hu : A.units + 3000 < cLine)
  (C : CodeHd h₀ 76 72) (hT : TabL 72 77 4 (Str.ofString "_int2digits.<locals>.inner") tab) (hne : Dj tab news)
  (hx : 0 ≤ x) (hW : 0 < W) (hW2 : W < 1000) (hb : x.toNat < 2 ^ 900) (hc100 : (Builtin.Int.intBits x + W.toNat - 1) / W.toNat ≤ 100)
  (hret : ∀ (l : Addr) (h' : Heap) (tk' : Nat) (its : List Value) (n : Nat) (tab' : List (Addr × Obj)), Rels IntR its (digs W.toNat ((Builtin.Int.intBits x + W.toNat - 1) / W.toNat) x.toNat) → Fr h₀ L h' m → News h₀ L h' ((l, listOf its.toArray n) :: tab' ++ news) →
    TabL 72 77 4 (Str.ofString "_int2digits.<locals>.inner") tab' → (∀ p ∈ tab' ++ news, p.1 ≠ l) → Dj tab' news → Q (.ref l) { s with heap := h', toks := tk' }) :
  wpAny (model prog w) A (call (.ref 77) [.int x tx, .int W tw]) Q E s := by
  obtain ⟨ah, dp, fr, gd, un⟩ := A
  dsimp only at hA hh hd hu
  subst hA hh
  refine wpAny_call ?_
  k_dflt (refine code_defC B F X N T rfl hf hke (by k_is) (by k_is) (by dsimp only; omega) (BindsTo.of_eq rfl) rfl (by decide +kernel) ?_ rfl rfl rfl)
  intro g L' h₁ tk0 cells FG F1 N1 Y B1 X1 T1 l1
  k_cells Y
  simp only [List.cons_append, List.nil_append] at N1
  refine wpAny_noRaise ?_
  try dsimp only
  k_fold
  rename_i oi oa on di da dn
  replace di : oi.data = .cell none := di
  replace da : oa.data = .cell none := da
  replace dn : on.data = .cell (some (.int W tw)) := dn
  walk_at "GO"
  refine Stop.mk ?_
  rename Fr _ _ _ _ => F2
  rename News _ _ _ _ => N2
  rename (_ < _ ∧ _) => hlt2
  obtain ⟨q1, q2, q3, _⟩ := hlt2
  obtain ⟨X0, rfl⟩ := Int.eq_ofNat_of_zero_le hx
  obtain ⟨W0, rfl⟩ := Int.eq_ofNat_of_zero_le (Int.le_of_lt hW)
  simp only [Int.toNat_natCast] at hb hret hc100
  have hbits : Builtin.Int.intBits (X0 : Int) ≤ 900 := bits_le X0 900 hb
  have hK : ((Builtin.Int.intBits (X0 : Int) : Int) + (W0 : Int) - 1) / (W0 : Int) = (((Builtin.Int.intBits (X0 : Int) + W0 - 1) / W0 : Nat) : Int) := by
    rw [Int.natCast_ediv]
    congr 1
    omega
  have hK2 : (Builtin.Int.intBits (X0 : Int) + W0 - 1) / W0 ≤ Builtin.Int.intBits (X0 : Int) := by
    rcases Nat.eq_zero_or_pos (Builtin.Int.intBits (X0 : Int)) with hz | hz
    · rw [hz, Nat.div_eq_of_lt (by omega)]; exact Nat.le_refl _
    apply Nat.div_le_of_le_mul
    obtain ⟨w1, rfl⟩ := Nat.exists_eq_succ_of_ne_zero (show W0 ≠ 0 by omega)
    · have hm : w1 * 1 ≤ w1 * Builtin.Int.intBits (X0 : Int) := Nat.mul_le_mul_left _ hz
      rw [Nat.succ_mul]; omega
  rw [hK]
  generalize hcnt : (Builtin.Int.intBits (X0 : Int) + W0 - 1) / W0 = cnt at *
  refine rep_at F2 N2 (.head _) (by omega) (by omega) ?_
  intro l2 h2 F3 N3 hl2
  rw [Int.toNat_natCast] at N3
  have hl3 := ltN (hl2 (L' + 1 + 1 + 1, oi) (.tail _ (.head _)))
  dsimp only at hl3 ⊢
  have hLt : ∀ q ∈ tab ++ news, q.1 ≠ L' + 1 + 1 := fun q hq => Nat.ne_of_lt (Nat.lt_trans (l1 q hq) (by omega))
  k_dflt (refine storeX_C F3 N3 rfl (UpdF.tail (by refine neN ?_; dsimp only; omega) (UpdF.tail (by refine neN ?_; dsimp only; omega) (UpdF.tail (by refine neN ?_; dsimp only; omega) (UpdF.head ?_)))) da ?_)
  · intro q hq
    rcases List.mem_cons.mp hq with rfl | hq
    · refine neN ?_; dsimp only; omega
    · exact hLt q hq
  intro h4 oa' F4 N4 da'
  walk_at "GO"
  refine Stop.mk ?_
  k_dflt (refine nestDef_K rfl rfl rfl ?_)
  rename Fr _ _ _ _ => F5
  have hlt : ∀ p ∈ tab ++ news, ∀ b : Nat, @LE.le Nat _ L' b → p.1 ≠ b := fun p hp b hb => Nat.ne_of_lt (Nat.lt_of_lt_of_le (l1 p hp) hb)
  have N5 : News g L' h4 (tab ++ ((l2, listOf (List.replicate cnt (Value.int 0 tk0)).toArray 0) :: (L' + 1 + 1 + 1, oi) :: (L' + 1 + 1, oa') :: (L' + 1, on) :: news)) := fun p hp => N4 p (by
    simp only [List.mem_cons, List.mem_append] at hp ⊢
    rcases hp with h | h | h | h | h | h <;> simp [h])
  have hdj : Dj tab ((l2, listOf (List.replicate cnt (Value.int 0 tk0)).toArray 0) :: (L' + 1 + 1 + 1, oi) :: (L' + 1 + 1, oa') :: (L' + 1, on) :: news) := by
    intro q hq p hp
    simp only [List.mem_cons] at hp
    have h9 := hlt q (List.mem_append_left _ hq)
    rcases hp with rfl | rfl | rfl | rfl | hp
    · exact h9 _ (by dsimp only; omega)
    · exact h9 _ (by dsimp only; omega)
    · exact h9 _ (by dsimp only; omega)
    · exact h9 _ (by dsimp only; omega)
    · exact hne q hq p hp
  k_dflt (refine nest_any F5 N5 T1 (C.keeps FG.keep) rfl hT rfl rfl hdj rfl ?_)
  intro f c' oc vs t9 ctv doc h5 tk5 tab' F6 N6 hT' hc1 hc2 hc3 hf5 hdj'
  have hff : ∀ q ∈ tab' ++ ((l2, listOf (List.replicate cnt (Value.int 0 tk0)).toArray 0) :: (L' + 1 + 1 + 1, oi) :: (L' + 1 + 1, oa') :: (L' + 1, on) :: news), q.1 ≠ f := fun q hq => Nat.ne_of_lt (hf5 q hq)
  have N7 := news_re1 N6
  k_dflt (refine storeX_C F6 N7 rfl (UpdF.head ?_) di ?_)
  · intro p hp
    simp only [List.mem_cons, List.mem_append] at hp
    rcases hp with rfl | rfl | rfl | rfl | hp | hp
    · exact (hff (L' + 1 + 1 + 1, oi) (by simp)).symm
    · refine neN ?_; dsimp only; omega
    · refine neN ?_; dsimp only; omega
    · refine neN ?_; dsimp only; omega
    · exact hdj' p hp (L' + 1 + 1 + 1, oi) (by simp)
    · exact hlt p (List.mem_append_right _ hp) _ (by omega)
  intro h6 oi' F7 N8 di'
  dsimp only
  have hrl : (List.replicate cnt (Value.int 0 tk0)).length = cnt := List.length_replicate
  have hdj2 : Dj tab' news := fun q hq p hp => hdj' q hq p (by simp [hp])
  have hl2ne : ∀ p ∈ tab' ++ news, p.1 ≠ l2 := by
    intro p hp
    rcases List.mem_append.mp hp with hp | hp
    · exact hdj' p hp (l2, listOf (List.replicate cnt (Value.int 0 tk0)).toArray 0) (by simp)
    · exact hlt p (List.mem_append_right _ hp) _ (by omega)
  walk_at "GO"
  · refine Stop.mk ?_
    rename Fr _ _ _ _ => F9
    have hX0 : X0 ≠ 0 := by rename (_ ≠ _) => h9; omega
    have hbp := bits_pos X0 hX0
    have hup := up_div (Builtin.Int.intBits (X0 : Int)) W0 (by omega)
    rw [hcnt] at hup
    have hcp : 0 < cnt := by
      rcases Nat.eq_zero_or_pos cnt with h | h
      · rw [h] at hup; omega
      · exact h
    have hWc : W0 * cnt < 2 ^ 20 := Nat.lt_of_le_of_lt (Nat.mul_le_mul (show W0 ≤ 999 by omega) (show cnt ≤ 1000 by omega)) (by decide)
    have N9 := news_re2 N8
    refine inner_c (rfl : fnAt (hd01.heap_1 w.params) 77 1 = some (_, _, _)) W0 (by omega) (by omega) cnt B1 F9 X1 T1 N9 rfl rfl rfl rfl (by dsimp only [Around.deeper]; omega) (by dsimp only [Around.deeper]; omega) ?_ (.head _) (.tail _ (.tail _ (.tail _ (.tail _ (List.mem_append_left _ hc1))))) hc2 hc3 (.tail _ (.tail _ (.head _))) da' (.tail _ (.tail _ (.tail _ (.head _)))) dn (.tail _ (.head _)) di' (Rels.replicate ⟨_, rfl⟩ _) (by rw [List.length_replicate]; omega) (Int.le_refl 0) (by omega) hcp (by rw [hrl, List.length_replicate]; exact Int.le_refl _) (by omega) (by rw [Int.toNat_natCast]; exact Nat.lt_of_lt_of_le (bits_lt X0) (Nat.pow_le_pow_right (by decide) hup)) hWc ?_
    · intro p hp
      simp only [List.mem_cons] at hp
      rcases hp with rfl | rfl | rfl | rfl | hp
      · exact (hff (l2, listOf (List.replicate cnt (Value.int 0 tk0)).toArray 0) (by simp)).symm
      · refine neN ?_; dsimp only; omega
      · refine neN ?_; dsimp only; omega
      · refine neN ?_; dsimp only; omega
      · exact hl2ne p hp
    intro h7 tk7 its7 hR7 F10 N10
    walk_at "GO"
    rename News _ _ _ _ => N11
    refine hret l2 _ _ its7 0 tab' ?_ (by assumption) (fun p hp => N11 p ?_) hT' hl2ne hdj2
    · simpa using hR7
    · simp only [List.cons_append, List.mem_cons, List.mem_append] at hp ⊢
      rcases hp with h | h | h <;> simp [h]
  · have hX0 : X0 = 0 := by omega
    rename News _ _ _ _ => N11
    have hc0 : cnt = 0 := by
      rw [← hcnt, hX0]
      exact Nat.div_eq_of_lt (by simp [Builtin.Int.intBits]; omega)
    refine hret l2 _ _ (List.replicate cnt (Value.int 0 tk0)) 0 tab' ?_ (by assumption) (fun p hp => N11 p ?_) hT' hl2ne hdj2
    · rw [hc0]; exact .nil
    · simp only [List.cons_append, List.mem_cons, List.mem_append] at hp ⊢
      rcases hp with h | h | h <;> simp [h]
end
section
theorem rst_Inner201 : True := by
  w_top off
  trivial
local macro_rules | `(tactic| omega) => `(tactic| lia)
local macro_rules | `(tactic| walk_at "eval Name") => `(tactic| (k_dflt (refine nameX_F (by assumption) rfl (by assumption) (by assumption) ?_)))
local macro_rules | `(tactic| walk_at "callWith ref") => `(tactic| (k_dflt (refine callWith_F (FnAt.of (by assumption) (by assumption)) ?_)))
theorem inner2_c {prog : Program} {w : World} {p : Program} {loose : List Str} {mean : ExcName → Option Value} {mg mb : Str → Option Value} {params : Arguments} {body : List Stmt} {scope : Scope} (hfd : fnAt (hd01.heap_1 w.params) 84 0 = some (params, body, scope))
  (W : Nat) : ∀ (cnt : Nat) {A A₀ : Around} {env : Env} {outer : List Env} {base h₀ : Heap} {L : Addr} {m : Str → Option Value} {s : Shared} {Q E : Value → Shared → Prop} {qual : Str} {doc pm ctv : Value} {c' f ca cn ci : Addr} {oa on oi oc : Obj} {tn tq : Tok} {vs : Array Value}
  {l : Addr} {its : List Value} {ks : List Int} {n : Nat} {news : List (Addr × Obj)} {lo hi : Int} {tl th : Tok}
  (_ : Below A₀ base outer h₀) (_ : Fr h₀ L s.heap m) (_ : (hd01.heap_1 w.params).In h₀) (_ : Top p loose mean mg mb h₀) (_ : News h₀ L s.heap news)
  (_ : A.frames = some (env :: outer)) (_ : env.frame = some L) (_ : env.scope.kind = .function) (_ : A.handled = none) (_ : A.depth + cnt < recursionLimit) (_ : A.units + 20 * cnt < cLine)
  (_ : (l, listOf its.toArray n) ∈ news) (_ : (f, fnMade (Str.ofString "inner") qual params body scope [(Str.ofString "n", cn), (Str.ofString "inner", ci), (Str.ofString "digits", ca)] doc pm c' ctv) ∈ news) (_ : (c', oc) ∈ news) (_ : oc.data = .fields vs) (_ : vs[1]? = some (.str qual tq))
  (_ : (ca, oa) ∈ news) (_ : oa.data = .cell (some (.ref l))) (_ : (cn, on) ∈ news) (_ : on.data = .cell (some (.int W tn))) (_ : (ci, oi) ∈ news) (_ : oi.data = .cell (some (.ref f)))
  (_ : Rels IntR its ks) (_ : ks.length < 2 ^ 20) (_ : 0 ≤ lo) (_ : hi = lo + cnt) (_ : 0 < cnt) (_ : hi ≤ ks.length) (_ : ∀ d ∈ ks, 0 ≤ d ∧ d < 2 ^ W) (_ : W * cnt < 2 ^ 20)
  (_ : ∀ (t : Tok) (h' : Heap) (tk' : Nat), Fr h₀ L h' m → News h₀ L h' news →  Q (.int (val W ((ks.drop lo.toNat).take cnt)) t) { s with heap := h', toks := tk' }),
  wpAny (model prog w) A (call (.ref f) [.int lo tl, .int hi th]) Q E s := by
  have e := hfd.symm.trans (show fnAt (hd01.heap_1 w.params) 84 0 = some _ from rfl)
  simp only [Option.some.injEq, Prod.mk.injEq] at e
  obtain ⟨rfl, rfl, rfl⟩ := e
  intro cnt
  induction cnt using Nat.strongRecOn with
  | ind cnt ih =>
    intro A A₀ env outer base h₀ L m s Q E qual doc pm ctv c' f ca cn ci oa on oi oc tn tq vs l its ks n news lo hi tl th B F X T N hA hf hke hh hd hu hml hfn hc1 hc2 hc3 ha1 ha2 hn1 hn2 hi1 hi2 hR hz h0 hhi hcnt hlen hds hWc hret
    obtain ⟨ah, dp, fr, gd, un⟩ := A
    dsimp only at hA hh hd hu
    subst hA hh
    have hl := hR.length
    refine wpAny_call ?_
    k_dflt (refine code_nest B F X N T rfl hf hke hfn (codeRec_news N hc1 hc2 hc3) (by dsimp only; omega) (BindsTo.of_eq rfl) (locs rfl) ?_ rfl rfl rfl (by decide))
    intro g L' h₁ FG F1 N1 B1 X1 T1
    replace F1 : Fr g L' h₁ (fun y => List.lookup y [(Str.ofString "R", Value.int hi th), (Str.ofString "L", Value.int lo tl)]) := F1
    refine wpAny_noRaise ?_
    dsimp only
    k_fold
    have eS : ((lo + hi) / 2 - lo) * (W : Int) = ((W * (cnt / 2) : Nat) : Int) := by
      have e9 : (lo + hi) / 2 - lo = ((cnt / 2 : Nat) : Int) := by omega
      rw [e9, Int.natCast_mul]; exact Int.mul_comm _ _
    have hWa : W * (cnt / 2) ≤ W * cnt := Nat.mul_le_mul_left _ (Nat.div_le_self _ _)
    walk_at "GO"
    · have hc1' : cnt = 1 := by omega
      subst hc1'
      have e2 : val W ((ks.drop lo.toNat).take 1) = ks.getD lo.toNat 0 := by
        have h7 : lo.toNat < ks.length := by omega
        have h8 : (ks.drop lo.toNat).take 1 = [ks[lo.toNat]] := by
          rw [List.drop_eq_getElem_cons h7]; rfl
        rw [h8, List.getD_eq_getElem?_getD, List.getElem?_eq_getElem h7]
        simp [val]
      rw [← e2]
      exact hret _ _ _ (by assumption) (by assumption)
    · refine Stop.mk ?_
      rename Fr _ _ _ _ => F5
      rename News _ _ _ _ => N5
      have hb1 := val_bound W ((ks.drop ((lo + hi) / 2).toNat).take (cnt - cnt / 2)) (fun d hd => hds d (List.mem_of_mem_drop (List.mem_of_mem_take hd)))
      refine ih (cnt - cnt / 2) (by omega) B1 F5 X1 T1 N5 rfl rfl rfl rfl (by dsimp only [Around.deeper]; omega) (by dsimp only [Around.deeper]; omega) hml hfn hc1 hc2 hc3 ha1 ha2 hn1 hn2 hi1 hi2 hR hz (by omega) (by omega) (by omega) hlen hds (Nat.lt_of_le_of_lt (Nat.mul_le_mul_left _ (Nat.sub_le _ _)) hWc) ?_
      intro t6 h6 tk6 F6 N6
      dsimp only
      walk_at "GO"
      refine Stop.mk ?_
      rw [eS]
      have hlt1 : ((ks.drop ((lo + hi) / 2).toNat).take (cnt - cnt / 2)).length = cnt - cnt / 2 := by
        rw [List.length_take, List.length_drop]; omega
      rw [hlt1] at hb1
      generalize hv1 : val W ((ks.drop ((lo + hi) / 2).toNat).take (cnt - cnt / 2)) = v1 at *
      refine lshift_a (by omega) ?_ ?_
      · obtain ⟨V1, rfl⟩ := Int.eq_ofNat_of_zero_le hb1.1
        have := bits_le V1 (W * (cnt - cnt / 2)) (by have h3 := hb1.2; exact_mod_cast h3)
        have h4 : W * (cnt - cnt / 2) ≤ W * cnt := Nat.mul_le_mul_left _ (Nat.sub_le _ _)
        omega
      intro t7 tk7
      rw [Int.toNat_natCast]
      dsimp only
      walk_at "GO"
      refine Stop.mk ?_
      rename Fr _ _ _ _ => F7
      rename News _ _ _ _ => N7
      refine ih (cnt / 2) (by omega) B1 F7 X1 T1 N7 rfl rfl rfl rfl (by dsimp only [Around.deeper]; omega) (by dsimp only [Around.deeper]; omega) hml hfn hc1 hc2 hc3 ha1 ha2 hn1 hn2 hi1 hi2 hR hz h0 (by omega) (by omega) (by omega) hds (by omega) ?_
      intro t8 h8 tk8 F8 N8
      dsimp only
      walk_at "GO"
      have e3 : v1 * 2 ^ (W * (cnt / 2)) + val W ((ks.drop lo.toNat).take (cnt / 2)) = val W ((ks.drop lo.toNat).take cnt) := by
        have ea : (ks.drop lo.toNat).take cnt = (ks.drop lo.toNat).take (cnt / 2) ++ (ks.drop ((lo + hi) / 2).toNat).take (cnt - cnt / 2) := by
          have e1 : ((lo + hi) / 2).toNat = lo.toNat + cnt / 2 := by omega
          have e2 : cnt = cnt / 2 + (cnt - cnt / 2) := by omega
          conv => lhs; rw [e2]
          rw [List.take_add, List.drop_drop, e1]
        rw [ea, val_append, hv1, List.length_take, List.length_drop, Nat.min_eq_left (by omega), Int.mul_comm]
        omega
      rw [e3]
      exact hret _ _ _ (by assumption) (by assumption)
end
section
theorem rst_D2i01 : True := by
  w_top off
  trivial
local macro_rules | `(tactic| walk_at "exec FunctionDef") => `(tactic| refine Stop.out ?_)
theorem digits2int_c {prog : Program} {w : World} {p : Program} {loose : List Str} {mean : ExcName → Option Value} {mg mb : Str → Option Value} {A A₀ : Around} {env : Env} {outer : List Env} {base h₀ : Heap} {L : Addr} {m : Str → Option Value} {s : Shared} {Q E : Value → Shared → Prop}
  {tab news : List (Addr × Obj)} {W : Int} {tw : Tok} {l : Addr} {its : List Value} {ks : List Int} {n : Nat}
  (B : Below A₀ base outer h₀) (F : Fr h₀ L s.heap m) (X : (hd01.heap_1 w.params).In h₀) (T : Top p loose mean mg mb h₀) (N : News h₀ L s.heap (tab ++ news))
  (hA : A.frames = some (env :: outer)) (hf : env.frame = some L) (hke : env.scope.kind = .function) (hh : A.handled = none) (hd : A.depth + 120 < recursionLimit) (hu : A.units + 3000 < cLine)
  (C : CodeHd h₀ 83 79) (hT : TabL 79 92 4 (Str.ofString "_digits2int.<locals>.inner") tab) (hne : Dj tab news)
  (hml : (l, listOf its.toArray n) ∈ news) (hR : Rels IntR its ks) (hz : ks.length ≤ 100) (hW : 0 < W) (hW2 : W < 1000) (hds : ∀ d ∈ ks, 0 ≤ d ∧ d < 2 ^ W.toNat)
  (hret : ∀ (t : Tok) (h' : Heap) (tk' : Nat) (tab' : List (Addr × Obj)), Fr h₀ L h' m → News h₀ L h' (tab' ++ news) →
    TabL 79 92 4 (Str.ofString "_digits2int.<locals>.inner") tab' → Dj tab' news → Q (.int (val W.toNat ks) t) { s with heap := h', toks := tk' }) :
  wpAny (model prog w) A (call (.ref 84) [.ref l, .int W tw]) Q E s := by
  obtain ⟨ah, dp, fr, gd, un⟩ := A
  dsimp only at hA hh hd hu
  subst hA hh
  have hl := hR.length
  refine wpAny_call ?_
  k_dflt (refine code_defC B F X N T rfl hf hke (by k_is) (by k_is) (by dsimp only; omega) (BindsTo.of_eq rfl) rfl (by decide +kernel) ?_ rfl rfl rfl)
  intro g L' h₁ tk0 cells FG F1 N1 Y B1 X1 T1 l1
  k_cells Y
  simp only [List.cons_append, List.nil_append] at N1
  refine wpAny_noRaise ?_
  try dsimp only
  k_fold
  rename_i oi on oa di dn da
  replace di : oi.data = .cell none := di
  replace da : oa.data = .cell (some (.ref l)) := da
  replace dn : on.data = .cell (some (.int W tw)) := dn
  obtain ⟨W0, rfl⟩ := Int.eq_ofNat_of_zero_le (Int.le_of_lt hW)
  simp only [Int.toNat_natCast] at hds hret
  walk_at "GO"
  refine Stop.mk ?_
  k_dflt (refine nestDef_K rfl rfl rfl ?_)
  rename Fr _ _ _ _ => F5
  have hlt : ∀ p ∈ tab ++ news, ∀ b : Nat, @LE.le Nat _ L' b → p.1 ≠ b := fun p hp b hb => Nat.ne_of_lt (Nat.lt_of_lt_of_le (l1 p hp) hb)
  have N5 : News g L' h₁ (tab ++ ((L' + 1 + 1 + 1, oi) :: (L' + 1 + 1, on) :: (L' + 1, oa) :: news)) := fun p hp => N1 p (by
    simp only [List.mem_cons, List.mem_append] at hp ⊢
    rcases hp with h | h | h | h | h <;> simp [h])
  have hdj : Dj tab ((L' + 1 + 1 + 1, oi) :: (L' + 1 + 1, on) :: (L' + 1, oa) :: news) := by
    intro q hq p hp
    simp only [List.mem_cons] at hp
    have h9 := hlt q (List.mem_append_left _ hq)
    rcases hp with rfl | rfl | rfl | hp
    · exact h9 _ (by dsimp only; omega)
    · exact h9 _ (by dsimp only; omega)
    · exact h9 _ (by dsimp only; omega)
    · exact hne q hq p hp
  k_dflt (refine nest_any F5 N5 T1 (C.keeps FG.keep) rfl hT rfl rfl hdj rfl ?_)
  intro f c' oc vs t9 ctv doc h5 tk5 tab' F6 N6 hT' hc1 hc2 hc3 hf5 hdj'
  have hff : ∀ q ∈ tab' ++ ((L' + 1 + 1 + 1, oi) :: (L' + 1 + 1, on) :: (L' + 1, oa) :: news), q.1 ≠ f := fun q hq => Nat.ne_of_lt (hf5 q hq)
  have N7 := news_re3 N6
  k_dflt (refine storeX_C F6 N7 rfl (UpdF.head ?_) di ?_)
  · intro p hp
    simp only [List.mem_cons, List.mem_append] at hp
    rcases hp with rfl | rfl | rfl | hp | hp
    · exact (hff (L' + 1 + 1 + 1, oi) (by simp)).symm
    · refine neN ?_; dsimp only; omega
    · refine neN ?_; dsimp only; omega
    · exact hdj' p hp (L' + 1 + 1 + 1, oi) (by simp)
    · exact hlt p (List.mem_append_right _ hp) _ (by omega)
  intro h6 oi' F7 N8 di'
  dsimp only
  have hdj2 : Dj tab' news := fun q hq p hp => hdj' q hq p (by simp [hp])
  walk_at "GO"
  · refine Stop.mk ?_
    rename Fr _ _ _ _ => F9
    have hWc : W0 * ks.length < 2 ^ 20 := Nat.lt_of_le_of_lt (Nat.mul_le_mul (show W0 ≤ 999 by omega) hz) (by decide)
    refine inner2_c (rfl : fnAt (hd01.heap_1 w.params) 84 0 = some (_, _, _)) W0 ks.length B1 F9 X1 T1 N8 rfl rfl rfl rfl (by dsimp only [Around.deeper]; omega) (by dsimp only [Around.deeper]; omega) (.tail _ (.tail _ (.tail _ (.tail _ (List.mem_append_right _ hml))))) (.tail _ (.head _)) (.tail _ (.tail _ (.tail _ (.tail _ (List.mem_append_left _ hc1))))) hc2 hc3 (.tail _ (.tail _ (.tail _ (.head _)))) da (.tail _ (.tail _ (.head _))) dn (.head _) di' hR (by omega) (Int.le_refl 0) (by omega) (by omega) (by omega) hds hWc ?_
    intro t7 h7 tk7 F10 N10
    have e : (ks.drop (0 : Int).toNat).take ks.length = ks := by
      show (ks.drop 0).take ks.length = ks
      rw [List.drop_zero, List.take_length]
    rw [e]
    dsimp only
    walk_at "GO"
    rename News _ _ _ _ => N11
    exact hret _ _ _ tab' (by assumption) (fun p hp => N11 p (.tail _ (.tail _ (.tail _ (.tail _ hp))))) hT' hdj2
  · rename News _ _ _ _ => N11
    have h0 : ks = [] := List.eq_nil_of_length_eq_zero (by omega)
    rw [h0] at hret
    exact hret _ _ _ tab' (by assumption) (fun p hp => N11 p (.tail _ (.tail _ (.tail _ (.tail _ hp))))) hT' hdj2
end
section
local macro_rules | `(tactic| walk_at "PAD1") => `(tactic| skip)
theorem rst_Div01 : True := by
  w_top off
  trivial
local macro_rules | `(tactic| omega) => `(tactic| lia)
local macro_rules | `(tactic| walk_at "call builtin:divmod") => `(tactic| refine Stop.out ?_)
theorem div2n1n_c {prog : Program} {w : World} {p : Program} {loose : List Str} {mean : ExcName → Option Value} {mg mb : Str → Option Value} {A A₀ : Around} {env : Env} {outer : List Env} {base h₀ : Heap} {L : Addr} {m : Str → Option Value} {s : Shared} {Q E : Value → Shared → Prop}
  {news : List (Addr × Obj)} {a b n : Int} {ta tb tn : Tok}
  (B : Below A₀ base outer h₀) (F : Fr h₀ L s.heap m) (X : (hd01.heap_1 w.params).In h₀) (T : Top p loose mean mg mb h₀) (N : News h₀ L s.heap news)
  (hA : A.frames = some (env :: outer)) (hf : env.frame = some L) (hke : env.scope.kind = .function) (hh : A.handled = none) (hd : A.depth + 10 < recursionLimit) (hu : A.units + 100 < cLine)
  (hb : 0 < b) (hb2 : b < 2 ^ 900) (hab : (Builtin.Int.intBits a : Int) - n ≤ 4000)
  (hret : ∀ (q : Addr) (h' : Heap) (tk' : Nat) (t1 t2 : Tok), Fr h₀ L h' m → News h₀ L h' ((q, tupOf [.int (a / b) t1, .int (a % b) t2]) :: news) → (∀ p ∈ news, p.1 < q) → Q (.ref q) { s with heap := h', toks := tk' }) :
  wpAny (model prog w) A (call (.ref 63) [.int a ta, .int b tb, .int n tn]) Q E s := by
  obtain ⟨ah, dp, fr, gd, un⟩ := A
  dsimp only at hA hh hd hu
  subst hA hh
  refine wpAny_call ?_
  k_dflt (refine code_def B F X N T rfl hf hke (by k_is) (by k_is) (by dsimp only; omega) (BindsTo.of_eq rfl) (locs rfl) ?_ rfl rfl rfl (by decide))
  intro g L' h₁ FG F1 N1 B1 X1 T1
  replace F1 : Fr g L' h₁ (fun y => List.lookup y [(Str.ofString "n", Value.int n tn), (Str.ofString "b", Value.int b tb), (Str.ofString "a", Value.int a ta)]) := F1
  refine wpAny_noRaise ?_
  dsimp only
  k_fold
  walk_at "GO"
  refine Stop.mk ?_
  rename Fr _ _ _ _ => F2
  rename News _ _ _ _ => N2
  refine divmod_a F2 N2 hb ?_ ?_
  · obtain ⟨b0, rfl⟩ := Int.eq_ofNat_of_zero_le (Int.le_of_lt hb)
    have h9 : b0 < 2 ^ 900 := by exact_mod_cast hb2
    rw [Int.natAbs_natCast]
    exact Nat.lt_trans ((Nat.log2_lt (by omega)).mpr h9) (by decide)
  intro q h' t1 t2 tk F3 N3 hq
  walk_at "GO"
  exact hret q _ _ t1 t2 (by assumption) (by assumption) hq
theorem divmodpos_c {prog : Program} {w : World} {p : Program} {loose : List Str} {mean : ExcName → Option Value} {mg mb : Str → Option Value} {A A₀ : Around} {env : Env} {outer : List Env} {base h₀ : Heap} {L : Addr} {m : Str → Option Value} {s : Shared} {Q E : Value → Shared → Prop}
  {tab1 tab2 news : List (Addr × Obj)} {a b : Nat} {ta tb : Tok}
  (B : Below A₀ base outer h₀) (F : Fr h₀ L s.heap m) (X : (hd01.heap_1 w.params).In h₀) (T : Top p loose mean mg mb h₀) (N : News h₀ L s.heap (tab1 ++ (tab2 ++ news)))
  (hA : A.frames = some (env :: outer)) (hf : env.frame = some L) (hke : env.scope.kind = .function) (hh : A.handled = none) (hd : A.depth + 130 < recursionLimit) (hu : A.units + 3100 < cLine)
  (C1 : CodeHd h₀ 76 72) (hT1 : TabL 72 77 4 (Str.ofString "_int2digits.<locals>.inner") tab1)
  (C2 : CodeHd h₀ 83 79) (hT2 : TabL 79 92 4 (Str.ofString "_digits2int.<locals>.inner") tab2)
  (hne1 : Dj tab1 (tab2 ++ news)) (hne2 : Dj tab2 news)
  (hb : 0 < b) (hb2 : b < 2 ^ 900) (ha : a < 2 ^ 900) (hc : (Builtin.Int.intBits (a : Int) + Builtin.Int.intBits (b : Int) - 1) / Builtin.Int.intBits (b : Int) ≤ 100)
  (hret : ∀ (q : Addr) (h' : Heap) (tk' : Nat) (t1 t2 : Tok) (tab1' tab2' : List (Addr × Obj)), Fr h₀ L h' m → News h₀ L h' ((q, tupOf [.int ((a / b : Nat) : Int) t1, .int ((a % b : Nat) : Int) t2]) :: (tab1' ++ (tab2' ++ news))) →
    TabL 72 77 4 (Str.ofString "_int2digits.<locals>.inner") tab1' → TabL 79 92 4 (Str.ofString "_digits2int.<locals>.inner") tab2' → Dj tab1' (tab2' ++ news) → Dj tab2' news → (∀ p ∈ tab1' ++ (tab2' ++ news), p.1 < q) → Q (.ref q) { s with heap := h', toks := tk' }) :
  wpAny (model prog w) A (call (.ref 91) [.int a ta, .int b tb]) Q E s := by
  obtain ⟨ah, dp, fr, gd, un⟩ := A
  dsimp only at hA hh hd hu
  subst hA hh
  refine wpAny_call ?_
  k_dflt (refine code_def B F X N T rfl hf hke (by k_is) (by k_is) (by dsimp only; omega) (BindsTo.of_eq rfl) (locs rfl) ?_ rfl rfl rfl (by decide))
  intro g L' h₁ FG F1 N1 B1 X1 T1
  replace F1 : Fr g L' h₁ (fun y => List.lookup y [(Str.ofString "b", Value.int b tb), (Str.ofString "a", Value.int a ta)]) := F1
  refine wpAny_noRaise ?_
  dsimp only
  k_fold
  walk_at "GO"
  refine Stop.mk ?_
  rename Fr _ _ _ _ => F2
  rename News _ _ _ _ => N2
  have hbits : 0 < Builtin.Int.intBits (b : Int) := bits_pos b (by omega)
  have hbits2 : Builtin.Int.intBits (b : Int) ≤ 900 := bits_le b 900 hb2
  generalize hWd : Builtin.Int.intBits (b : Int) = W at *
  have hbW : b < 2 ^ W := by rw [← hWd]; exact bits_lt b
  refine int2digits_c B1 F2 X1 T1 N2 rfl rfl rfl rfl (by dsimp only [Around.deeper]; omega) (by dsimp only [Around.deeper]; omega) (C1.keeps FG.keep) hT1 hne1 (by omega) (by omega) (by omega) (by rw [Int.toNat_natCast]; exact ha) (by rw [Int.toNat_natCast]; exact hc) ?_
  intro la h3 tk3 itsA nA tab1' hRA F3 N3 hT1' hla hdj1
  rw [Int.toNat_natCast, Int.toNat_natCast] at hRA
  dsimp only
  walk_at "GO"
  refine Stop.mk ?_
  rename Fr _ _ _ _ => F4
  rename News _ _ _ _ => N4
  rename_i lq _ hlq _ D _ hD
  have hD2 : ∀ p ∈ (la, listOf itsA.toArray nA) :: tab1' ++ (tab2 ++ news), p.1 ≠ D := fun p hp => Nat.ne_of_lt (kst_ltOf hD.2 p hp)
  have hlq2 : ∀ p ∈ (la, listOf itsA.toArray nA) :: tab1' ++ (tab2 ++ news), p.1 ≠ lq := fun p hp => Nat.ne_of_lt (hlq p hp)
  have hlA := hRA.length
  rw [digs_length] at hlA
  generalize hcd : (Builtin.Int.intBits (a : Int) + W - 1) / W = cnt at *
  have haW : a < 2 ^ (W * cnt) := by
    rw [← hcd]
    exact Nat.lt_of_lt_of_le (bits_lt a) (Nat.pow_le_pow_right (by decide) (up_div _ _ hbits))
  refine' iter_rev_c (σ := Int × Tok × List Value × List Int × Nat) (fun c => (lq, listOf c.2.2.1.toArray c.2.2.2.2) :: ((la, listOf itsA.toArray nA) :: tab1' ++ (tab2 ++ news))) (fun c => [(Str.ofString "r", Value.int c.1 c.2.1)]) [Str.ofString "q_digit"]
    (fun i c => Rels IntR c.2.2.1 c.2.2.2.1 ∧ c.2.2.2.1.length = i ∧ (∀ d ∈ c.2.2.2.1, 0 ≤ d ∧ d < 2 ^ W) ∧ hor W c.2.2.2.1 = ((a / 2 ^ (W * (cnt - i)) / b : Nat) : Int) ∧ c.1 = ((a / 2 ^ (W * (cnt - i)) % b : Nat) : Int) ∧ i ≤ cnt) (0, _, [], [], 0) rfl (fun i c _ => .tail _ (.head _)) F4 N4 ?hnI ?hk ?h0 ?turn ?done
  case hnI =>
    intro p hp
    rcases List.mem_cons.mp hp with rfl | hp
    · exact Nat.ne_of_lt hD.1
    · exact hD2 p hp
  case hk => kst_all
  case h0 =>
    have e0 : a / 2 ^ (W * (cnt - 0)) = 0 := Nat.div_eq_of_lt haW
    refine ⟨.nil, rfl, fun d hd => (nomatch hd), ?_, ?_, Nat.zero_le _⟩
    · rw [e0, Nat.zero_div]; rfl
    · rw [e0, Nat.zero_mod]; rfl
  case turn =>
    rintro i ⟨r, tr, itsq, qs, nq⟩ u h tk oI hi ⟨hRq, hlq3, hds, hho, hr, hic⟩ hneI F5 N5
    dsimp only [kstB] at hRq hlq3 hds hho hr hneI F5 N5 ⊢
    obtain ⟨td, ed⟩ := hRA.getD (0 : Int) (itsA.length - 1 - i) (by rw [digs_length]; omega)
    rw [ed, digs_getD _ _ _ _ (by omega)] at F5
    have hlqn := hRq.length
    have ej : itsA.length - 1 - i = cnt - (i + 1) := by omega
    have ej2 : cnt - i = cnt - (i + 1) + 1 := by omega
    rw [ej] at F5
    rw [ej2] at hho hr
    generalize hjd : cnt - (i + 1) = j at *
    have hts := top_step a W j
    have hrb : a / 2 ^ (W * (j + 1)) % b < b := Nat.mod_lt _ hb
    have hdW : a / 2 ^ (W * j) % 2 ^ W < 2 ^ W := Nat.mod_lt _ (Nat.two_pow_pos _)
    have hlr := long_r (a / 2 ^ (W * (j + 1))) b W (a / 2 ^ (W * j) % 2 ^ W)
    have hlq4 := long_q (a / 2 ^ (W * (j + 1))) b W (a / 2 ^ (W * j) % 2 ^ W) hb
    rw [← hts] at hlr hlq4
    generalize hvd : a / 2 ^ (W * (j + 1)) = v at *
    generalize hdd : a / 2 ^ (W * j) % 2 ^ W = d at *
    have hqb := qd_bound (v % b) b W d hrb hdW
    subst hr
    walk_at "GO"
    refine Stop.mk ?_
    refine lshift_a (by omega) ?_ ?_
    · have := bits_le (v % b) W (Nat.lt_trans hrb hbW)
      omega
    intro t5 tk5
    rw [Int.toNat_natCast, cast_mul]
    dsimp only
    walk_at "GO"
    refine Stop.mk ?_
    rename Fr _ _ _ _ => F6
    rename News _ _ _ _ => N6
    rw [← Int.natCast_add]
    have hbig : v % b * 2 ^ W + d < 2 ^ (W + W) := by
      rw [Nat.pow_add]
      have h1 : (v % b + 1) * 2 ^ W ≤ 2 ^ W * 2 ^ W := Nat.mul_le_mul_right _ (by omega)
      rw [Nat.add_mul] at h1
      omega
    have hbb := bits_le _ _ hbig
    refine div2n1n_c B1 F6 X1 T1 N6 rfl rfl rfl rfl (by dsimp only [Around.deeper]; omega) (by dsimp only [Around.deeper]; omega) (by omega) (by exact_mod_cast hb2) (by omega) ?_
    intro q7 h7 tk7 t71 t72 F7 N7 hq7
    rw [← Int.natCast_ediv, ← Int.natCast_emod] at N7
    dsimp only
    walk_at "GO"
    rename Fr _ _ _ _ => F8
    rename News _ _ _ _ => N8
    have N9 := news_re4 N8
    refine append_at F8 N9 (Upd.head ?_) (by omega) ?_
    · intro p hp
      rcases List.mem_cons.mp hp with rfl | hp
      · exact (hneI (lq, listOf itsq.toArray nq) (.head _)).symm
      · exact hlq2 p hp
    intro h9 F9 N10
    dsimp only
    walk_at "GO"
    refine fend (_, _, itsq ++ [Value.int (((v % b * 2 ^ W + d) / b : Nat) : Int) t71], qs ++ [(((v % b * 2 ^ W + d) / b : Nat) : Int)], nq + 1) (by assumption) (by assumption) ?_ (.tail _ (.head _)) ?hneI2 (by kst_all) (by walk_at "SAMEF") ⟨hRq.append (.cons ⟨_, rfl⟩ .nil), by dsimp only; rw [List.length_append]; simp; exact hlq3, ?_, ?_, ?_, by omega⟩
    · intro p hp
      rcases List.mem_cons.mp hp with rfl | hp
      · exact .head _
      · exact .tail _ (.tail _ hp)
    · intro p hp
      rcases List.mem_cons.mp hp with rfl | hp
      · exact hneI (lq, listOf itsq.toArray nq) (.head _)
      · exact hD2 p hp
    · intro d' hd'
      rcases List.mem_append.mp hd' with hd' | hd'
      · exact hds d' hd'
      · rw [List.mem_singleton.mp hd']
        exact ⟨Int.natCast_nonneg _, by exact_mod_cast hqb⟩
    · dsimp only
      rw [hor_snoc, hho, hlq4, cast_mul, ← Int.natCast_add]
    · dsimp only
      rw [hlr]
  case done =>
    rintro ⟨r, tr, itsq, qs, nq⟩ u h tk ⟨hRq, hlq3, hds, hho, hr, hic⟩ F5 N5
    dsimp only [kstB] at hRq hlq3 hds hho hr F5 N5 ⊢
    subst hr
    rw [hlA, Nat.sub_self, Nat.mul_zero, Nat.pow_zero, Nat.div_one] at hho F5
    have hlqn := hRq.length
    walk_at "GO"
    rename Fr _ _ _ _ => F8
    rename News _ _ _ _ => N8
    refine reverse_at F8 N8 (Upd.head hlq2) (by omega) ?_
    intro h9 F9 N9
    dsimp only
    walk_at "GO"
    refine Stop.mk ?_
    rename Fr _ _ _ _ => F10
    rename News _ _ _ _ => N10
    have N11 := news_re5 N10
    have hdj2 : Dj tab2 ((lq, listOf itsq.reverse.toArray nq) :: (la, listOf itsA.toArray nA) :: (tab1' ++ news)) := by
      intro q hq p hp
      simp only [List.mem_cons, List.mem_append] at hp
      rcases hp with rfl | rfl | hp | hp
      · exact hlq2 q (by simp [hq])
      · exact hla q (by simp [hq])
      · exact (hdj1 p hp q (by simp [hq])).symm
      · exact hne2 q hq p hp
    refine digits2int_c B1 F10 X1 T1 N11 rfl rfl rfl rfl (by dsimp only [Around.deeper]; omega) (by dsimp only [Around.deeper]; omega) (C2.keeps FG.keep) hT2 hdj2 (.head _) hRq.reverse (by rw [List.length_reverse]; omega) (by omega) (by omega) (by intro d hd; rw [Int.toNat_natCast]; exact hds d (List.mem_reverse.mp hd)) ?_
    intro t12 h12 tk12 tab2' F12 N12 hT2' hdj3
    rw [Int.toNat_natCast, val_reverse, hho]
    dsimp only
    walk_at "GO"
    rename News _ _ _ _ => N13
    rename (∀ p ∈ tab2' ++ _, _ < _) => hlt9
    refine hret _ _ _ _ _ tab1' tab2' (by assumption) (news_re6 N13) hT1' hT2' ?_ ?_ ?_
    · intro q hq p hp
      rcases List.mem_append.mp hp with hp | hp
      · exact (hdj3 p hp q (by simp [hq])).symm
      · exact hdj1 q hq p (by simp [hp])
    · intro q hq p hp
      exact hdj3 q hq p (by simp [hp])
    · intro p hp
      refine hlt9 p ?_
      simp only [List.mem_cons, List.mem_append] at hp ⊢
      rcases hp with h | h | h <;> simp [h]
end
section
theorem rst_Idm01 : True := by
  w_top off
  trivial
theorem intdivmod_c {prog : Program} {w : World} {p : Program} {loose : List Str} {mean : ExcName → Option Value} {mg mb : Str → Option Value} {A A₀ : Around} {env : Env} {outer : List Env} {base h₀ : Heap} {L : Addr} {m : Str → Option Value} {s : Shared} {Q E : Value → Shared → Prop}
  {tab1 tab2 news : List (Addr × Obj)} {a b : Nat} {ta tb : Tok}
  (B : Below A₀ base outer h₀) (F : Fr h₀ L s.heap m) (X : (hd01.heap_1 w.params).In h₀) (T : Top p loose mean mg mb h₀) (N : News h₀ L s.heap (tab1 ++ (tab2 ++ news)))
  (hA : A.frames = some (env :: outer)) (hf : env.frame = some L) (hke : env.scope.kind = .function) (hh : A.handled = none) (hd : A.depth + 140 < recursionLimit) (hu : A.units + 3200 < cLine)
  (C1 : CodeHd h₀ 76 72) (hT1 : TabL 72 77 4 (Str.ofString "_int2digits.<locals>.inner") tab1)
  (C2 : CodeHd h₀ 83 79) (hT2 : TabL 79 92 4 (Str.ofString "_digits2int.<locals>.inner") tab2)
  (hne1 : Dj tab1 (tab2 ++ news)) (hne2 : Dj tab2 news)
  (hb : 0 < b) (hb2 : b < 2 ^ 900) (ha : a < 2 ^ 900) (hc : (Builtin.Int.intBits (a : Int) + Builtin.Int.intBits (b : Int) - 1) / Builtin.Int.intBits (b : Int) ≤ 100)
  (hret : ∀ (q : Addr) (h' : Heap) (tk' : Nat) (t1 t2 : Tok) (tab1' tab2' : List (Addr × Obj)), Fr h₀ L h' m → News h₀ L h' ((q, tupOf [.int ((a / b : Nat) : Int) t1, .int ((a % b : Nat) : Int) t2]) :: (tab1' ++ (tab2' ++ news))) →
    TabL 72 77 4 (Str.ofString "_int2digits.<locals>.inner") tab1' → TabL 79 92 4 (Str.ofString "_digits2int.<locals>.inner") tab2' → Dj tab1' (tab2' ++ news) → Dj tab2' news → (∀ p ∈ tab1' ++ (tab2' ++ news), p.1 < q) → Q (.ref q) { s with heap := h', toks := tk' }) :
  wpAny (model prog w) A (call (.ref 98) [.int a ta, .int b tb]) Q E s := by
  obtain ⟨ah, dp, fr, gd, un⟩ := A
  dsimp only at hA hh hd hu
  subst hA hh
  refine wpAny_call ?_
  k_dflt (refine code_def B F X N T rfl hf hke (by k_is) (by k_is) (by dsimp only; omega) (BindsTo.of_eq rfl) (locs rfl) ?_ rfl rfl rfl (by decide))
  intro g L' h₁ FG F1 N1 B1 X1 T1
  replace F1 : Fr g L' h₁ (fun y => List.lookup y [(Str.ofString "b", Value.int b tb), (Str.ofString "a", Value.int a ta)]) := F1
  refine wpAny_noRaise ?_
  dsimp only
  k_fold
  walk_at "GO"
  all_goals try (exfalso; omega)
  refine Stop.mk ?_
  rename Fr _ _ _ _ => F2
  rename News _ _ _ _ => N2
  refine divmodpos_c B1 F2 X1 T1 N2 rfl rfl rfl rfl (by dsimp only [Around.deeper]; omega) (by dsimp only [Around.deeper]; omega) (C1.keeps FG.keep) hT1 (C2.keeps FG.keep) hT2 hne1 hne2 hb hb2 ha hc ?_
  intro q h' tk' t1 t2 tab1' tab2' F3 N3 hT1' hT2' hd1 hd2 hq
  dsimp only
  walk_at "GO"
  exact hret q _ _ t1 t2 tab1' tab2' (by assumption) (by assumption) hT1' hT2' hd1 hd2 hq
end
section
local macro_rules | `(tactic| walk_at "PAD0") => `(tactic| skip)
theorem rst_Ind01 : True := by
  w_top off
  trivial
theorem indent_c {prog : Program} {w : World} {p : Program} {loose : List Str} {mean : ExcName → Option Value} {mg mb : Str → Option Value} {A A₀ : Around} {env : Env} {outer : List Env} {base h₀ : Heap} {L : Addr} {m : Str → Option Value} {s : Shared} {Q E : Value → Shared → Prop}
  {news : List (Addr × Obj)} {x dx an D : Addr} {ws : Str} {t k1 k2 k3 k4 k5 tn tnt tb ts : Tok} {n nt b : Int} {bs : Bool} {its : List Value} {ks : List Int} {sz : Int}
  (B : Below A₀ base outer h₀) (F : Fr h₀ L s.heap m) (X : (hd01.heap_1 w.params).In h₀) (T : Top p loose mean mg mb h₀) (N : News h₀ L s.heap news)
  (hA : A.frames = some (env :: outer)) (hf : env.frame = some L) (hke : env.scope.kind = .function) (hh : A.handled = none) (hd : A.depth + 10 < recursionLimit) (hu : A.units + 100 < cLine)
  (hx : (x, instObj 160 dx) ∈ news) (hdx : (dx, dictOf (wsEnt w ws t k1 k2 k3 k4 k5 tn tnt n nt an bs) 5) ∈ news) (han : (an, tupOf [.ref D, .int b tb]) ∈ news) (hD : (D, tupOf its) ∈ news)
  (hR : Rels IntR its ks) (hkl : ks.length < 1000) (hz0 : 0 < sz) (hz1 : sz < 1000)
  (hret : ∀ (t : Tok) (h' : Heap) (tk' : Nat), Fr h₀ L h' m → News h₀ L h' news → Q (.int (b + sz * (((List.range (ks.length - sz.toNat)).map fun (i : Nat) => (sz + i) / sz * ks.getD (sz.toNat + i) 0).sum + nt)) t) { s with heap := h', toks := tk' }) :
  wpAny (model prog w) A (call (.ref 129) [.ref x, .int sz ts]) Q E s := by
  obtain ⟨ah, dp, fr, gd, un⟩ := A
  dsimp only at hA hh hd hu
  subst hA hh
  have hl := hR.length
  refine wpAny_call ?_
  k_dflt (refine code_def B F X N T rfl hf hke (by k_is) (by k_is) (by dsimp only; omega) (BindsTo.of_eq rfl) (locs rfl) ?_ rfl rfl rfl (by decide))
  intro g L' h₁ FG F1 N1 B1 X1 T1
  replace F1 : Fr g L' h₁ (fun y => List.lookup y [(Str.ofString "tabsize", Value.int sz ts), (Str.ofString "self", Value.ref x)]) := F1
  refine wpAny_noRaise ?_
  dsimp only
  k_fold
  walk_at "GO"
  refine Stop.mk ?_
  rename Fr _ _ _ _ => F4
  rename News _ _ _ _ => N4
  rename IsRange _ _ _ _ _ _ _ _ => hrg
  have hrn : Builtin.Range.rangeSize sz (its.length : Int) 1 = ((ks.length - sz.toNat : Nat) : Int) := by rw [rangeSize_nat]; omega
  refine' iter_range_c (n := ks.length - sz.toNat) (σ := Int × Tok) (fun c => news) (fun c => [(Str.ofString "il", Value.int c.1 c.2)]) [Str.ofString "_"]
    (fun i c => c.1 = ((List.range i).map fun (i : Nat) => (sz + i) / sz * ks.getD (sz.toNat + i) 0).sum) (0, _) rfl hrg (small_one (by omega) (by omega) (by omega) (by omega)) hrn F4 N4 ?hk rfl ?turn ?done
  case hk => kst_all
  case turn =>
    rintro i ti ⟨il, til⟩ u h tk I oI hi hInv hneI F5 N5
    dsimp only [kstB] at hInv hneI F5 N5 ⊢
    walk_at "GO"
    have g1 : 0 ≤ (sz + (i : Int)) / sz := Int.ediv_nonneg (by omega) (by omega)
    have g2 : (sz + (i : Int)) / sz ≤ sz + i := Int.ediv_le_self _ (by omega)
    refine mul_a (IntMulOk.of_left (intBits_le_64 (by omega) (by omega))) ?_
    intro t8 tk8
    dsimp only
    walk_at "GO"
    refine fend (_, _) (by assumption) (by assumption) (fun p hp => .tail _ hp) (.head _) hneI (by kst_all) (by walk_at "SAMEF") ?_
    dsimp only
    have e1 : (sz + (i : Int)).toNat = sz.toNat + i := by omega
    rw [List.range_succ, List.map_append, List.sum_append, hInv, e1]
    simp
  case done =>
    rintro ⟨il, til⟩ u h tk hInv F5 N5
    dsimp only [kstB] at hInv F5 N5 ⊢
    walk_at "GO"
    rw [hInv]
    exact hret _ _ _ (by assumption) (by assumption)
theorem longest_c {prog : Program} {w : World} {p : Program} {loose : List Str} {mean : ExcName → Option Value} {mg mb : Str → Option Value} {A A₀ : Around} {env : Env} {outer : List Env} {base h₀ : Heap} {L : Addr} {m : Str → Option Value} {s : Shared} {Q E : Value → Shared → Prop}
  {news : List (Addr × Obj)} {x dx an D : Addr} {ws : Str} {t k1 k2 k3 k4 k5 tn tnt tb ts : Tok} {n nt b : Int} {bs : Bool} {its : List Value} {ks : List Int}
  (B : Below A₀ base outer h₀) (F : Fr h₀ L s.heap m) (X : (hd01.heap_1 w.params).In h₀) (T : Top p loose mean mg mb h₀) (N : News h₀ L s.heap news)
  (hA : A.frames = some (env :: outer)) (hf : env.frame = some L) (hke : env.scope.kind = .function) (hh : A.handled = none) (hd : A.depth + 10 < recursionLimit) (hu : A.units + 100 < cLine)
  (hx : (x, instObj 160 dx) ∈ news) (hdx : (dx, dictOf (wsEnt w ws t k1 k2 k3 k4 k5 tn tnt n nt an bs) 5) ∈ news) (han : (an, tupOf [.ref D, .int b tb]) ∈ news) (hD : (D, tupOf its) ∈ news)
  (hR : Rels IntR its ks) (hkl : ks.length < 1000)
  (hret : ∀ (t : Tok) (h' : Heap) (tk' : Nat), Fr h₀ L h' m → News h₀ L h' news → Q (.int (if (ks.length : Int) - 1 < b then b else (ks.length : Int) - 1) t) { s with heap := h', toks := tk' }) :
  wpAny (model prog w) A (call (.ref 122) [.ref x]) Q E s := by
  obtain ⟨ah, dp, fr, gd, un⟩ := A
  dsimp only at hA hh hd hu
  subst hA hh
  have hl := hR.length
  refine wpAny_call ?_
  k_dflt (refine code_def B F X N T rfl hf hke (by k_is) (by k_is) (by dsimp only; omega) (BindsTo.of_eq rfl) (locs rfl) ?_ rfl rfl rfl (by decide))
  intro g L' h₁ FG F1 N1 B1 X1 T1
  replace F1 : Fr g L' h₁ (fun y => List.lookup y [(Str.ofString "self", Value.ref x)]) := F1
  refine wpAny_noRaise ?_
  dsimp only
  k_fold
  walk_at "GO"
  rw [hl]
  exact hret _ _ _ (by assumption) (by assumption)
end
section
theorem rst_Grown01 : True := by
  w_top off
  trivial
theorem grown_c {prog : Program} {w : World} {p : Program} {loose : List Str} {mean : ExcName → Option Value} {mg mb : Str → Option Value} {A A₀ : Around} {env : Env} {outer : List Env} {base h₀ : Heap} {L : Addr} {m : Str → Option Value} {s : Shared} {Q E : Value → Shared → Prop}
  {news : List (Addr × Obj)} {lc : Addr} {its : List Value} {ks : List Int} {nn : Nat} {num W : Int} {tn tw : Tok}
  (B : Below A₀ base outer h₀) (F : Fr h₀ L s.heap m) (X : (hd01.heap_1 w.params).In h₀) (T : Top p loose mean mg mb h₀) (N : News h₀ L s.heap news)
  (hA : A.frames = some (env :: outer)) (hf : env.frame = some L) (hke : env.scope.kind = .function) (hh : A.handled = none) (hd : A.depth + 10 < recursionLimit) (hu : A.units + 100 < cLine)
  (hlc : (lc, listOf its.toArray nn) ∈ news) (hR : Rels IntR its ks) (hkl : 0 < ks.length) (hkl2 : ks.length < 100) (hW : 0 < W) (hW2 : W < 100)
  (hret : ∀ (lg : Addr) (h' : Heap) (tk' : Nat) (itsg : List Value) (n' : Nat), Rels IntR itsg (grown num W.toNat ks) → Fr h₀ L h' m → News h₀ L h' ((lg, listOf itsg.toArray n') :: news) → (∀ p ∈ news, p.1 < lg) → Q (.ref lg) { s with heap := h', toks := tk' }) : wpAny (model prog w) A (call (.ref 176) [.int num tn, .ref lc, .int W tw]) Q E s := by
  obtain ⟨ah, dp, fr, gd, un⟩ := A
  dsimp only at hA hh hd hu
  subst hA hh
  have hl := hR.length
  refine wpAny_call ?_
  k_dflt (refine code_def B F X N T rfl hf hke (by k_is) (by k_is) (by dsimp only; omega) (BindsTo.of_eq rfl) (locs rfl) ?_ rfl rfl rfl (by decide))
  intro g L' h₁ FG F1 N1 B1 X1 T1
  replace F1 : Fr g L' h₁ (fun y => List.lookup y [(Str.ofString "width", Value.int W tw), (Str.ofString "counts", Value.ref lc), (Str.ofString "number", Value.int num tn)]) := F1
  refine wpAny_noRaise ?_
  dsimp only
  k_fold
  walk_at "GO"
  refine Stop.mk ?_
  rename Fr _ _ _ _ => F4
  rename News _ _ _ _ => N4
  rename_i lg _ hlg _ t1 _ t2 _ t3 _ l2 _ hl2
  obtain ⟨W0, rfl⟩ := Int.eq_ofNat_of_zero_le (Int.le_of_lt hW)
  rw [Int.toNat_natCast] at hret
  refine iter_list_c (its := [Value.int (its.length : Int) t1, Value.int ((its.length : Int) - 1) t3]) (nn := 0) (σ := Addr × List Value × List Int × Nat) (fun c => (l2, listOf [Value.int (its.length : Int) t1, Value.int ((its.length : Int) - 1) t3].toArray 0) :: (c.1, listOf c.2.1.toArray c.2.2.2) :: news) (fun c => [(Str.ofString "grown", Value.ref c.1)]) [Str.ofString "_"]
    (fun i c => Rels IntR c.2.1 c.2.2.1 ∧ c.2.2.1.length ≤ i ∧ (∀ p ∈ news, p.1 < c.1) ∧ c.1 ≠ l2 ∧ c.2.2.1 = (if i = 0 then [] else if i = 1 then grow1 num W0 ks ks.length else grown num W0 ks)) (lg, [], [], 0) rfl (fun i c _ => .head _) F4 N4 ?hk ?h0 ?turn ?done
  case hk => kst_all
  case h0 => exact ⟨.nil, Nat.le_refl _, hlg, Nat.ne_of_lt hl2.1, rfl⟩
  case turn =>
    rintro i ⟨lg1, itsg, gs, eg⟩ u h tk I oI hi ⟨hRg, hgl, hlg1, hlg2, hgs⟩ hneI F5 N5
    dsimp only [kstB] at hRg hgl hlg1 hlg2 hgs hneI F5 N5 ⊢
    have hRp : Rels IntR [Value.int (its.length : Int) t1, Value.int ((its.length : Int) - 1) t3] [(ks.length : Int), (ks.length : Int) - 1] := by
      rw [hl]; exact .cons ⟨_, rfl⟩ (.cons ⟨_, rfl⟩ .nil)
    obtain ⟨tp, ep⟩ := hRp.getD (0 : Int) i hi
    rw [ep] at F5
    have hpart : ∃ part : Nat, ([(ks.length : Int), (ks.length : Int) - 1].getD i 0) = (part : Int) ∧ part ≤ ks.length ∧ (if i = 0 then part = ks.length else part = ks.length - 1) ∧ i < 2 := by
      have hi2 : i < 2 := hi
      rcases (show i = 0 ∨ i = 1 by omega) with rfl | rfl
      · exact ⟨ks.length, rfl, Nat.le_refl _, rfl, hi2⟩
      · refine ⟨ks.length - 1, ?_, Nat.sub_le _ _, rfl, hi2⟩
        show (ks.length : Int) - 1 = _
        omega
    obtain ⟨part, hpe, hpl, hpi, hi2⟩ := hpart
    rw [hpe] at F5
    have hgl2 := hRg.length
    have ep1 : 0 < part → ks.getD ((part : Int) - 1).toNat 0 = ks.getD (part - 1) 0 := fun hp => by
      have : ((part : Int) - 1).toNat = part - 1 := by omega
      rw [this]
    have ep0 : ks.getD (0 : Int).toNat 0 = ks.getD 0 0 := rfl
    have hWb : W0 * part ≤ 99 * 99 := Nat.mul_le_mul (by omega) (by omega)
    have hWc : W0 * (part - 1) ≤ 99 * 99 := Nat.mul_le_mul (by omega) (by omega)
    have eW1 : 0 < part → (W0 : Int) * ((part : Int) - 1) = ((W0 * (part - 1) : Nat) : Int) := fun hp => by
      rw [Int.natCast_mul, Int.natCast_sub hp]; rfl
    walk_at "GO"
    · have hp9 : 0 < part := by omega
      have e9 := ep1 hp9
      refine Stop.mk ?_
      rw [eW1 hp9]
      refine pow2_a (by omega) (by omega) ?_
      intro t5 tk5
      rw [Int.toNat_natCast]
      dsimp only
      walk_at "GO"
      refine Stop.mk ?_
      rw [← Int.natCast_mul]
      refine pow2_a (by omega) (by omega) ?_
      intro t6 tk6
      rw [Int.toNat_natCast]
      dsimp only
      walk_at "GO"
      refine Stop.mk ?_
      rename Fr _ _ _ _ => F6
      rename News _ _ _ _ => N6
      refine cat_int_at0 F6 N6 (.tail _ (.tail _ (.tail _ (.head _)))) (.head _) hRg (.cons ⟨_, rfl⟩ .nil) (by simp; omega) ?_
      intro l7 its7 h7 hR7 F7 N7 hl7
      dsimp only
      walk_at "GO"
      have hg1 : grow1 num W0 ks part = [num - 1 - 2 ^ (W0 * (part - 1)) + 2 ^ (W0 * part)] := by
        refine if_pos ⟨by omega, by omega, ?_⟩
        split <;> omega
      refine fend (l7, its7, gs ++ [num - 1 - 2 ^ (W0 * (part - 1)) + 2 ^ (W0 * part)], 0) (by assumption) (by assumption) ?_ (.tail _ (.tail _ (.head _))) ?_ (by kst_all) (by walk_at "SAMEF") ⟨hR7, by dsimp only; rw [List.length_append]; simp; omega, fun p hp => hl7 p (.tail _ (.tail _ (.tail _ (.tail _ hp)))), Nat.ne_of_gt (hl7 _ (.tail _ (.tail _ (.head _)))), ?_⟩
      · intro p hp
        rcases List.mem_cons.mp hp with rfl | hp
        · exact .tail _ (.tail _ (.tail _ (.head _)))
        · rcases List.mem_cons.mp hp with rfl | hp
          · exact .head _
          · exact .tail _ (.tail _ (.tail _ (.tail _ (.tail _ hp))))
      · intro p hp
        rcases List.mem_cons.mp hp with rfl | hp
        · exact hneI _ (.head _)
        · rcases List.mem_cons.mp hp with rfl | hp
          · exact Nat.ne_of_gt (hl7 (I, oI) (.tail _ (.head _)))
          · exact hneI p (.tail _ (.tail _ hp))
      · have := grow_next hi2 hpi hgs
        rw [hg1] at this
        exact this
    · refine fend (lg1, itsg, gs, eg) (by assumption) (by assumption) (fun p hp => .tail _ hp) (.head _) hneI (by kst_all) (by walk_at "SAMEF") ⟨hRg, by dsimp only; omega, hlg1, hlg2, ?_⟩
      have hg0 : grow1 num W0 ks part = [] := by
        refine if_neg ?_
        rintro ⟨a, b, c⟩
        have e9 := ep1 a
        split at c <;> omega
      have := grow_next hi2 hpi hgs
      rw [hg0, List.append_nil] at this
      exact this
    · have hp9 : 0 < part := by omega
      have e9 := ep1 hp9
      refine Stop.mk ?_
      rw [eW1 hp9]
      refine pow2_a (by omega) (by omega) ?_
      intro t5 tk5
      rw [Int.toNat_natCast]
      dsimp only
      walk_at "GO"
      refine Stop.mk ?_
      rw [← Int.natCast_mul]
      refine pow2_a (by omega) (by omega) ?_
      intro t6 tk6
      rw [Int.toNat_natCast]
      dsimp only
      walk_at "GO"
      refine Stop.mk ?_
      rename Fr _ _ _ _ => F6
      rename News _ _ _ _ => N6
      refine cat_int_at0 F6 N6 (.tail _ (.tail _ (.tail _ (.head _)))) (.head _) hRg (.cons ⟨_, rfl⟩ .nil) (by simp; omega) ?_
      intro l7 its7 h7 hR7 F7 N7 hl7
      dsimp only
      walk_at "GO"
      have hg1 : grow1 num W0 ks part = [num - 1 - 2 ^ (W0 * (part - 1)) + 2 ^ (W0 * part)] := by
        refine if_pos ⟨by omega, by omega, ?_⟩
        split <;> omega
      refine fend (l7, its7, gs ++ [num - 1 - 2 ^ (W0 * (part - 1)) + 2 ^ (W0 * part)], 0) (by assumption) (by assumption) ?_ (.tail _ (.tail _ (.head _))) ?_ (by kst_all) (by walk_at "SAMEF") ⟨hR7, by dsimp only; rw [List.length_append]; simp; omega, fun p hp => hl7 p (.tail _ (.tail _ (.tail _ (.tail _ hp)))), Nat.ne_of_gt (hl7 _ (.tail _ (.tail _ (.head _)))), ?_⟩
      · intro p hp
        rcases List.mem_cons.mp hp with rfl | hp
        · exact .tail _ (.tail _ (.tail _ (.head _)))
        · rcases List.mem_cons.mp hp with rfl | hp
          · exact .head _
          · exact .tail _ (.tail _ (.tail _ (.tail _ (.tail _ hp))))
      · intro p hp
        rcases List.mem_cons.mp hp with rfl | hp
        · exact hneI _ (.head _)
        · rcases List.mem_cons.mp hp with rfl | hp
          · exact Nat.ne_of_gt (hl7 (I, oI) (.tail _ (.head _)))
          · exact hneI p (.tail _ (.tail _ hp))
      · have := grow_next hi2 hpi hgs
        rw [hg1] at this
        exact this
    · refine fend (lg1, itsg, gs, eg) (by assumption) (by assumption) (fun p hp => .tail _ hp) (.head _) hneI (by kst_all) (by walk_at "SAMEF") ⟨hRg, by dsimp only; omega, hlg1, hlg2, ?_⟩
      have hg0 : grow1 num W0 ks part = [] := by
        refine if_neg ?_
        rintro ⟨a, b, c⟩
        have e9 := ep1 a
        split at c <;> omega
      have := grow_next hi2 hpi hgs
      rw [hg0, List.append_nil] at this
      exact this
    · refine fend (lg1, itsg, gs, eg) (by assumption) (by assumption) (fun p hp => .tail _ hp) (.head _) hneI (by kst_all) (by walk_at "SAMEF") ⟨hRg, by dsimp only; omega, hlg1, hlg2, ?_⟩
      have hg0 : grow1 num W0 ks part = [] := by
        refine if_neg ?_
        rintro ⟨a, b, c⟩
        have e9 := ep1 a
        split at c <;> omega
      have := grow_next hi2 hpi hgs
      rw [hg0, List.append_nil] at this
      exact this
    · refine fend (lg1, itsg, gs, eg) (by assumption) (by assumption) (fun p hp => .tail _ hp) (.head _) hneI (by kst_all) (by walk_at "SAMEF") ⟨hRg, by dsimp only; omega, hlg1, hlg2, ?_⟩
      have hg0 : grow1 num W0 ks part = [] := by
        refine if_neg ?_
        rintro ⟨a, b, c⟩
        have e9 := ep1 a
        split at c <;> omega
      have := grow_next hi2 hpi hgs
      rw [hg0, List.append_nil] at this
      exact this
  case done =>
    rintro ⟨lg1, itsg, gs, eg⟩ u h tk ⟨hRg, hgl, hlg1, hlg2, hgs⟩ F5 N5
    dsimp only [kstB] at hRg hgl hlg1 hlg2 hgs F5 N5 ⊢
    walk_at "GO"
    rename News _ _ _ _ => N6
    have hgs2 : gs = grown num W0 ks := hgs
    rw [hgs2] at hRg
    exact hret lg1 _ _ itsg eg hRg (by assumption) (news_tail N6) hlg1
end
section
local macro_rules | `(tactic| walk_at "PAD0") => `(tactic| skip)
theorem rst_Share01 : True := by
  w_top off
  trivial
theorem share_c {prog : Program} {w : World} {p : Program} {loose : List Str} {mean : ExcName → Option Value} {mg mb : Str → Option Value} {A A₀ : Around} {env : Env} {outer : List Env} {base h₀ : Heap} {L : Addr} {m : Str → Option Value} {s : Shared} {Q E : Value → Shared → Prop}
  {news : List (Addr × Obj)} {lb : Addr} {its : List Value} {bs : List Int} {nn : Nat} {n mm tm : Int} {t1 t2 t3 : Tok}
  (B : Below A₀ base outer h₀) (F : Fr h₀ L s.heap m) (X : (hd01.heap_1 w.params).In h₀) (T : Top p loose mean mg mb h₀) (N : News h₀ L s.heap news)
  (hA : A.frames = some (env :: outer)) (hf : env.frame = some L) (hke : env.scope.kind = .function) (hh : A.handled = none) (hd : A.depth + 10 < recursionLimit) (hu : A.units + 100 < cLine)
  (hlb : (lb, listOf its.toArray nn) ∈ news) (hR : Rels IntR its bs) (hbl : bs.length < 1000) (hn : n < bs.length) (hm0 : 0 ≤ mm) (hm1 : mm < 1000) (ht0 : 1 ≤ tm) (ht1 : tm < 1000)
  (hret : ∀ (t : Tok) (h' : Heap) (tk' : Nat), Fr h₀ L h' m → News h₀ L h' news → Q (.int (shareP bs n mm tm) t) { s with heap := h', toks := tk' }) :
  wpAny (model prog w) A (call (.ref 183) [.ref lb, .int n t1, .int mm t2, .int tm t3]) Q E s := by
  obtain ⟨ah, dp, fr, gd, un⟩ := A
  dsimp only at hA hh hd hu
  subst hA hh
  have hl := hR.length
  refine wpAny_call ?_
  k_dflt (refine code_def B F X N T rfl hf hke (by k_is) (by k_is) (by dsimp only; omega) (BindsTo.of_eq rfl) (locs rfl) ?_ rfl rfl rfl (by decide))
  intro g L' h₁ FG F1 N1 B1 X1 T1
  replace F1 : Fr g L' h₁ (fun y => List.lookup y [(Str.ofString "times", Value.int tm t3), (Str.ofString "m", Value.int mm t2), (Str.ofString "n", Value.int n t1), (Str.ofString "bags", Value.ref lb)]) := F1
  refine wpAny_noRaise ?_
  dsimp only
  k_fold
  walk_at "GO"
  refine Stop.mk ?_
  rename Fr _ _ _ _ => F4
  rename News _ _ _ _ => N4
  rename IsRange _ _ _ _ _ _ _ _ => hrg
  refine' iter_range_c (n := 4) (σ := Int × Tok) (fun c => news) (fun c => [(Str.ofString "share", Value.int c.1 c.2)]) [Str.ofString "step", Str.ofString "left"]
    (fun i c => c.1 = ((List.range i).map (shPair bs n mm tm)).sum) (0, _) rfl hrg rfl rfl F4 N4 ?hk rfl ?turn ?done
  case hk => kst_all
  case turn =>
    rintro i ti ⟨sh, tsh⟩ u h tk I oI hi hInv hneI F5 N5
    dsimp only [kstB] at hInv hneI F5 N5 ⊢
    walk_at "GO"
    refine Stop.mk ?_
    rename Fr _ _ _ _ => F6
    rename News _ _ _ _ => N6
    rename_i l2 _ hl2
    obtain ⟨its2, hR2, N7⟩ := news_two N6
    have hl2n := hR2.length
    refine iter_list_c (its := its2) (nn := 0) (σ := Int × Tok) (fun c => (l2, listOf its2.toArray 0) :: (I, oI) :: news) (fun c => [(Str.ofString "share", Value.int c.1 c.2)]) [Str.ofString "left"]
      (fun j c => j ≤ 2 ∧ c.1 = sh + (if j = 0 then 0 else if j = 1 then shTerm bs n mm tm (1 + i) (-1) else shPair bs n mm tm i)) (sh, tsh) rfl (fun i c _ => .head _) F6 N7 ?hk ⟨Nat.zero_le _, by simp⟩ ?turn2 ?done2
    case hk => kst_all
    case turn2 =>
      rintro j ⟨sh1, tsh1⟩ u1 h1 tk1 I1 oI1 hj ⟨hj2, hInv1⟩ hneI1 F8 N8
      dsimp only [kstB] at hInv1 hneI1 F8 N8 ⊢
      obtain ⟨tp, ep⟩ := hR2.getD (0 : Int) j (by rw [← hl2n]; exact hj)
      rw [ep] at F8
      have hst : ∃ st : Int, ([(-1 : Int), 1].getD j 0) = st ∧ (st = -1 ∨ st = 1) ∧ (if j = 0 then st = -1 else st = 1) ∧ j < 2 := by
        have hj3 : j < 2 := by have : its2.length = 2 := hl2n; omega
        rcases (show j = 0 ∨ j = 1 by omega) with rfl | rfl
        · exact ⟨-1, rfl, .inl rfl, rfl, hj3⟩
        · exact ⟨1, rfl, .inr rfl, rfl, hj3⟩
      obtain ⟨st, hst1, hst2, hst3, hj3⟩ := hst
      rw [hst1] at F8
      have hq : 0 ≤ (1 + (i : Int)) * (tm * (1 + (i : Int)) + st) / 2 := by
        have h1 : 1 * 1 ≤ tm * (1 + (i : Int)) := Int.mul_le_mul ht0 (by omega) (by decide) (by omega)
        exact Int.ediv_nonneg (Int.mul_nonneg (by omega) (by omega)) (by decide)
      have hmk : 0 ≤ mm * (1 + (i : Int)) := Int.mul_nonneg hm0 (by omega)
      have hnext : ∀ v, v = shTerm bs n mm tm (1 + i) st → sh1 + v = sh + (if j + 1 = 0 then 0 else if j + 1 = 1 then shTerm bs n mm tm (1 + i) (-1) else shPair bs n mm tm i) := by
        intro v hv
        subst hv
        rcases (show j = 0 ∨ j = 1 by omega) with rfl | rfl
        · simp only [if_true] at hst3 hInv1
          subst hst3
          rw [hInv1]; simp
        · simp only [Nat.one_ne_zero, if_false, if_true] at hst3 hInv1
          subst hst3
          rw [hInv1]; simp [shPair]; omega
      walk_at "GO"
      · rename (_ = true) => hc
        refine fend (_, _) (by assumption) (by assumption) (fun p hp => .tail _ hp) (.head _) hneI1 (by kst_all) (by walk_at "SAMEF") ⟨by omega, hnext _ ?_⟩
        unfold shTerm
        rw [if_pos (by omega), if_pos (beq2 hc)]
      · rename (_ = false) => hc
        refine fend (_, _) (by assumption) (by assumption) (fun p hp => .tail _ hp) (.head _) hneI1 (by kst_all) (by walk_at "SAMEF") ⟨by omega, hnext _ ?_⟩
        unfold shTerm
        rw [if_pos (by omega), if_neg (beq2n hc)]
      · refine fend (sh1, tsh1) (by assumption) (by assumption) (fun p hp => .tail _ hp) (.head _) hneI1 (by kst_all) (by walk_at "SAMEF") ⟨by omega, ?_⟩
        have := hnext 0 (by unfold shTerm; rw [if_neg (by omega)])
        rw [Int.add_zero] at this
        exact this
    case done2 =>
      rintro ⟨sh1, tsh1⟩ u1 h1 tk1 ⟨hj2, hInv1⟩ F8 N8
      dsimp only [kstB] at hInv1 F8 N8 ⊢
      walk_at "GO"
      refine fend (_, _) (by assumption) (by assumption) (fun p hp => .tail _ (.tail _ hp)) (.tail _ (.head _)) hneI (by kst_all) (by walk_at "SAMEF") ?_
      dsimp only
      rw [List.range_succ, List.map_append, List.sum_append, ← hInv, hInv1, hl2n]
      simp
  case done =>
    rintro ⟨sh, tsh⟩ u h tk hInv F5 N5
    dsimp only [kstB] at hInv F5 N5 ⊢
    walk_at "GO"
    rw [hInv]
    exact hret _ _ _ (by assumption) (by assumption)
end
section
theorem rst_LawB01 : True := by
  w_top off
  trivial
local macro_rules | `(tactic| walk_at "SAME2") => `(tactic| (intro z h2 h3; (simp only [lpn, lst0, List.forall_mem_cons, List.not_mem_nil, false_implies, implies_true, and_true, ne_eq] at h2 h3); simp only [h2, h3, kstB, if_false]))
local macro_rules | `(tactic| walk_at "execs cons") => `(tactic| ((with_reducible show wpAny _ _ (execs (Stmt.Assign _ _ (Pos.mk 208 _ _ _) :: _) _) _ _ _); refine Stop.out ?_))
abbrev whiteN (w : World) (x dx an D : Addr) (itsD : List Value) (ws : Str) (t k1 k2 k3 k4 k5 tn tnt tb : Tok) (n nt : Int) (bs : Bool) : List (Addr × Obj) :=
  (an, tupOf [.ref D, .int 0 tb]) :: (D, tupOf itsD) :: (x, instObj 160 dx) :: (dx, dictOf (wsEnt w ws t k1 k2 k3 k4 k5 tn tnt n nt an bs) 5) :: []
theorem turnB {prog : Program} {w : World} {p : Program} {loose : List Str} {mean : ExcName → Option Value} {mg mb : Str → Option Value} {A A₀ : Around} {outer : List Env} {base h₀ : Heap} {L fa : Addr} {cd : Value} {m : Str → Option Value} {s : Shared} {Q : Flow → Shared → Prop}
  {lt lc : Addr} {itst itsc : List Value} {wb osz on cc : Obj} {W ncc : Nat} {tW tnum : Tok} {c : LSt} {num : Int} {ks tks : List Int}
  (B : Below A₀ base outer h₀) (F : Fr h₀ L s.heap (kstB m ((Str.ofString "number", Value.int num tnum) :: lps lt W tW c))) (X : (hd01.heap_1 w.params).In h₀) (T : Top p loose mean mg mb h₀)
  (N : News h₀ L s.heap ((lc, listOf itsc.toArray ncc) :: (L + 1 + 1 + 1, cc) :: (restL L lt itst wb osz on c ++ c.tab)))
  (hA : A.frames = some (lawEnv L fa cd :: outer)) (hh : A.handled = none) (hd : A.depth + 200 < recursionLimit) (hu : A.units + 4000 < cLine)
  (hcc : cc.data = .cell (some (.ref lc))) (hRc : Rels IntR itsc ks) (hok : okC ks = true) (hRt : Rels IntR itst tks) (ht0 : 0 < tks.length) (ht1 : tks.length < 1000) (hRr : Rels IntR c.itr c.ms.rk) (hr30 : c.ms.rk.length < 30)
  (hp100 : (partsOf ks).length ≤ 100) (hp0 : 0 < (partsOf ks).length) (hp500 : ((partsOf ks).map fun j => j.toNat + 1).sum ≤ 500)
  (hnext : ∀ (x dx an D : Addr) (itsD : List Value) (ws : Str) (t k1 k2 k3 k4 k5 tn tnt tb : Tok) (n nt : Int) (bs : Bool) (h' : Heap) (tk' : Nat) (m' : Str → Option Value), Rels IntR itsD ks → nt = (partsOf ks).length →
    Same m' m → Fr h₀ L h' (kstB m' ((Str.ofString "white", Value.ref x) :: (Str.ofString "number", Value.int num tnum) :: lps lt W tW c)) → News h₀ L h' (whiteN w x dx an D itsD ws t k1 k2 k3 k4 k5 tn tnt tb n nt bs ++ (lc, listOf itsc.toArray ncc) :: (L + 1 + 1 + 1, cc) :: (restL L lt itst wb osz on c ++ c.tab)) →
    wpAny (model prog w) A (execs (wBody.drop 5) (lawEnv L fa cd)) Q NoE { s with heap := h', toks := tk' }) :
  wpAny (model prog w) A (execs (wBody.drop 3) (lawEnv L fa cd)) Q NoE s := by
  obtain ⟨ah, dp, fr, gd, un⟩ := A
  dsimp only at hA hh hd hu
  subst hA hh
  dsimp only [lawEnv] at *
  generalize hb : wBody.drop 5 = rest at hnext
  generalize hb0 : wBody.drop 3 = body at *
  generalize hsc : lawSc = sc at *
  obtain rfl : sc = Scope.mk _ _ _ _ _ := hsc.symm
  obtain rfl : body = (_ :: _ :: _ :: _) := hb0.symm
  obtain rfl := hb
  dsimp only [lps, kstB] at F
  dsimp only [restL] at N hnext
  simp only [List.cons_append, List.nil_append] at N
  have hl1 := hRc.length
  have hl2 := hRt.length
  have hl3 := hRr.length
  have hkl := okC_len hok
  have hk0 := Int.emod_nonneg (c.itr.length : Int) (b := (itst.length : Int)) (by omega)
  have hk1 := Int.emod_lt_of_pos (c.itr.length : Int) (b := (itst.length : Int)) (by omega)
  walk_at "GO"
  refine Stop.mk ?_
  rename Fr _ _ _ _ => F6
  rename News _ _ _ _ => N6
  refine lead_c B F6 X T N6 rfl rfl rfl rfl (by dsimp only; omega) (by dsimp only; omega) (.head _) hRc (by omega) (okC_pos hok) hp100 hp0 ?_
  intro ws tws h7 tk7 hws hwsl F7 N7
  dsimp only
  walk_at "GO"
  refine Stop.mk ?_
  k_dflt (refine' call_cls F7 X N7 ?k4 ?k5 ?k6 ?_; (case k4 => k_is); (case k5 => k_is); (case k6 => k_is))
  intro x dx h8 F8 N8 l1 l2
  have hsz : ws.cps.size < 1000 := by
    have e1 := lead_len ks (tks.getD ((c.itr.length : Int) % (itst.length : Int)).toNat 0)
    rw [← hws] at e1
    have e2 : ws.cps.toList.length = ws.cps.size := Array.length_toList
    omega
  have hasc : ws.cps.all (· < 128) = true := by
    have e1 := lead_ascii (leadRot ks (tks.getD ((c.itr.length : Int) % (itst.length : Int)).toNat 0))
    rw [← hws] at e1
    rw [← Array.all_toList]; exact e1
  refine init_c B F8 X T N8 rfl rfl rfl rfl (by rw [depth_under_make]; dsimp only; omega) (by rw [units_under_make]; dsimp only; omega) l1 l2 hasc hsz ?_
  intro an D itsD ksD h9 tk9 k1 k2 k3 k4 k5 tn tnt tb n nt b bs hRD hrun hb0 hn0 hnt0 hkD F9 N9 hxD hDan
  refine ⟨rfl, ?_⟩
  dsimp only
  obtain ⟨n', hwl⟩ := ws_lead hok (tks.getD ((c.itr.length : Int) % (itst.length : Int)).toNat 0)
  rw [hws, hwl] at hrun
  simp only [Prod.mk.injEq] at hrun
  obtain ⟨h91, hbz, _, hntz⟩ := hrun
  subst h91
  obtain rfl : b = 0 := by omega
  walk_at "GO"
  refine Stop.mk ?_
  rename Fr _ _ _ _ => F10
  rename News _ _ _ _ => N10
  refine tuple_at F10 N10 (.tail _ (.tail _ (.tail _ (.tail _ (.head _))))) (by omega) ?_
  intro D2 h11 F11 N11 hD2
  dsimp only
  walk_at "GO"
  refine Stop.mk ?_
  rename Fr _ _ _ _ => F12
  rename News _ _ _ _ => N12
  refine ne_norm_at N12 (.tail _ (.tail _ (.head _))) (.tail _ (.tail _ (.tail _ (.head _)))) (.head _) (.tail _ (.head _)) hRD hRc (by dsimp only; omega) ?_
  simp only [decide_true, Bool.and_self, Bool.not_true]
  walk_at "GO"
  refine Stop.mk ?_
  rename Fr _ _ _ _ => F13
  rename News _ _ _ _ => N13
  refine' hnext x dx an D itsD ws tws k1 k2 k3 k4 k5 tn tnt tb n nt bs _ _ _ hRD (by omega) ?same (fr_ext F13 ?hk) (news_sub N13 ?s)
  case hk => kst_all
  case s => dsimp only [whiteN]; walk_at "SUBS"
  case same => walk_at "SAME2"
end
section
theorem rst_EndA01 : True := by
  w_top off
  trivial
local macro_rules | `(tactic| walk_at "execs cons") => `(tactic| ((with_reducible show wpAny _ _ (execs (Stmt.For _ _ _ _ (Pos.mk 231 _ _ _) :: _) _) _ _ _); refine Stop.out ?_))
local macro_rules | `(tactic| walk_at "binaryOp Mult int int") => `(tactic| refine Stop.out ?_)
local macro_rules | `(tactic| walk_at "subscriptTail") => `(tactic| ((with_reducible show wpAny _ _ (subscriptTail _ (PySem.Expr.Slice _ _ _ _) _ _) _ _ _); refine Stop.out ?_))
local macro_rules | `(tactic| walk_at "exec For Name Call cons nil") => `(tactic| refine Stop.out ?_)
theorem Sep.dj79 {L lt : Addr} {itst : List Value} {wb osz on : Obj} {c : LSt} (h : Sep L lt c) (cc : Obj) : Dj [(79, tabObj #[])] ((L + 1 + 1 + 1, cc) :: (c.lh, listOf c.ith.toArray c.nh) :: (c.lrk, listOf c.itr.toArray c.nr) :: (c.lck, listOf c.itc.toArray c.nc) :: (lt, listOf itst.toArray 0) :: (L + 1 + 1 + 1 + 1, wb) :: (L + 1 + 1, osz) :: (L + 1, on) :: []) := by
  intro q hq p hp e
  have hn := h.1
  rw [show ([c.lh, L + 3, c.lrk, c.lck, lt, L + 4, L + 2, L + 1, 79] : List Nat) = [c.lh, L + 3, c.lrk, c.lck, lt, L + 4, L + 2, L + 1] ++ [79] from rfl, List.nodup_append] at hn
  rw [List.mem_singleton.mp hq] at e
  refine hn.2.2 p.1 ?_ 79 (.head _) e.symm
  have hm : p.1 ∈ ([L + 3, c.lh, c.lrk, c.lck, lt, L + 4, L + 2, L + 1] : List Nat) := List.mem_map.mpr ⟨p, hp, rfl⟩
  rcases List.mem_cons.mp hm with e | hm
  · rw [e]; exact .tail _ (.head _)
  · rcases List.mem_cons.mp hm with e | hm
    · rw [e]; exact .head _
    · exact .tail _ (.tail _ hm)
theorem TabL.mem {P : Addr} {line col : Nat} {qual : Str} {tab : List (Addr × Obj)} (h : TabL P line col qual tab) : ∃ ps, (P, tabObj ps) ∈ tab := by
  rcases h with rfl | ⟨c', oc, vs, t, rfl, _, _⟩
  · exact ⟨_, .head _⟩
  · exact ⟨_, .head _⟩
def Hide (p : Prop) : Prop := p
theorem mul_nat {prog : Program} {w : World} {A : Around} {E : Value → Shared → Prop} {s : Shared} {a b k : Nat} {t u : Tok} {Q : Value → Shared → Prop} (ha : a < 2 ^ k) (hb : b < 2 ^ k) (hk : k ≤ 10000) (h : ∀ t tk, Q (.int ((a * b : Nat) : Int) t) { s with toks := tk }) : wpAny (model prog w) A (binaryOp .Mult (.int (a : Int) t) (.int (b : Int) u)) Q E s := by
  refine mul_a (mulOk_of_bits (bits_le a k ha) (bits_le b k hb) (by omega)) ?_
  rw [← Int.natCast_mul]
  exact h
theorem endA {prog : Program} {w : World} {p : Program} {loose : List Str} {mean : ExcName → Option Value} {mg mb : Str → Option Value} {A A₀ : Around} {outer : List Env} {base h₀ : Heap} {L fa : Addr} {cd : Value} {m : Str → Option Value} {s : Shared} {Q : Flow → Shared → Prop}
  {lt : Addr} {itst : List Value} {wb osz on : Obj} {W nn : Nat} {tW tn : Tok} {c : LSt} {wbv : Option Value}
  (B : Below A₀ base outer h₀) (F : Fr h₀ L s.heap (kstB m (lps lt W tW c))) (X : (hd01.heap_1 w.params).In h₀) (T : Top p loose mean mg mb h₀)
  (N : News h₀ L s.heap ((L + 1 + 1 + 1, c.cc) :: (restL L lt itst wb osz on c ++ c.tab)))
  (hA : A.frames = some (lawEnv L fa cd :: outer)) (hh : A.handled = none) (hd : A.depth + 200 < recursionLimit) (hu : A.units + 4000 < cLine)
  (C : CodeHd h₀ 76 72) (C2 : CodeHd h₀ 83 79) (hT : TabL 72 77 4 (Str.ofString "_int2digits.<locals>.inner") c.tab) (hS : Sep L lt c)
  (hwb : wb.data = .cell wbv) (hon : on.data = .cell (some (.int (nn : Int) tn))) (hn3 : 3 ≤ nn) (hn7 : nn ≤ 7) (hW8 : 8 ≤ W) (hW15 : W ≤ 15) (hRr : Rels IntR c.itr c.ms.rk) (hr30 : c.ms.rk.length < 30)
  (b0 : 0 < byN nn W) (b1 : byN nn W < 2 ^ 900) (b2 : overN nn W < 2 ^ 900) (b3 : (Builtin.Int.intBits (overN nn W : Int) + Builtin.Int.intBits (byN nn W : Int) - 1) / Builtin.Int.intBits (byN nn W : Int) ≤ 100)
  (b4 : overN nn W / byN nn W < 2 ^ 900) (b5 : (Builtin.Int.intBits ((overN nn W / byN nn W : Nat) : Int) + W - 1) / W ≤ 100) (b6 : (bagsP nn W).length = nn + 1) (b7 : (c.ms.rk.length : Int) = (bagsP nn W).getD nn 0)
  (hnext : ∀ (lb : Addr) (itsb : List Value) (nb : Nat) (wb' : Obj) (h' : Heap) (tk' : Nat) (m' : Str → Option Value) (ps1 ps2 : Array Value), Rels IntR itsb (bagsP nn W) → wb'.data = .cell (some (.ref lb)) →
    Fr h₀ L h' (kstB m' [(Str.ofString "ranks", Value.ref c.lrk), (Str.ofString "cranks", Value.ref c.lck), (Str.ofString "columns", Value.int c.ms.col c.tcol)]) →
    News h₀ L h' ((lb, listOf itsb.toArray nb) :: (c.lrk, listOf c.itr.toArray c.nr) :: (c.lck, listOf c.itc.toArray c.nc) :: (L + 1 + 1 + 1 + 1, wb') :: (L + 1 + 1, osz) :: (L + 1, on) :: (72, tabObj ps1) :: (79, tabObj ps2) :: []) →
    wpAny (model prog w) A (execs (lawB.drop 17) (lawEnv L fa cd)) Q NoE { s with heap := h', toks := tk' }) :
  wpAny (model prog w) A (execs (lawB.drop 11) (lawEnv L fa cd)) Q NoE s := by
  obtain ⟨ah, dp, fr, gd, un⟩ := A
  dsimp only at hA hh hd hu
  subst hA hh
  dsimp only [lawEnv] at *
  generalize hb : lawB.drop 17 = rest at hnext
  generalize hb0 : lawB.drop 11 = body at *
  generalize hsc : lawSc = sc at *
  obtain rfl : sc = Scope.mk _ _ _ _ _ := hsc.symm
  obtain rfl : body = (_ :: _ :: _ :: _ :: _ :: _ :: _ :: _) := hb0.symm
  obtain rfl := hb
  dsimp only [lps, kstB] at F
  dsimp only [restL] at N hnext
  simp only [List.cons_append, List.nil_append] at N
  have hl3 := hRr.length
  have hnn : nn * (nn + 1) ≤ 7 * 8 := Nat.mul_le_mul (by omega) (by omega)
  have hex : W * (nn + nn * (nn + 1) / 2) ≤ 15 * 35 := Nat.mul_le_mul (by omega) (by omega)
  walk_at "GO"
  refine Stop.mk ?_
  rw [show ((nn : Int) + 1) = ((nn + 1 : Nat) : Int) by push_cast; rfl]
  refine mul_nat (k := 10) (by omega) (by omega) (by decide) ?_
  intro t1 tk1
  dsimp only
  walk_at "GO"
  refine Stop.mk ?_
  have eq2 : (nn : Int) + ((nn * (nn + 1) : Nat) : Int) / 2 = ((nn + nn * (nn + 1) / 2 : Nat) : Int) := by
    generalize nn * (nn + 1) = q
    omega
  rw [eq2]
  refine mul_nat (k := 10) (by omega) (by omega) (by decide) ?_
  intro t2 tk2
  dsimp only
  walk_at "GO"
  refine Stop.mk ?_
  refine pow2_a (by omega) (by omega) ?_
  intro t3 tk3
  have eov : (2 : Int) ^ (((W * (nn + nn * (nn + 1) / 2) : Nat) : Int)).toNat = ((overN nn W : Nat) : Int) := by
    rw [Int.toNat_natCast]; unfold overN; simp
  rw [eov]
  dsimp only
  walk_at "GO"
  refine Stop.mk ?_
  k_dflt (refine forExec (h₀ := h₀) rfl rfl ?_ (by intro _; rfl))
  walk_at "GO"
  refine Stop.mk ?_
  rename Fr _ _ _ _ => F4
  rename News _ _ _ _ => N4
  rename IsRange _ _ _ _ _ _ _ _ => hrg
  have hrn : Builtin.Range.rangeSize 1 ((nn : Int) + 1) 1 = ((nn : Nat) : Int) := by rw [show ((nn : Int) + 1) = ((nn + 1 : Nat) : Int) by push_cast; rfl, rangeSize_nat]; omega
  refine' iter_range_c (n := nn) (σ := Nat × Tok) (fun x => (L + 1 + 1 + 1, c.cc) :: (c.lh, listOf c.ith.toArray c.nh) :: (c.lrk, listOf c.itr.toArray c.nr) :: (c.lck, listOf c.itc.toArray c.nc) :: (lt, listOf itst.toArray 0) :: (L + 1 + 1 + 1 + 1, wb) :: (L + 1 + 1, osz) :: (L + 1, on) :: (79, tabObj #[]) :: c.tab) (fun x => [(Str.ofString "by", Value.int ((x.1 : Nat) : Int) x.2)]) [Str.ofString "_"]
    (fun i x => x.1 = byN i W ∧ i ≤ nn) (1, _) rfl hrg (small_one (by omega) (by omega) (by omega) (by omega)) hrn F4 (news_sub N4 (by walk_at "SUBS")) ?hk ⟨rfl, Nat.zero_le _⟩ ?turn ?done
  case hk => kst_all
  case turn =>
    rintro i ti ⟨b, tb⟩ u h tk I oI hi ⟨hb, hin⟩ hneI F5 N5
    dsimp only [kstB] at hb hin hneI F5 N5 ⊢
    subst hb
    have hWi : W * (i + 1) ≤ 15 * 7 := Nat.mul_le_mul (by omega) (by omega)
    have hii : i * i ≤ 6 * 6 := Nat.mul_le_mul (by omega) (by omega)
    have hWii : W * (i * i) ≤ 15 * 36 := Nat.mul_le_mul (by omega) hii
    have hby : byN i W < 2 ^ 900 := Nat.lt_of_le_of_lt (byN_le W i) (Nat.pow_lt_pow_right (by decide) (by omega))
    have hpw : 2 ^ (W * (i + 1)) - 1 < 2 ^ 900 := Nat.lt_of_le_of_lt (Nat.sub_le _ _) (Nat.pow_lt_pow_right (by decide) (by omega))
    walk_at "GO"
    refine Stop.mk ?_
    rw [show ((1 : Int) + (i : Int)) = ((i + 1 : Nat) : Int) by omega]
    refine mul_nat (k := 10) (by omega) (by omega) (by decide) ?_
    intro t5 tk5
    dsimp only
    walk_at "GO"
    refine Stop.mk ?_
    refine pow2_a (by omega) (by omega) ?_
    intro t6 tk6
    rw [Int.toNat_natCast]
    dsimp only
    walk_at "GO"
    refine Stop.mk ?_
    rw [show ((2 : Int) ^ (W * (i + 1)) - 1) = ((2 ^ (W * (i + 1)) - 1 : Nat) : Int) by rw [Int.natCast_sub Nat.one_le_two_pow]; simp]
    refine mul_nat (k := 900) hby hpw (by decide) ?_
    intro t7 tk7
    rw [← byN_succ]
    dsimp only
    walk_at "GO"
    refine fend (byN (i + 1) W, _) (by assumption) (by assumption) (fun p hp => .tail _ hp) (.head _) hneI (by kst_all) (by walk_at "SAMEF") ⟨rfl, by omega⟩
  case done =>
    rintro ⟨b, tb⟩ u h tk ⟨hb, _⟩ F5 N5
    dsimp only [kstB] at hb F5 N5 ⊢
    subst hb
    have hdj := Sep.dj (itst := itst) (wb := wb) (osz := osz) (on := on) (c := c) hS c.cc
    walk_at "GO"
    refine Stop.mk ?_
    rename Fr _ _ _ _ => F6
    rename News _ _ _ _ => N6
    refine intdivmod_c B F6 X T (tab1 := c.tab) (tab2 := [(79, tabObj #[])]) (news := (L + 1 + 1 + 1, c.cc) :: (c.lh, listOf c.ith.toArray c.nh) :: (c.lrk, listOf c.itr.toArray c.nr) :: (c.lck, listOf c.itc.toArray c.nc) :: (lt, listOf itst.toArray 0) :: (L + 1 + 1 + 1 + 1, wb) :: (L + 1 + 1, osz) :: (L + 1, on) :: []) (news_sub N6 (by walk_at "SUBS")) rfl rfl rfl rfl (by dsimp only; omega) (by dsimp only; omega) C hT C2 (.inl rfl) ?d1 ?d2 b0 b1 b2 b3 ?_
    case d1 =>
      intro q hq p hp
      refine hdj q hq p ?_
      revert p
      dsimp only [restL]
      walk_at "SUBS"
    case d2 => exact Sep.dj79 hS c.cc
    intro q h7 tk7 t1 t2 tab1 tab2 F7 N7 hT7 hT8 hd7 hd8 hq7
    dsimp only
    walk_at "GO"
    refine Stop.mk ?_
    rename Fr _ _ _ _ => F8
    rename News _ _ _ _ => N8
    refine int2digits_c B F8 X T (tab := tab1) (news := tab2 ++ ((L + 1 + 1 + 1, c.cc) :: (c.lh, listOf c.ith.toArray c.nh) :: (c.lrk, listOf c.itr.toArray c.nr) :: (c.lck, listOf c.itc.toArray c.nc) :: (lt, listOf itst.toArray 0) :: (L + 1 + 1 + 1 + 1, wb) :: (L + 1 + 1, osz) :: (L + 1, on) :: [])) (news_sub N8 (by walk_at "SUBS")) rfl rfl rfl rfl (by dsimp only; omega) (by dsimp only; omega) C hT7 hd7 (Int.natCast_nonneg _) (by omega) (by omega) (by rw [Int.toNat_natCast]; exact b4) (by rw [Int.toNat_natCast]; exact b5) ?_
    intro ld h9 tk9 itsd nd tab9 hRd F9 N9 hT9 hld9 hd9
    rw [Int.toNat_natCast, Int.toNat_natCast] at hRd
    have hlb : itsd.length = nn + 1 := by
      rw [hRd.length, ← b6]; unfold bagsP dg; rw [List.length_reverse, Int.toNat_natCast]
    have hId := rels_ints hRd
    replace N9 := news_sub N9 (b := (ld, listOf itsd.toArray nd) :: (L + 1 + 1 + 1 + 1, wb) :: (c.lrk, listOf c.itr.toArray c.nr) :: (c.lck, listOf c.itc.toArray c.nc) :: (L + 1 + 1, osz) :: (L + 1, on) :: (tab9 ++ tab2)) (by walk_at "SUBS")
    obtain ⟨ps1, hx1⟩ := TabL.mem hT9
    obtain ⟨ps2, hx2⟩ := TabL.mem hT8
    have g72 := hd9 _ hx1 (L + 1 + 1 + 1 + 1, wb) (List.mem_append_right _ (by walk_at "MEM"))
    have g79 := hd8 _ hx2 (L + 1 + 1 + 1 + 1, wb) (by walk_at "MEM")
    replace N9 := news_sub N9 (b := (ld, listOf itsd.toArray nd) :: (L + 1 + 1 + 1 + 1, wb) :: (c.lrk, listOf c.itr.toArray c.nr) :: (c.lck, listOf c.itc.toArray c.nc) :: (L + 1 + 1, osz) :: (L + 1, on) :: (72, tabObj ps1) :: (79, tabObj ps2) :: []) (by
      have hm1 : ∀ p, p = (72, tabObj ps1) → p ∈ tab9 := fun p e => e ▸ hx1
      have hm2 : ∀ p, p = (79, tabObj ps2) → p ∈ tab2 := fun p e => e ▸ hx2
      refine List.forall_mem_cons.mpr ⟨by walk_at "MEM", List.forall_mem_cons.mpr ⟨by walk_at "MEM", List.forall_mem_cons.mpr ⟨by walk_at "MEM", List.forall_mem_cons.mpr ⟨by walk_at "MEM", List.forall_mem_cons.mpr ⟨by walk_at "MEM", List.forall_mem_cons.mpr ⟨by walk_at "MEM", ?_⟩⟩⟩⟩⟩⟩
      intro p hp
      rcases List.mem_cons.mp hp with e | hp
      · rw [e]; simp only [List.mem_cons, List.mem_append]; exact Or.inr (Or.inr (Or.inr (Or.inr (Or.inr (Or.inr (Or.inl hx1))))))
      · rcases List.mem_cons.mp hp with e | hp
        · rw [e]; simp only [List.mem_cons, List.mem_append]; exact Or.inr (Or.inr (Or.inr (Or.inr (Or.inr (Or.inr (Or.inr hx2))))))
        · cases hp)
    have hhid : Hide (overN nn W / byN nn W < 2 ^ 900 ∧ byN nn W < 2 ^ 900) := ⟨b4, b1⟩
    have hqr : ((overN nn W / byN nn W * byN nn W : Nat) : Int) + ((overN nn W % byN nn W : Nat) : Int) = ((overN nn W : Nat) : Int) := by
      rw [← Int.natCast_add, Nat.mul_comm, Nat.div_add_mod]
    clear b1 b2 b3 b4 b5
    dsimp only
    walk_at "GO"
    refine Stop.mk ?_
    refine kba_turn (value' := PySem.Expr.Name (PySem.Str.ofString "_") ⟨0, 0, 0, 0⟩) (fun _ => rfl) ?_
    refine krv_ints (s := ⟨_, _, _, _, _⟩) F9 N9 (isL N9 (.head _)) (IsPart.int _ _) hId ?_ (by with_unfolding_all rfl) (by intro _; rfl) (by rw [List.size_toArray, hlb, sizeLine_eq]; omega)
    intro lb itsb h10 F10 N10 hlb10 hIb _
    dsimp only
    walk_at "GO"
    refine Stop.mk ?_
    have g4 : L + 1 + 1 + 1 + 1 < lb := hlb10 (L + 1 + 1 + 1 + 1, wb) (.tail _ (.head _))
    refine storeX_C F10 (news_sub N10 (b := (L + 1 + 1 + 1 + 1, wb) :: (lb, listOf itsb.toArray 0) :: (c.lrk, listOf c.itr.toArray c.nr) :: (c.lck, listOf c.itc.toArray c.nc) :: (L + 1 + 1, osz) :: (L + 1, on) :: (72, tabObj ps1) :: (79, tabObj ps2) :: []) (by walk_at "SUBS")) rfl (UpdF.head ?ne) hwb ?_
    case ne =>
      have a1 := List.nodup_cons.mp hS.1
      have a2 := List.nodup_cons.mp a1.2
      have a3 := List.nodup_cons.mp a2.2
      have a4 := List.nodup_cons.mp a3.2
      refine List.forall_mem_cons.mpr ⟨Nat.ne_of_gt g4, List.forall_mem_cons.mpr ⟨fun e => a3.1 (by rw [show c.lrk = L + 4 from e]; simp), List.forall_mem_cons.mpr ⟨fun e => a4.1 (by rw [show c.lck = L + 4 from e]; simp), List.forall_mem_cons.mpr ⟨?_, List.forall_mem_cons.mpr ⟨?_, List.forall_mem_cons.mpr ⟨g72, List.forall_mem_cons.mpr ⟨g79, fun p hp => nomatch hp⟩⟩⟩⟩⟩⟩⟩
      · show @Ne Nat (L + 1 + 1) (L + 1 + 1 + 1 + 1); omega
      · show @Ne Nat (L + 1) (L + 1 + 1 + 1 + 1); omega
    intro h11 wb' F11 N11 hwb'
    dsimp only at N11 ⊢
    have hRb := ints_rels hIb
    change Rels IntR itsb (bagsP nn W) at hRb
    have hlb2 := hRb.length
    have b7' : (c.ms.rk.length : Int) = (bagsP nn W).getD ((nn : Int)).toNat 0 := by rw [Int.toNat_natCast]; exact b7
    walk_at "GO"
    refine Stop.mk ?_
    refine mul_nat (k := 900) hhid.1 hhid.2 (by decide) ?_
    intro t12 tk12
    dsimp only
    have b8 : (c.itr.length : Int) = (bagsP nn W).getD ((nn : Int)).toNat 0 := by rw [hl3]; exact b7'
    walk_at "GO"
    · exact absurd hqr (by assumption)
    · exact absurd b8 (by assumption)
    refine Stop.mk ?_
    rename Fr _ _ _ _ => F13
    rename News _ _ _ _ => N13
    refine hnext lb itsb 0 wb' _ _ _ ps1 ps2 hRb hwb' (fr_ext F13 ?hk9) (news_sub N13 ?s9)
    case hk9 => kst_all
    case s9 => walk_at "SUBS"
end
section
theorem rst_EndB01 : True := by
  w_top off
  trivial
local macro_rules | `(tactic| walk_at "pyIter ref") => `(tactic| (k_here; (with_reducible show wpAny _ _ (pyIter (Value.ref _)) (fun it s₂ => TurnsAt _ _ _ _ _ _ _ _ _ it s₂) _ _); ktu_seq))
local macro_rules | `(tactic| walk_at "getMethod ref") => `(tactic| (k_here; (with_reducible show wpAny _ _ (getMethod (Value.ref _) (PySem.Str.ofString "count") _) _ _ _); k_dflt (refine' kl_method ?N ?m PySem.F.slot_list_count PySem.F.type_list_count ?_; (case N => k_asm); (case m => first | exact .tail _ (by assumption) | k_mem))))
local macro_rules | `(tactic| walk_at "call builtin:list.count") => `(tactic| refine Stop.out ?_)
local macro_rules | `(tactic| walk_at "execs cons") => `(tactic| ((with_reducible show wpAny _ _ (execs (Stmt.Assign _ _ (Pos.mk 236 _ _ _) :: _) _) _ _ _); refine Stop.out ?_))
local macro_rules | `(tactic| walk_at "exec For Name Call cons nil") => `(tactic| refine Stop.out ?_)
theorem endB {prog : Program} {w : World} {p : Program} {loose : List Str} {mean : ExcName → Option Value} {mg mb : Str → Option Value} {A A₀ : Around} {outer : List Env} {base h₀ : Heap} {L fa : Addr} {cd : Value} {m : Str → Option Value} {s : Shared} {Q : Flow → Shared → Prop}
  {lb lrk lck : Addr} {itsb itr itc : List Value} {nb nr nc : Nat} {wb osz on : Obj} {nn : Nat} {tn tcol : Tok} {bags rk ck : List Int} {col : Int} {ps1 ps2 : Array Value}
  (B : Below A₀ base outer h₀) (F : Fr h₀ L s.heap (kstB m [(Str.ofString "ranks", Value.ref lrk), (Str.ofString "cranks", Value.ref lck), (Str.ofString "columns", Value.int col tcol)])) (X : (hd01.heap_1 w.params).In h₀) (T : Top p loose mean mg mb h₀)
  (N : News h₀ L s.heap ((lb, listOf itsb.toArray nb) :: (lrk, listOf itr.toArray nr) :: (lck, listOf itc.toArray nc) :: (L + 1 + 1 + 1 + 1, wb) :: (L + 1 + 1, osz) :: (L + 1, on) :: (72, tabObj ps1) :: (79, tabObj ps2) :: []))
  (hA : A.frames = some (lawEnv L fa cd :: outer)) (hh : A.handled = none) (hd : A.depth + 200 < recursionLimit) (hu : A.units + 4000 < cLine)
  (hRb : Rels IntR itsb bags) (hbl : bags.length = nn + 1) (hn7 : nn ≤ 7) (hwb : wb.data = .cell (some (.ref lb))) (hon : on.data = .cell (some (.int (nn : Int) tn))) (hRr : Rels IntR itr rk) (hr30 : rk.length < 30) (hRc : Rels IntR itc ck) (hc30 : ck.length < 30)
  (s1 : shareOk nn bags rk 3 = true) (s2 : shareOk nn bags ck 1 = true)
  (hnext : ∀ (h' : Heap) (tk' : Nat) (m' : Str → Option Value), Fr h₀ L h' (kstB m' [(Str.ofString "columns", Value.int col tcol)]) →
    News h₀ L h' ((lb, listOf itsb.toArray nb) :: (L + 1 + 1 + 1 + 1, wb) :: (L + 1 + 1, osz) :: (L + 1, on) :: (72, tabObj ps1) :: (79, tabObj ps2) :: []) →
    wpAny (model prog w) A (execs (lawB.drop 18) (lawEnv L fa cd)) Q NoE { s with heap := h', toks := tk' }) :
  wpAny (model prog w) A (execs (lawB.drop 17) (lawEnv L fa cd)) Q NoE s := by
  obtain ⟨ah, dp, fr, gd, un⟩ := A
  dsimp only at hA hh hd hu
  subst hA hh
  dsimp only [lawEnv] at *
  generalize hb : lawB.drop 18 = rest at hnext
  generalize hb0 : lawB.drop 17 = body at *
  generalize hsc : lawSc = sc at *
  obtain rfl : sc = Scope.mk _ _ _ _ _ := hsc.symm
  obtain rfl : body = (_ :: _ :: _) := hb0.symm
  obtain rfl := hb
  dsimp only [kstB] at F
  have hl1 := hRb.length
  have hl2 := hRr.length
  have hl3 := hRc.length
  have hs1 : ∀ i, i < nn + 1 → ((rk.count (i : Int) : Nat) : Int) = shareP bags nn i 3 ∧ ((rk.count (-(i : Int)) : Nat) : Int) = shareP bags nn i 3 := fun i hi => by
    unfold shareOk at s1
    have := List.all_eq_true.mp s1 i (List.mem_range.mpr hi)
    simp only [Bool.and_eq_true, beq_iff_eq] at this
    exact this
  have hs2 : ∀ i, i < nn + 1 → ((ck.count (i : Int) : Nat) : Int) = shareP bags nn i 1 ∧ ((ck.count (-(i : Int)) : Nat) : Int) = shareP bags nn i 1 := fun i hi => by
    unfold shareOk at s2
    have := List.all_eq_true.mp s2 i (List.mem_range.mpr hi)
    simp only [Bool.and_eq_true, beq_iff_eq] at this
    exact this
  walk_at "GO"
  refine Stop.mk ?_
  k_dflt (refine forExec (h₀ := h₀) rfl rfl ?_ (by intro _; rfl))
  walk_at "GO"
  refine Stop.mk ?_
  rename Fr _ _ _ _ => F4
  rename News _ _ _ _ => N4
  rename IsRange _ _ _ _ _ _ _ _ => hrg
  obtain ⟨nws, hnws, N5⟩ : ∃ nws, nws = _ ∧ News h₀ L _ nws := ⟨_, rfl, N4⟩
  have m1 : (lb, listOf itsb.toArray nb) ∈ nws := by rw [hnws]; walk_at "MEM"
  have m2 : (lrk, listOf itr.toArray nr) ∈ nws := by rw [hnws]; walk_at "MEM"
  have m3 : (lck, listOf itc.toArray nc) ∈ nws := by rw [hnws]; walk_at "MEM"
  have m4 : (L + 1 + 1 + 1 + 1, wb) ∈ nws := by rw [hnws]; walk_at "MEM"
  have m5 : (L + 1, on) ∈ nws := by rw [hnws]; walk_at "MEM"
  have hrn : Builtin.Range.rangeSize 0 ((nn : Int) + 1) 1 = ((nn + 1 : Nat) : Int) := by rw [show ((nn : Int) + 1) = ((nn + 1 : Nat) : Int) by push_cast; rfl, rangeSize_nat]; omega
  refine' iter_range_c (n := nn + 1) (σ := Unit) (fun x => nws) (fun x => []) [Str.ofString "due"] (fun i x => True) () rfl hrg (small_one (by omega) (by omega) (by omega) (by omega)) hrn F4 N5 (by simp) trivial ?turn ?done
  case turn =>
    rintro i ti x u h tk I oI hi _ hneI F6 N6
    dsimp only [kstB] at F6 N6 ⊢
    rw [Int.zero_add] at F6
    walk_at "GO"
    refine Stop.mk ?_
    rename Fr _ _ _ _ => F7
    rename News _ _ _ _ => N7
    refine share_c B F7 X T N7 rfl rfl rfl rfl (by dsimp only; omega) (by dsimp only; omega) (.tail _ m1) hRb (by omega) (by omega) (by omega) (by omega) (by omega) (by omega) ?_
    intro t8 h8 tk8 F8 N8
    dsimp only
    have q1 := (hs1 i hi).1
    have q2 := (hs1 i hi).2
    have q3 := (hs2 i hi).1
    have q4 := (hs2 i hi).2
    walk_at "GO"
    refine Stop.mk ?_
    rename News _ _ _ _ => N9
    k_dflt (first
      | (refine count_list_ints (isL N9 (.tail _ m2)) (rels_ints hRr) ?_)
      | (refine count_list_ints (isL N9 (.tail _ m3)) (rels_ints hRc) ?_))
    walk_at "GO"
    · first | exact absurd q1 (by assumption) | exact absurd q3 (by assumption)
    refine Stop.mk ?_
    rename News _ _ _ _ => N10
    k_dflt (first
      | (refine count_list_ints (isL N10 (.tail _ m2)) (rels_ints hRr) ?_)
      | (refine count_list_ints (isL N10 (.tail _ m3)) (rels_ints hRc) ?_))
    walk_at "GO"
    · first | exact absurd q2 (by assumption) | exact absurd q4 (by assumption)
    refine fend () (by assumption) (by assumption) (fun p hp => .tail _ hp) (.head _) hneI (by simp) (by walk_at "SAMEF") trivial
  case done =>
    rintro x u h tk _ F6 N6
    dsimp only [kstB] at F6 N6 ⊢
    rw [hnws] at N6
    clear hnws
    walk_at "GO"
    refine Stop.mk ?_
    k_dflt (refine forExec (h₀ := h₀) rfl rfl ?_ (by intro _; rfl))
    walk_at "GO"
    refine Stop.mk ?_
    rename Fr _ _ _ _ => F4
    rename News _ _ _ _ => N4
    rename IsRange _ _ _ _ _ _ _ _ => hrg
    obtain ⟨nws, hnws, N5⟩ : ∃ nws, nws = _ ∧ News h₀ L _ nws := ⟨_, rfl, N4⟩
    have m1 : (lb, listOf itsb.toArray nb) ∈ nws := by rw [hnws]; walk_at "MEM"
    have m2 : (lrk, listOf itr.toArray nr) ∈ nws := by rw [hnws]; walk_at "MEM"
    have m3 : (lck, listOf itc.toArray nc) ∈ nws := by rw [hnws]; walk_at "MEM"
    have m4 : (L + 1 + 1 + 1 + 1, wb) ∈ nws := by rw [hnws]; walk_at "MEM"
    have m5 : (L + 1, on) ∈ nws := by rw [hnws]; walk_at "MEM"
    have hrn : Builtin.Range.rangeSize 0 ((nn : Int) + 1) 1 = ((nn + 1 : Nat) : Int) := by rw [show ((nn : Int) + 1) = ((nn + 1 : Nat) : Int) by push_cast; rfl, rangeSize_nat]; omega
    refine' iter_range_c (n := nn + 1) (σ := Unit) (fun x => nws) (fun x => []) [Str.ofString "due"] (fun i x => True) () rfl hrg (small_one (by omega) (by omega) (by omega) (by omega)) hrn F4 N5 (by simp) trivial ?turn ?done
    case turn =>
      rintro i ti x u h tk I oI hi _ hneI F6 N6
      dsimp only [kstB] at F6 N6 ⊢
      rw [Int.zero_add] at F6
      walk_at "GO"
      refine Stop.mk ?_
      rename Fr _ _ _ _ => F7
      rename News _ _ _ _ => N7
      refine share_c B F7 X T N7 rfl rfl rfl rfl (by dsimp only; omega) (by dsimp only; omega) (.tail _ m1) hRb (by omega) (by omega) (by omega) (by omega) (by omega) (by omega) ?_
      intro t8 h8 tk8 F8 N8
      dsimp only
      have q1 := (hs1 i hi).1
      have q2 := (hs1 i hi).2
      have q3 := (hs2 i hi).1
      have q4 := (hs2 i hi).2
      walk_at "GO"
      refine Stop.mk ?_
      rename News _ _ _ _ => N9
      k_dflt (first
        | (refine count_list_ints (isL N9 (.tail _ m2)) (rels_ints hRr) ?_)
        | (refine count_list_ints (isL N9 (.tail _ m3)) (rels_ints hRc) ?_))
      walk_at "GO"
      · first | exact absurd q1 (by assumption) | exact absurd q3 (by assumption)
      refine Stop.mk ?_
      rename News _ _ _ _ => N10
      k_dflt (first
        | (refine count_list_ints (isL N10 (.tail _ m2)) (rels_ints hRr) ?_)
        | (refine count_list_ints (isL N10 (.tail _ m3)) (rels_ints hRc) ?_))
      walk_at "GO"
      · first | exact absurd q2 (by assumption) | exact absurd q4 (by assumption)
      refine fend () (by assumption) (by assumption) (fun p hp => .tail _ hp) (.head _) hneI (by simp) (by walk_at "SAMEF") trivial
    case done =>
      rintro x u h tk _ F6 N6
      dsimp only [kstB] at F6 N6 ⊢
      rw [hnws] at N6
      clear hnws
      walk_at "GO"
      refine Stop.mk ?_
      rename Fr _ _ _ _ => F13
      rename News _ _ _ _ => N13
      refine hnext _ _ _ (fr_ext F13 ?hk9) (news_sub N13 ?s9)
      case hk9 => kst_all
      case s9 => walk_at "SUBS"
end
section
theorem rst_EndC01 : True := by
  w_top off
  trivial
local macro_rules | `(tactic| walk_at "binaryOp Mult int int") => `(tactic| refine Stop.out ?_)
theorem flat2_len {f : Nat → Nat → Int} {cnt : Nat → Nat} (k : Nat) : ∀ n, (∀ i, i < n → cnt i ≤ k) → (flat2 f cnt n).length ≤ n * k
  | 0, _ => by simp [flat2]
  | n + 1, h => by
    have h1 := flat2_len (f := f) (cnt := cnt) k n fun i hi => h i (by omega)
    have h2 := h n (by omega)
    simp only [flat2, List.length_append, List.length_map, List.length_range]
    rw [Nat.succ_mul]; omega
theorem flat2_sum {f : Nat → Nat → Int} {cnt : Nat → Nat} : ∀ n, (flat2 f cnt n).sum = ((List.range n).map fun i => ((List.range (cnt i)).map (f i)).sum).sum
  | 0 => rfl
  | n + 1 => by
    rw [flat2, List.sum_append, flat2_sum n, List.range_succ, List.map_append, List.sum_append]; simp
theorem endC {prog : Program} {w : World} {p : Program} {loose : List Str} {mean : ExcName → Option Value} {mg mb : Str → Option Value} {A A₀ : Around} {outer : List Env} {base h₀ : Heap} {L fa : Addr} {cd : Value} {m : Str → Option Value} {s : Shared} {Q : Flow → Shared → Prop}
  {lb : Addr} {itsb : List Value} {nb : Nat} {wb osz on : Obj} {nn sz : Nat} {tn tcol tsz : Tok} {bags : List Int} {col : Int} {ps1 ps2 : Array Value}
  (B : Below A₀ base outer h₀) (F : Fr h₀ L s.heap (kstB m [(Str.ofString "columns", Value.int col tcol)])) (X : (hd01.heap_1 w.params).In h₀) (T : Top p loose mean mg mb h₀)
  (N : News h₀ L s.heap ((lb, listOf itsb.toArray nb) :: (L + 1 + 1 + 1 + 1, wb) :: (L + 1 + 1, osz) :: (L + 1, on) :: (72, tabObj ps1) :: (79, tabObj ps2) :: []))
  (hA : A.frames = some (lawEnv L fa cd :: outer)) (hh : A.handled = none) (hd : A.depth + 200 < recursionLimit) (hu : A.units + 4000 < cLine)
  (hRb : Rels IntR itsb bags) (hbl : bags.length = nn + 1) (hn3 : 3 ≤ nn) (hn7 : nn ≤ 7) (hz1 : 1 ≤ sz) (hz4 : sz ≤ 4) (hwb : wb.data = .cell (some (.ref lb))) (hosz : osz.data = .cell (some (.int (sz : Int) tsz))) (hon : on.data = .cell (some (.int (nn : Int) tn)))
  (hcol : col = sz * stopsP nn sz bags)
  (hret : ∀ (h' : Heap) (tk' : Nat) (m' : Str → Option Value), Fr h₀ L h' m' → News h₀ L h' ((72, tabObj ps1) :: (79, tabObj ps2) :: []) → Q (.ret (.bool true)) { s with heap := h', toks := tk' }) :
  wpAny (model prog w) A (execs (lawB.drop 18) (lawEnv L fa cd)) Q NoE s := by
  obtain ⟨ah, dp, fr, gd, un⟩ := A
  dsimp only at hA hh hd hu
  subst hA hh
  dsimp only [lawEnv] at *
  generalize hb0 : lawB.drop 18 = body at *
  generalize hsc : lawSc = sc at *
  obtain rfl : sc = Scope.mk _ _ _ _ _ := hsc.symm
  obtain rfl : body = (_ :: _ :: []) := hb0.symm
  dsimp only [kstB] at F
  have hl1 := hRb.length
  have hcnt : ∀ i, i < nn → nn / (i + 1) ≤ 7 := fun i hi => Nat.le_trans (Nat.div_le_self _ _) hn7
  have hfl := flat2_len (f := fun i j => -(-((i : Int) + 1) / sz) * bags.getD (nn - (j + 1) * (i + 1)) 0) (cnt := fun i => nn / (i + 1)) 7 nn hcnt
  walk_at "GO"
  refine Stop.mk ?_
  k_dflt (refine ev_comp2 (n := nn) (cnt := fun i => nn / (i + 1)) (f := fun i j => -(-((i : Int) + 1) / sz) * bags.getD (nn - (j + 1) * (i + 1)) 0) F rfl rfl (by decide) rfl (by decide) rfl rfl (by decide) rfl (by omega) (by omega) ?_ (by intro _; rfl) (by intro _ _; rfl))
  walk_at "GO"
  rename Fr _ _ _ _ => F5
  rename News _ _ _ _ => N5
  rename IsRange _ _ _ _ _ _ _ _ => hrg
  refine ⟨_, _, _, _, _, rfl, F5, N5, hrg, ?inner, ?elt, ?fin⟩
  case inner =>
    intro i ti C oC m₂ h tk hi hoC hm2 F6 N6
    dsimp only
    walk_at "GO"
    rename IsRange _ _ _ _ _ _ _ _ => hrg2
    have e1 : (nn : Int) / (1 + (i : Int)) = ((nn / (i + 1) : Nat) : Int) := by
      rw [show (1 + (i : Int)) = ((i + 1 : Nat) : Int) by omega, Int.natCast_ediv]
    rw [e1] at hrg2
    refine ⟨_, _, _, _, _, _, rfl, rfl, hrg2, ?_⟩
    first | assumption | exact fun b o e => e
  case elt =>
    intro i C hi g tk j tj ti oC m₂ h tk2 hj hoC hm1 hm2 F6 N6
    dsimp only
    have hc7 : nn / (i + 1) ≤ 7 := hcnt i hi
    have hj' : j < nn / (i + 1) := hj
    have hji : (j + 1) * (i + 1) ≤ nn := Nat.le_trans (Nat.mul_le_mul_right _ (show j + 1 ≤ nn / (i + 1) from hj')) (Nat.div_mul_le_self _ _)
    have hq1 : -8 ≤ (-(1 + (i : Int))) / (sz : Int) := Int.le_ediv_of_mul_le (show (0 : Int) < (sz : Int) by omega) (show (-8 : Int) * (sz : Int) ≤ -(1 + (i : Int)) by omega)
    have hq2 : (-(1 + (i : Int))) / (sz : Int) < 0 := Int.ediv_neg_of_neg_of_pos (by omega) (by omega)
    walk_at "GO"
    refine Stop.mk ?_
    rw [show (1 + (j : Int)) = ((j + 1 : Nat) : Int) by omega, show (1 + (i : Int)) = ((i + 1 : Nat) : Int) by omega]
    refine mul_nat (k := 10) (by omega) (by omega) (by decide) ?_
    intro t7 tk7
    generalize hp : (j + 1) * (i + 1) = p at *
    dsimp only
    walk_at "GO"
    refine Stop.mk ?_
    rw [show ((i + 1 : Nat) : Int) = 1 + (i : Int) by omega]
    refine mul_a (IntMulOk.of_left (intBits_le_64 (by omega) (by omega))) ?_
    intro t8 tk8
    refine ⟨_, _, t8, rfl, ?_, fun b o e => e⟩
    rw [show ((nn : Int) - (p : Int)).toNat = nn - p by omega, Int.add_comm 1 (i : Int)]
  case fin =>
    intro D h tk ys hRy F6 N6 hoff
    dsimp only
    have hIy := rels_ints hRy
    have hsum : (flat2 (fun i j => -(-((i : Int) + 1) / sz) * bags.getD (nn - (j + 1) * (i + 1)) 0) (fun i => nn / (i + 1)) nn).sum = stopsP nn sz bags := flat2_sum nn
    walk_at "GO"
    refine Stop.mk ?_
    refine mul_a (IntMulOk.of_left (intBits_le_64 (by omega) (by omega))) ?_
    intro t9 tk9
    dsimp only
    walk_at "GO"
    rw [hsum, ← hcol, show (col == col) = true by simp]
    rename News _ _ _ _ => N9
    exact hret _ _ _ (by assumption) (news_sub N9 (by walk_at "SUBS"))
end
section
theorem rst_LawA01 : True := by
  w_top off
  trivial
local macro_rules | `(tactic| walk_at "SAME2") => `(tactic| (intro z h2 h3; (simp only [lpn, lst0, List.forall_mem_cons, List.not_mem_nil, false_implies, implies_true, and_true, ne_eq] at h2 h3); simp only [h2, h3, kstB, if_false]))
local macro_rules | `(tactic| walk_at "execs cons") => `(tactic| ((with_reducible show wpAny _ _ (execs (Stmt.Assign _ _ (Pos.mk 205 _ _ _) :: _) _) _ _ _); refine Stop.out ?_))
theorem turnA {prog : Program} {w : World} {p : Program} {loose : List Str} {mean : ExcName → Option Value} {mg mb : Str → Option Value} {A A₀ : Around} {outer : List Env} {base h₀ : Heap} {L fa : Addr} {cd : Value} {m : Str → Option Value} {s : Shared} {Q : Flow → Shared → Prop}
  {lt : Addr} {itst : List Value} {wb osz on : Obj} {W nn : Nat} {tW tn : Tok} {c : LSt} {ccv : Option Value}
  (B : Below A₀ base outer h₀) (F : Fr h₀ L s.heap (kstB m (lps lt W tW c))) (X : (hd01.heap_1 w.params).In h₀) (T : Top p loose mean mg mb h₀)
  (N : News h₀ L s.heap ((L + 1 + 1 + 1, c.cc) :: (restL L lt itst wb osz on c ++ c.tab)))
  (hA : A.frames = some (lawEnv L fa cd :: outer)) (hh : A.handled = none) (hd : A.depth + 200 < recursionLimit) (hu : A.units + 4000 < cLine)
  (C : CodeHd h₀ 76 72) (hT : TabL 72 77 4 (Str.ofString "_int2digits.<locals>.inner") c.tab) (hS : Sep L lt c)
  (hcc : c.cc.data = .cell ccv) (hon : on.data = .cell (some (.int (nn : Int) tn))) (hRh : Rels IntR c.ith c.ms.hp) (hp0 : 0 < c.ms.hp.length) (hh30 : c.ms.hp.length < 30)
  (hW8 : 8 ≤ W) (hW15 : W ≤ 15) (hlast : c.ms.last < c.ms.hp.getD 0 0) (hwe : weigh (dg W (c.ms.hp.getD 0 0)) = nn) (hok : okC (dg W (c.ms.hp.getD 0 0)) = true) (hb200 : (c.ms.hp.getD 0 0).toNat < 2 ^ 200) (hpos : 0 < c.ms.hp.getD 0 0)
  (hc100 : (Builtin.Int.intBits (c.ms.hp.getD 0 0) + W - 1) / W ≤ 100)
  (hnext : ∀ (lc : Addr) (itsc : List Value) (ncc : Nat) (tab' : List (Addr × Obj)) (cc' : Obj) (h' : Heap) (tk' : Nat) (m' : Str → Option Value) (tnum : Tok), Rels IntR itsc (dg W (c.ms.hp.getD 0 0)) → cc'.data = .cell (some (.ref lc)) →
    Same m' m → Fr h₀ L h' (kstB m' ((Str.ofString "number", Value.int (c.ms.hp.getD 0 0) tnum) :: lps lt W tW c)) → News h₀ L h' ((lc, listOf itsc.toArray ncc) :: (L + 1 + 1 + 1, cc') :: (restL L lt itst wb osz on c ++ tab')) →
    TabL 72 77 4 (Str.ofString "_int2digits.<locals>.inner") tab' → Sep L lt { c with tab := tab' } → (∀ x ∈ ([c.lh, L + 3, c.lrk, c.lck, lt, L + 4, L + 2, L + 1, 79] : List Nat), x ≠ lc) → (∀ q ∈ tab', q.1 ≠ lc) →
    wpAny (model prog w) A (execs (wBody.drop 3) (lawEnv L fa cd)) Q NoE { s with heap := h', toks := tk' }) :
  wpAny (model prog w) A (execs wBody (lawEnv L fa cd)) Q NoE s := by
  obtain ⟨ah, dp, fr, gd, un⟩ := A
  dsimp only at hA hh hd hu
  subst hA hh
  dsimp only [lawEnv] at *
  generalize hb : wBody.drop 3 = rest at hnext
  generalize hb0 : wBody = body at *
  generalize hsc : lawSc = sc at *
  obtain rfl : sc = Scope.mk _ _ _ _ _ := hsc.symm
  obtain rfl : body = (_ :: _ :: _ :: _) := hb0.symm
  obtain rfl := hb
  dsimp only [lps, kstB] at F
  dsimp only [restL] at N hnext
  simp only [List.cons_append, List.nil_append] at N
  have hl1 := hRh.length
  have hp1 : 0 < c.ith.length := by omega
  walk_at "GO"
  refine Stop.mk ?_
  rename Fr _ _ _ _ => F6
  rename News _ _ _ _ => N6
  obtain ⟨hnd, htab⟩ := hS
  change (@List.Nodup Nat _) at hnd
  have hdj := Sep.dj (itst := itst) (wb := wb) (osz := osz) (on := on) (c := c) ⟨hnd, htab⟩ c.cc
  refine int2digits_c B F6 X T (tab := c.tab) (news := (L + 1 + 1 + 1, c.cc) :: restL L lt itst wb osz on c) (news_sub N6 ?s1) rfl rfl rfl rfl (by dsimp only; omega) (by dsimp only; omega) C hT hdj (Int.le_of_lt hpos) (by omega) (by omega) (Nat.lt_of_lt_of_le hb200 (Nat.pow_le_pow_right (by decide) (by decide))) hc100 ?_
  case s1 => dsimp only [restL]; walk_at "SUBS"
  intro lc h7 tk7 itsc ncc tab7 hRc7 F7 N7 hT7 hlc7 hdj7
  dsimp only
  replace N7 := news_sub N7 (b := (L + 1 + 1 + 1, c.cc) :: (lc, listOf itsc.toArray ncc) :: (c.lh, listOf c.ith.toArray c.nh) :: (c.lrk, listOf c.itr.toArray c.nr) :: (c.lck, listOf c.itc.toArray c.nc) :: (lt, listOf itst.toArray 0) :: (L + 1 + 1 + 1 + 1, wb) :: (L + 1 + 1, osz) :: (L + 1, on) :: (79, tabObj #[]) :: tab7) (by dsimp only [restL]; walk_at "SUBS")
  have htab7 : ∀ q ∈ tab7, ∀ x ∈ ([c.lh, L + 3, c.lrk, c.lck, lt, L + 4, L + 2, L + 1, 79] : List Nat), q.1 ≠ x := by
    intro q hq x hx
    simp only [List.mem_cons, List.not_mem_nil, or_false] at hx
    rcases hx with e | e | e | e | e | e | e | e | e <;> rw [e]
    · exact hdj7 q hq (c.lh, _) (.tail _ (.head _))
    · exact hdj7 q hq (L + 1 + 1 + 1, _) (.head _)
    · exact hdj7 q hq (c.lrk, _) (.tail _ (.tail _ (.head _)))
    · exact hdj7 q hq (c.lck, _) (.tail _ (.tail _ (.tail _ (.head _))))
    · exact hdj7 q hq (lt, _) (.tail _ (.tail _ (.tail _ (.tail _ (.head _)))))
    · exact hdj7 q hq (L + 1 + 1 + 1 + 1, _) (.tail _ (.tail _ (.tail _ (.tail _ (.tail _ (.head _))))))
    · exact hdj7 q hq (L + 1 + 1, _) (.tail _ (.tail _ (.tail _ (.tail _ (.tail _ (.tail _ (.head _)))))))
    · exact hdj7 q hq (L + 1, _) (.tail _ (.tail _ (.tail _ (.tail _ (.tail _ (.tail _ (.tail _ (.head _))))))))
    · exact hdj7 q hq (79, _) (.tail _ (.tail _ (.tail _ (.tail _ (.tail _ (.tail _ (.tail _ (.tail _ (.head _)))))))))
  have hlcx : ∀ x ∈ ([c.lh, L + 3, c.lrk, c.lck, lt, L + 4, L + 2, L + 1, 79] : List Nat), x ≠ lc := by
    intro x hx
    simp only [List.mem_cons, List.not_mem_nil, or_false] at hx
    rcases hx with e | e | e | e | e | e | e | e | e <;> rw [e]
    · exact hlc7 (c.lh, _) (List.mem_append_right _ (.tail _ (.head _)))
    · exact hlc7 (L + 1 + 1 + 1, _) (List.mem_append_right _ (.head _))
    · exact hlc7 (c.lrk, _) (List.mem_append_right _ (.tail _ (.tail _ (.head _))))
    · exact hlc7 (c.lck, _) (List.mem_append_right _ (.tail _ (.tail _ (.tail _ (.head _)))))
    · exact hlc7 (lt, _) (List.mem_append_right _ (.tail _ (.tail _ (.tail _ (.tail _ (.head _))))))
    · exact hlc7 (L + 1 + 1 + 1 + 1, _) (List.mem_append_right _ (.tail _ (.tail _ (.tail _ (.tail _ (.tail _ (.head _)))))))
    · exact hlc7 (L + 1 + 1, _) (List.mem_append_right _ (.tail _ (.tail _ (.tail _ (.tail _ (.tail _ (.tail _ (.head _))))))))
    · exact hlc7 (L + 1, _) (List.mem_append_right _ (.tail _ (.tail _ (.tail _ (.tail _ (.tail _ (.tail _ (.tail _ (.head _)))))))))
    · exact hlc7 (79, _) (List.mem_append_right _ (.tail _ (.tail _ (.tail _ (.tail _ (.tail _ (.tail _ (.tail _ (.tail _ (.head _))))))))))
  have hlct : ∀ q ∈ tab7, q.1 ≠ lc := fun q hq => hlc7 q (List.mem_append_left _ hq)
  have htc : ∀ q ∈ tab7, q.1 ≠ L + 1 + 1 + 1 := fun q hq => htab7 q hq _ (.tail _ (.head _))
  have n1 : @Ne Nat (L + 3) lc := hlcx _ (.tail _ (.head _))
  change Rels IntR itsc (dg W (c.ms.hp.getD 0 0)) at hRc7
  have hlast' : c.ms.last < c.ms.hp.getD (Int.toNat 0) 0 := hlast
  clear hb200 hc100 hlast
  walk_at "GO"
  refine Stop.mk ?_
  refine storeX_C F7 N7 rfl (UpdF.head ?ne) hcc ?_
  case ne =>
    refine List.forall_mem_cons.mpr ⟨n1.symm, ?_⟩
    exact fun p hp => Sep.cell (c := { c with tab := tab7 }) ⟨hnd, htab7⟩ p hp
  intro h8 cc8 F8 N8 hcc8
  dsimp only at N8 ⊢
  have hkl := (okC_len hok).2.1
  generalize hks : dg W (c.ms.hp.getD 0 0) = ks at *
  have hlcr := hRc7.length
  walk_at "GO"
  refine Stop.mk ?_
  k_dflt (refine comp1_range (fun i y => ∃ t, y = Value.int (((i : Int) + 1) * ks.getD i 0) t) F8 rfl (by decide) rfl (by decide) rfl rfl ?_ (by intro _; rfl))
  walk_at "GO"
  rename Fr _ _ _ _ => F9
  rename News _ _ _ _ => N9
  rename IsRange _ _ _ _ _ _ _ _ => hrg
  have hrn : Builtin.Range.rangeSize 0 (itsc.length : Int) 1 = ((ks.length : Nat) : Int) := by rw [rangeSize_nat]; omega
  refine ⟨_, _, _, _, _, _, ks.length, _, rfl, F9, N9, hrg, (small_one (by omega) (by omega) (by omega) (by omega)), hrn, by omega, ?elem, ?fin⟩
  case elem =>
    rintro g i v I oI C oC D oD m₂ h tk hi ⟨tv, rfl⟩ hoC hm2 F10 N10 off ne
    dsimp only
    walk_at "GO"
    have e9 : ((0 : Int) + (i : Int) + 1) * ks.getD ((0 : Int) + (i : Int)).toNat 0 = ((i : Int) + 1) * ks.getD i 0 := by rw [Int.zero_add, Int.toNat_natCast]
    rw [e9]
    exact elt1 F10 N10 (fun p hp => hp) ⟨_, rfl⟩
  case fin =>
    intro D h tk ys hrel F10 N10 hoff
    dsimp only
    have hIy := rels_ints (relI_ints hrel)
    have hwe' : ((List.range ks.length).map fun (j : Nat) => ((j : Int) + 1) * ks.getD j 0).sum = (nn : Int) := hwe
    walk_at "GO"
    · exact absurd hwe' (by assumption)
    refine Stop.mk ?_
    rename Fr _ _ _ _ => F11
    rename News _ _ _ _ => N11
    refine' hnext lc itsc ncc tab7 cc8 _ _ _ _ hRc7 hcc8 ?same (fr_ext F11 ?hk) (news_sub N11 ?s) hT7 ⟨hnd, htab7⟩ hlcx hlct
    case hk => kst_all
    case s => walk_at "SUBS"
    case same => walk_at "SAME2"
end
section
local macro_rules | `(tactic| walk_at "PAD2") => `(tactic| skip)
theorem rst_LawC01 : True := by
  w_top off
  trivial
local macro_rules | `(tactic| walk_at "SAME2") => `(tactic| (intro z h2 h3; (simp only [lpn, lst0, List.forall_mem_cons, List.not_mem_nil, false_implies, implies_true, and_true, ne_eq] at h2 h3); simp only [h2, h3, kstB, if_false]))
local macro_rules | `(tactic| walk_at "execs cons") => `(tactic| ((with_reducible show wpAny _ _ (execs (Stmt.Assign _ _ (Pos.mk 213 _ _ _) :: _) _) _ _ _); refine Stop.out ?_))
theorem Sep.fresh {L lt lrk lck : Addr} {c : LSt} (h : Sep L lt c) (h1 : ∀ x ∈ ([c.lh, L + 3, lt, L + 4, L + 2, L + 1, 79] : List Nat), x < lrk) (h2 : ∀ x ∈ ([c.lh, L + 3, lt, L + 4, L + 2, L + 1, 79] : List Nat), x < lck) (h3 : @LT.lt Nat _ lrk lck) (t1 : ∀ q ∈ c.tab, q.1 < lrk) (t2 : ∀ q ∈ c.tab, q.1 < lck) : Sep L lt { c with lrk := lrk, lck := lck } := by
  have hs : @List.Nodup Nat [c.lh, L + 3, lt, L + 4, L + 2, L + 1, 79] := h.1.sublist (.cons_cons _ (.cons_cons _ (.cons _ (.cons _ (List.Sublist.refl _)))))
  have hn : @List.Nodup Nat (lck :: lrk :: [c.lh, L + 3, lt, L + 4, L + 2, L + 1, 79]) := by
    refine List.nodup_cons.mpr ⟨fun hm => ?_, List.nodup_cons.mpr ⟨fun hm => Nat.lt_irrefl _ (h1 _ hm), hs⟩⟩
    rcases List.mem_cons.mp hm with e | hm
    · exact Nat.lt_irrefl lck (by conv => lhs; rw [e]
                                  exact h3)
    · exact Nat.lt_irrefl _ (h2 _ hm)
  refine ⟨?_, fun q hq x hx => ?_⟩
  · have p1 : List.Perm ([c.lh, L + 3, lrk] ++ lck :: [lt, L + 4, L + 2, L + 1, 79]) (lck :: ([c.lh, L + 3, lrk] ++ [lt, L + 4, L + 2, L + 1, 79])) := List.perm_middle
    have p2 : List.Perm ([c.lh, L + 3] ++ lrk :: [lt, L + 4, L + 2, L + 1, 79]) (lrk :: ([c.lh, L + 3] ++ [lt, L + 4, L + 2, L + 1, 79])) := List.perm_middle
    exact (p1.trans (p2.cons _)).nodup_iff.mpr hn
  · rcases List.mem_cons.mp hx with e | hx
    · rw [e]; exact h.2 q hq _ (.head _)
    · rcases List.mem_cons.mp hx with e | hx
      · rw [e]; exact h.2 q hq _ (.tail _ (.head _))
      · rcases List.mem_cons.mp hx with e | hx
        · rw [e]; exact Nat.ne_of_lt (t1 q hq)
        · rcases List.mem_cons.mp hx with e | hx
          · rw [e]; exact Nat.ne_of_lt (t2 q hq)
          · exact h.2 q hq _ (.tail _ (.tail _ (.tail _ (.tail _ hx))))
theorem Rels.drop {κ : Type} {R : Value → κ → Prop} {vs : List Value} {ks : List κ} (h : Rels R vs ks) : ∀ k, Rels R (vs.drop k) (ks.drop k) := by
  induction h with
  | nil => intro k; simpa using Rels.nil
  | cons h r ih =>
    intro k
    cases k with
    | zero => exact .cons h r
    | succ k => exact ih k
theorem turnC {prog : Program} {w : World} {p : Program} {loose : List Str} {mean : ExcName → Option Value} {mg mb : Str → Option Value} {A A₀ : Around} {outer : List Env} {base h₀ : Heap} {L fa : Addr} {cd : Value} {m : Str → Option Value} {s : Shared} {Q : Flow → Shared → Prop}
  {lt lc : Addr} {itst itsc : List Value} {wb osz on cc : Obj} {W ncc sz : Nat} {tW tnum tsz : Tok} {c : LSt} {num : Int} {ks : List Int}
  {x dx an D : Addr} {itsD : List Value} {ws : Str} {t k1 k2 k3 k4 k5 tn tnt tb : Tok} {n nt : Int} {bs : Bool}
  (B : Below A₀ base outer h₀) (F : Fr h₀ L s.heap (kstB m ((Str.ofString "white", Value.ref x) :: (Str.ofString "number", Value.int num tnum) :: lps lt W tW c))) (X : (hd01.heap_1 w.params).In h₀) (T : Top p loose mean mg mb h₀)
  (N : News h₀ L s.heap (whiteN w x dx an D itsD ws t k1 k2 k3 k4 k5 tn tnt tb n nt bs ++ (lc, listOf itsc.toArray ncc) :: (L + 1 + 1 + 1, cc) :: (restL L lt itst wb osz on c ++ c.tab)))
  (hA : A.frames = some (lawEnv L fa cd :: outer)) (hh : A.handled = none) (hd : A.depth + 200 < recursionLimit) (hu : A.units + 4000 < cLine)
  (hRD : Rels IntR itsD ks) (hnt : nt = (partsOf ks).length) (hok : okC ks = true) (hlone : ks.getD 0 0 < 100) (hosz : osz.data = .cell (some (.int (sz : Int) tsz))) (hz0 : 0 < sz) (hz1 : sz ≤ 4)
  (hRr : Rels IntR c.itr c.ms.rk) (hr30 : c.ms.rk.length < 30) (hRk : Rels IntR c.itc c.ms.ck) (hc30 : c.ms.ck.length < 30) (hS : Sep L lt c)
  (hnext : ∀ (lrk lck : Addr) (itr itc : List Value) (tcol : Tok) (h' : Heap) (tk' : Nat) (m' : Str → Option Value),
    Rels IntR itr (c.ms.rk ++ [(ks.length : Int) - 1 + 1 - (partsOf ks).length]) → Rels IntR itc (c.ms.ck ++ [if ks.getD 0 0 = 0 then (ks.length : Int) - 1 + 1 else (ks.drop (ks.getD 0 0).toNat).sum - ks.getD 0 0]) →
    Same m' m → Sep L lt { c with lrk := lrk, lck := lck } →
    Fr h₀ L h' (kstB m' ((Str.ofString "number", Value.int num tnum) :: lps lt W tW { c with lrk := lrk, lck := lck, tcol := tcol, ms := { c.ms with col := c.ms.col + indentP ks sz (partsOf ks).length } })) →
    News h₀ L h' ((lc, listOf itsc.toArray ncc) :: (L + 1 + 1 + 1, cc) :: (restL L lt itst wb osz on { c with lrk := lrk, itr := itr, nr := 0, lck := lck, itc := itc, nc := 0 } ++ c.tab)) →
    wpAny (model prog w) A (execs (wBody.drop 10) (lawEnv L fa cd)) Q NoE { s with heap := h', toks := tk' }) :
  wpAny (model prog w) A (execs (wBody.drop 5) (lawEnv L fa cd)) Q NoE s := by
  obtain ⟨ah, dp, fr, gd, un⟩ := A
  dsimp only at hA hh hd hu
  subst hA hh
  dsimp only [lawEnv] at *
  generalize hb : wBody.drop 10 = rest at hnext
  generalize hb0 : wBody.drop 5 = body at *
  generalize hsc : lawSc = sc at *
  obtain rfl : sc = Scope.mk _ _ _ _ _ := hsc.symm
  obtain rfl : body = (_ :: _ :: _ :: _ :: _ :: _ :: _) := hb0.symm
  obtain rfl := hb
  dsimp only [lps, kstB] at F
  dsimp only [restL, whiteN] at N hnext
  simp only [List.cons_append, List.nil_append] at N
  have hl1 := hRD.length
  have hl3 := hRr.length
  have hl4 := hRk.length
  have hkl := okC_len hok
  have hlone0 := okC_pos hok 0
  walk_at "GO"
  refine Stop.mk ?_
  dsimp only [List.cons_append, List.nil_append]
  rename Fr _ _ _ _ => F6
  rename News _ _ _ _ => N6
  refine longest_c (ts := tb) B F6 X T N6 rfl rfl rfl rfl (by dsimp only; omega) (by dsimp only; omega) (.tail _ (.tail _ (.head _))) (.tail _ (.tail _ (.tail _ (.head _)))) (.head _) (.tail _ (.head _)) hRD (by omega) ?_
  intro t7 h7 tk7 F7 N7
  rw [if_neg (by omega)]
  have hlg : (0 : Int) < itsD.length := by omega
  walk_at "GO"
  refine Stop.mk ?_
  rename Fr _ _ _ _ => F8
  rename News _ _ _ _ => N8
  refine cat_int_at0 F8 N8 (show (c.lrk, listOf c.itr.toArray c.nr) ∈ _ by walk_at "MEM") (.head _) hRr (.cons ⟨_, rfl⟩ .nil) (by simp; omega) ?_
  intro lrk itr h9 hR9 F9 N9 hlrk
  dsimp only
  walk_at "GO"
  · rename (ks.getD (Int.toNat 0) 0 = 0) => hz
    refine Stop.mk ?_
    rename Fr _ _ _ _ => F10
    rename News _ _ _ _ => N10
    refine cat_int_at0 F10 N10 (show (c.lck, listOf c.itc.toArray c.nc) ∈ _ by walk_at "MEM") (.head _) hRk (.cons ⟨_, rfl⟩ .nil) (by simp; omega) ?_
    have hval : (if ks.getD 0 0 = 0 then (ks.length : Int) - 1 + 1 else (ks.drop (ks.getD 0 0).toNat).sum - ks.getD 0 0) = (ks.length : Int) - 1 + 1 := if_pos hz
    rw [hval] at hnext
    intro lck itc h11 hR11 F11 N11 hlck
    dsimp only
    walk_at "GO"
    refine Stop.mk ?_
    rename Fr _ _ _ _ => F12
    rename News _ _ _ _ => N12
    refine indent_c B F12 X T N12 rfl rfl rfl rfl (by dsimp only; omega) (by dsimp only; omega) (show (x, _) ∈ _ by walk_at "MEM") (show (dx, _) ∈ _ by walk_at "MEM") (show (an, _) ∈ _ by walk_at "MEM") (show (D, _) ∈ _ by walk_at "MEM") hRD (by omega) (by omega) (by omega) ?_
    intro t13 h13 tk13 F13 N13
    dsimp only
    walk_at "GO"
    refine Stop.mk ?_
    rename Fr _ _ _ _ => F14
    rename News _ _ _ _ => N14
    rw [hnt] at F14
    refine' hnext lrk lck itr itc _ _ _ _ ?rr hR11 ?same ?sep (fr_ext F14 ?hk) (news_sub N14 ?s)
    case hk => kst_all
    case s => walk_at "SUBS"
    case same => walk_at "SAME2"
    case rr => rw [← hnt]; exact hR9
    case sep =>
      have g1 : ∀ q ∈ (L + 1 + 1 + 1, cc) :: (restL L lt itst wb osz on c ++ c.tab), q.1 < lrk := by
        intro q hq
        refine hlrk q ?_
        revert q
        dsimp only [restL]
        walk_at "SUBS"
      have g2 : ∀ q ∈ (L + 1 + 1 + 1, cc) :: (restL L lt itst wb osz on c ++ c.tab), q.1 < lck := by
        intro q hq
        refine hlck q ?_
        revert q
        dsimp only [restL]
        walk_at "SUBS"
      have g3 : lrk < lck := hlck (lrk, _) (by walk_at "MEM")
      refine Sep.fresh hS (fun x hx => ?_) (fun x hx => ?_) g3 (fun q hq => g1 q (.tail _ (List.mem_append_right _ hq))) (fun q hq => g2 q (.tail _ (List.mem_append_right _ hq)))
      · simp only [List.mem_cons, List.not_mem_nil, or_false] at hx
        rcases hx with e | e | e | e | e | e | e <;> rw [e]
        · exact g1 (c.lh, _) (.tail _ (.head _))
        · exact g1 (L + 1 + 1 + 1, _) (.head _)
        · exact g1 (lt, _) (.tail _ (.tail _ (.tail _ (.tail _ (.head _)))))
        · exact g1 (L + 1 + 1 + 1 + 1, _) (.tail _ (.tail _ (.tail _ (.tail _ (.tail _ (.head _))))))
        · exact g1 (L + 1 + 1, _) (.tail _ (.tail _ (.tail _ (.tail _ (.tail _ (.tail _ (.head _)))))))
        · exact g1 (L + 1, _) (.tail _ (.tail _ (.tail _ (.tail _ (.tail _ (.tail _ (.tail _ (.head _))))))))
        · exact g1 (79, _) (.tail _ (.tail _ (.tail _ (.tail _ (.tail _ (.tail _ (.tail _ (.tail _ (.head _)))))))))
      · simp only [List.mem_cons, List.not_mem_nil, or_false] at hx
        rcases hx with e | e | e | e | e | e | e <;> rw [e]
        · exact g2 (c.lh, _) (.tail _ (.head _))
        · exact g2 (L + 1 + 1 + 1, _) (.head _)
        · exact g2 (lt, _) (.tail _ (.tail _ (.tail _ (.tail _ (.head _)))))
        · exact g2 (L + 1 + 1 + 1 + 1, _) (.tail _ (.tail _ (.tail _ (.tail _ (.tail _ (.head _))))))
        · exact g2 (L + 1 + 1, _) (.tail _ (.tail _ (.tail _ (.tail _ (.tail _ (.tail _ (.head _)))))))
        · exact g2 (L + 1, _) (.tail _ (.tail _ (.tail _ (.tail _ (.tail _ (.tail _ (.tail _ (.head _))))))))
        · exact g2 (79, _) (.tail _ (.tail _ (.tail _ (.tail _ (.tail _ (.tail _ (.tail _ (.tail _ (.head _)))))))))
  · rename (ks.getD (Int.toNat 0) 0 ≠ 0) => hz
    have hz' : ks.getD 0 0 ≠ 0 := hz
    have eln : ks.getD (Int.toNat 0) 0 = (((ks.getD 0 0).toNat : Nat) : Int) := (Int.toNat_of_nonneg hlone0).symm
    rename Fr _ _ _ _ => F10
    rename News _ _ _ _ => N10
    have hval : (if ks.getD 0 0 = 0 then (ks.length : Int) - 1 + 1 else (ks.drop (ks.getD 0 0).toNat).sum - ks.getD 0 0) = (ks.drop (ks.getD 0 0).toNat).sum - ks.getD (Int.toNat 0) 0 := if_neg hz
    rw [hval] at hnext
    simp only [eln]
    refine cut_tup (s := ⟨_, _, _, _, _⟩) F10 N10 (show (D, tupOf itsD) ∈ _ by walk_at "MEM") (by omega) (by omega) (by omega) ?_
    intro Dc hc1 Fc Nc hDc
    dsimp only
    walk_at "GO"
    k_dflt (refine' ktm_sumK ?ka ?kb ?kc ?kd ?ke ?_)
    case ka => rfl
    case kb => exact Fc
    case kc => exact Nc
    case kd => exact .head _
    case ke => exact rels_ints (hRD.drop _)
    intro hc2 tkc2 tc2 Fc2 Nc2
    dsimp only
    walk_at "GO"
    refine Stop.mk ?_
    rename Fr _ _ _ _ => F10
    rename News _ _ _ _ => N10
    refine cat_int_at0 F10 N10 (show (c.lck, listOf c.itc.toArray c.nc) ∈ _ by walk_at "MEM") (.head _) hRk (.cons ⟨_, rfl⟩ .nil) (by simp; omega) ?_
    intro lck itc h11 hR11 F11 N11 hlck
    dsimp only
    walk_at "GO"
    refine Stop.mk ?_
    rename Fr _ _ _ _ => F12
    rename News _ _ _ _ => N12
    refine indent_c B F12 X T N12 rfl rfl rfl rfl (by dsimp only; omega) (by dsimp only; omega) (show (x, _) ∈ _ by walk_at "MEM") (show (dx, _) ∈ _ by walk_at "MEM") (show (an, _) ∈ _ by walk_at "MEM") (show (D, _) ∈ _ by walk_at "MEM") hRD (by omega) (by omega) (by omega) ?_
    intro t13 h13 tk13 F13 N13
    dsimp only
    walk_at "GO"
    refine Stop.mk ?_
    rename Fr _ _ _ _ => F14
    rename News _ _ _ _ => N14
    rw [hnt] at F14
    refine' hnext lrk lck itr itc _ _ _ _ ?rr hR11 ?same ?sep (fr_ext F14 ?hk) (news_sub N14 ?s)
    case hk => kst_all
    case s => walk_at "SUBS"
    case same => walk_at "SAME2"
    case rr => rw [← hnt]; exact hR9
    case sep =>
      have g1 : ∀ q ∈ (L + 1 + 1 + 1, cc) :: (restL L lt itst wb osz on c ++ c.tab), q.1 < lrk := by
        intro q hq
        refine hlrk q ?_
        revert q
        dsimp only [restL]
        walk_at "SUBS"
      have g2 : ∀ q ∈ (L + 1 + 1 + 1, cc) :: (restL L lt itst wb osz on c ++ c.tab), q.1 < lck := by
        intro q hq
        refine hlck q ?_
        revert q
        dsimp only [restL]
        walk_at "SUBS"
      have g3 : lrk < lck := hlck (lrk, _) (by walk_at "MEM")
      refine Sep.fresh hS (fun x hx => ?_) (fun x hx => ?_) g3 (fun q hq => g1 q (.tail _ (List.mem_append_right _ hq))) (fun q hq => g2 q (.tail _ (List.mem_append_right _ hq)))
      · simp only [List.mem_cons, List.not_mem_nil, or_false] at hx
        rcases hx with e | e | e | e | e | e | e <;> rw [e]
        · exact g1 (c.lh, _) (.tail _ (.head _))
        · exact g1 (L + 1 + 1 + 1, _) (.head _)
        · exact g1 (lt, _) (.tail _ (.tail _ (.tail _ (.tail _ (.head _)))))
        · exact g1 (L + 1 + 1 + 1 + 1, _) (.tail _ (.tail _ (.tail _ (.tail _ (.tail _ (.head _))))))
        · exact g1 (L + 1 + 1, _) (.tail _ (.tail _ (.tail _ (.tail _ (.tail _ (.tail _ (.head _)))))))
        · exact g1 (L + 1, _) (.tail _ (.tail _ (.tail _ (.tail _ (.tail _ (.tail _ (.tail _ (.head _))))))))
        · exact g1 (79, _) (.tail _ (.tail _ (.tail _ (.tail _ (.tail _ (.tail _ (.tail _ (.tail _ (.head _)))))))))
      · simp only [List.mem_cons, List.not_mem_nil, or_false] at hx
        rcases hx with e | e | e | e | e | e | e <;> rw [e]
        · exact g2 (c.lh, _) (.tail _ (.head _))
        · exact g2 (L + 1 + 1 + 1, _) (.head _)
        · exact g2 (lt, _) (.tail _ (.tail _ (.tail _ (.tail _ (.head _)))))
        · exact g2 (L + 1 + 1 + 1 + 1, _) (.tail _ (.tail _ (.tail _ (.tail _ (.tail _ (.head _))))))
        · exact g2 (L + 1 + 1, _) (.tail _ (.tail _ (.tail _ (.tail _ (.tail _ (.tail _ (.head _)))))))
        · exact g2 (L + 1, _) (.tail _ (.tail _ (.tail _ (.tail _ (.tail _ (.tail _ (.tail _ (.head _))))))))
        · exact g2 (79, _) (.tail _ (.tail _ (.tail _ (.tail _ (.tail _ (.tail _ (.tail _ (.tail _ (.head _)))))))))
end
section
theorem rst_LawD01 : True := by
  w_top off
  trivial
local macro_rules | `(tactic| walk_at "SAME2") => `(tactic| (intro z h2 h3; (simp only [lpn, lst0, List.forall_mem_cons, List.not_mem_nil, false_implies, implies_true, and_true, ne_eq] at h2 h3); simp only [h2, h3, kstB, if_false, List.contains_cons, List.contains_nil, Bool.or_false, beq_iff_eq]))
theorem cmp_ltI {prog : Program} {w : World} {news : List (Addr × Obj)} : Cmp prog w IntR ltI news := by
  rintro x y a b A s Q E ⟨t, rfl⟩ ⟨u, rfl⟩ _ _ h
  exact PyProof.Rows.lt_int (h s.toks)
theorem ite_len {p : Prop} [Decidable p] {x : Int} : (if p then [x] else []).length ≤ 1 := by split <;> simp
theorem grow1_len (num : Int) (W : Nat) (ks : List Int) (part : Nat) : (grow1 num W ks part).length ≤ 1 := ite_len
theorem grown_len (num : Int) (W : Nat) (ks : List Int) : (grown num W ks).length ≤ 2 := by
  unfold grown
  rw [List.length_append]
  have h1 := grow1_len num W ks ks.length
  have h2 := grow1_len num W ks (ks.length - 1)
  omega
theorem sup_length {κ : Type} [Inhabited κ] (lt : κ → κ → Bool) : ∀ (f : Nat) (ks : List κ) (pos : Nat), (sup lt f ks pos).1.length = ks.length
  | 0, ks, pos => rfl
  | f + 1, ks, pos => by
    unfold sup
    split
    · split
      · rw [sup_length lt f, List.length_set]
      · rw [sup_length lt f, List.length_set]
    · rfl
theorem siftup_length {κ : Type} [Inhabited κ] (lt : κ → κ → Bool) (ks : List κ) : (siftup lt ks).length = ks.length := by
  unfold siftup
  rw [sdn_length, List.length_set, sup_length]
theorem pop_length {κ : Type} [Inhabited κ] (lt : κ → κ → Bool) (ks : List κ) : (pop lt ks).length = ks.length - 1 := by
  unfold pop
  split
  · rw [siftup_length, List.length_set, List.length_dropLast]
  · rw [List.length_dropLast]
theorem repl_length {κ : Type} [Inhabited κ] (lt : κ → κ → Bool) (ks : List κ) (x : κ) : (repl lt ks x).length = ks.length := by
  unfold repl
  rw [siftup_length, List.length_set]
theorem push_length {κ : Type} [Inhabited κ] (lt : κ → κ → Bool) (ks : List κ) (x : κ) : (push lt ks x).length = ks.length + 1 := by
  unfold push
  rw [sdn_length, List.length_append]; rfl
local macro_rules | `(tactic| walk_at "exec For Name Subscript cons nil") => `(tactic| refine Stop.out ?_)
theorem turnD {prog : Program} {w : World} {p : Program} {loose : List Str} {mean : ExcName → Option Value} {mg mb : Str → Option Value} {A A₀ : Around} {outer : List Env} {base h₀ : Heap} {L fa : Addr} {cd : Value} {m : Str → Option Value} {s : Shared} {Q : Flow → Shared → Prop}
  {lt lc : Addr} {itst itsc : List Value} {wb osz on cc : Obj} {W ncc : Nat} {tW tnum : Tok} {c : LSt} {ks : List Int}
  (B : Below A₀ base outer h₀) (F : Fr h₀ L s.heap (kstB m ((Str.ofString "number", Value.int (c.ms.hp.getD 0 0) tnum) :: lps lt W tW c))) (X : (hd01.heap_1 w.params).In h₀) (T : Top p loose mean mg mb h₀)
  (N : News h₀ L s.heap ((lc, listOf itsc.toArray ncc) :: (L + 1 + 1 + 1, cc) :: (restL L lt itst wb osz on c ++ c.tab)))
  (hA : A.frames = some (lawEnv L fa cd :: outer)) (hh : A.handled = none) (hd : A.depth + 200 < recursionLimit) (hu : A.units + 4000 < cLine)
  (hcc : cc.data = .cell (some (.ref lc))) (hRc : Rels IntR itsc ks) (hok : okC ks = true) (hW8 : 8 ≤ W) (hW15 : W ≤ 15)
  (hRh : Rels IntR c.ith c.ms.hp) (hp0 : 0 < c.ms.hp.length) (hh30 : c.ms.hp.length < 30) (hS : Sep L lt c)
  (hnext : ∀ (ith : List Value) (nh : Nat) (tlast : Tok) (h' : Heap) (tk' : Nat) (m' : Str → Option Value),
    Rels IntR ith (if (grown (c.ms.hp.getD 0 0) W ks).length = 0 then pop ltI c.ms.hp else ((grown (c.ms.hp.getD 0 0) W ks).drop 1).foldl (push ltI) (repl ltI c.ms.hp ((grown (c.ms.hp.getD 0 0) W ks).getD 0 0))) →
    Same m' m → Fr h₀ L h' (kstB m' (lps lt W tW { c with tlast := tlast, ms := { c.ms with last := c.ms.hp.getD 0 0 } })) →
    News h₀ L h' ((L + 1 + 1 + 1, cc) :: (restL L lt itst wb osz on { c with ith := ith, nh := nh } ++ c.tab)) →
    Q .next { s with heap := h', toks := tk' }) :
  wpAny (model prog w) A (execs (wBody.drop 10) (lawEnv L fa cd)) Q NoE s := by
  obtain ⟨ah, dp, fr, gd, un⟩ := A
  dsimp only at hA hh hd hu
  subst hA hh
  dsimp only [lawEnv] at *
  generalize hb0 : wBody.drop 10 = body at *
  generalize hsc : lawSc = sc at *
  obtain rfl : sc = Scope.mk _ _ _ _ _ := hsc.symm
  obtain rfl : body = (_ :: _ :: _ :: _ :: _ :: []) := hb0.symm
  dsimp only [lps, kstB] at F
  dsimp only [restL] at N hnext
  simp only [List.cons_append, List.nil_append] at N
  have hl1 := hRc.length
  have hl2 := hRh.length
  have hkl := okC_len hok
  have hheap := Sep.heap (itst := itst) (wb := wb) (osz := osz) (on := on) hS cc
  dsimp only [restL, List.drop] at hheap
  walk_at "GO"
  refine Stop.mk ?_
  rename Fr _ _ _ _ => F6
  rename News _ _ _ _ => N6
  refine grown_c B F6 X T N6 rfl rfl rfl rfl (by dsimp only; omega) (by dsimp only; omega) (.head _) hRc (by omega) (by omega) (by omega) (by omega) ?_
  intro lg h7 tk7 itsg ng hRg F7 N7 hlg
  rw [Int.toNat_natCast] at hRg
  generalize hgr : grown (c.ms.hp.getD 0 0) W ks = g at *
  have hlge := hRg.length
  have hg2 : g.length ≤ 2 := by rw [← hgr]; exact grown_len _ _ _
  have hglh : c.lh < lg := hlg (c.lh, _) (.tail _ (.tail _ (.head _)))
  (try dsimp only)
  walk_at "GO"
  refine Stop.mk ?_
  rename News _ _ _ _ => N8
  refine eq_lists_at N8 (.tail _ (.head _)) (.head _) hRg .nil (by dsimp only; omega) ?_
  by_cases hg : g = []
  · rw [show (decide (g = [])) = true by simp [hg]]
    walk_at "GO"
    refine Stop.mk ?_
    rename Fr _ _ _ _ => F9
    rename News _ _ _ _ => N9
    have hval : (if g.length = 0 then pop ltI c.ms.hp else (g.drop 1).foldl (push ltI) (repl ltI c.ms.hp (g.getD 0 0))) = (g.drop 1).foldl (push ltI) (pop ltI c.ms.hp) := by rw [hg]; rfl
    rw [hval] at hnext
    have N9' := news_sub N9 (b := (c.lh, listOf c.ith.toArray c.nh) :: (lg, listOf itsg.toArray ng) :: (L + 1 + 1 + 1, cc) :: (c.lrk, listOf c.itr.toArray c.nr) :: (c.lck, listOf c.itc.toArray c.nc) :: (lt, listOf itst.toArray 0) :: (L + 1 + 1 + 1 + 1, wb) :: (L + 1 + 1, osz) :: (L + 1, on) :: (79, tabObj #[]) :: c.tab) (by walk_at "SUBS")
    refine heappop_c B F9 X T N9' rfl rfl rfl rfl (by dsimp only; omega) (by dsimp only; omega) (List.forall_mem_cons.mpr ⟨Nat.ne_of_gt hglh, hheap⟩) cmp_ltI hRh hp0 (by omega) ?_
    rintro v h10 tk10 ith2 nh2 ⟨tv, ev⟩ hR10 F10 N10
    obtain rfl : v = Value.int (c.ms.hp.getD 0 0) tv := ev
    have hpl : (pop ltI c.ms.hp).length < 100 := by rw [pop_length]; omega
    generalize pop ltI c.ms.hp = hp1 at *
    have hIg := rels_ints hRg
    walk_at "GO"
    · exact absurd rfl (by assumption)
    refine Stop.mk ?_
    k_dflt (refine forExec (h₀ := h₀) rfl rfl ?_ (by intro _; rfl))
    walk_at "GO"
    refine Stop.mk ?_
    rename Fr _ _ _ _ => F20
    rename News _ _ _ _ => N20
    rename_i sl wsl _ hIs _ _ hsl
    have hRs := ints_rels hIs
    have hsll := hRs.length
    have hgd : (g.drop 1).length ≤ 1 := by rw [List.length_drop]; omega
    have hslh : c.lh < sl := hsl.1
    refine iter_list_c (its := wsl) (nn := 0) (σ := List Value × Nat × List Int) (fun x => (sl, listOf wsl.toArray 0) :: (c.lh, listOf x.1.toArray x.2.1) :: (L + 1 + 1 + 1, cc) :: (c.lrk, listOf c.itr.toArray c.nr) :: (c.lck, listOf c.itc.toArray c.nc) :: (lt, listOf itst.toArray 0) :: (L + 1 + 1 + 1 + 1, wb) :: (L + 1 + 1, osz) :: (L + 1, on) :: (79, tabObj #[]) :: c.tab) (fun x => []) [Str.ofString "further"]
      (fun i x => Rels IntR x.1 x.2.2 ∧ x.2.2 = ((g.drop 1).take i).foldl (push ltI) hp1 ∧ x.2.2.length ≤ 100 + i) (ith2, nh2, hp1) rfl (fun i c _ => .head _) F20 (news_sub N20 (by walk_at "SUBS")) (by simp) ⟨hR10, rfl, by dsimp only; omega⟩ ?turn ?done
    case turn =>
      rintro i ⟨it3, n3, hp3⟩ u h tk I oI hi ⟨hR3, hf3, hb3⟩ hneI F21 N21
      dsimp only [kstB] at hR3 hf3 hb3 hneI F21 N21 ⊢
      obtain ⟨tv3, ev3⟩ := hRs.getD (0 : Int) i (by omega)
      rw [ev3] at F21
      walk_at "GO"
      refine Stop.mk ?_
      rename Fr _ _ _ _ => F22
      rename News _ _ _ _ => N22
      refine heappush_c B F22 X T (news_sub N22 (b := (c.lh, listOf it3.toArray n3) :: (I, oI) :: (sl, listOf wsl.toArray 0) :: (L + 1 + 1 + 1, cc) :: (c.lrk, listOf c.itr.toArray c.nr) :: (c.lck, listOf c.itc.toArray c.nc) :: (lt, listOf itst.toArray 0) :: (L + 1 + 1 + 1 + 1, wb) :: (L + 1 + 1, osz) :: (L + 1, on) :: (79, tabObj #[]) :: c.tab) (by walk_at "SUBS")) rfl rfl rfl rfl (by dsimp only; omega) (by dsimp only; omega)
        (List.forall_mem_cons.mpr ⟨(hneI (c.lh, listOf it3.toArray n3) (.tail _ (.head _))).symm, List.forall_mem_cons.mpr ⟨Nat.ne_of_gt hslh, hheap⟩⟩) cmp_ltI hR3 ⟨_, rfl⟩ (by omega) ?_
      intro v h23 tk23 it23 n23 hv hR23 F23 N23
      subst hv
      dsimp only
      walk_at "GO"
      refine fend (it23, n23, push ltI hp3 ((g.drop 1).getD i 0)) (by assumption) (by assumption) (by walk_at "SUBS") (.tail _ (.head _)) ?_ (by simp) (by walk_at "SAMEF") ⟨hR23, ?_, by dsimp only; rw [push_length]; omega⟩
      · intro p hp
        rcases List.mem_cons.mp hp with rfl | hp
        · exact hneI (sl, listOf wsl.toArray 0) (.head _)
        · rcases List.mem_cons.mp hp with rfl | hp
          · exact hneI (c.lh, listOf it3.toArray n3) (.tail _ (.head _))
          · exact hneI p (.tail _ (.tail _ hp))
      · dsimp only
        have hi2 : i < (g.drop 1).length := by omega
        rw [hf3, List.take_add_one, List.foldl_append, List.getD_eq_getElem?_getD, List.getElem?_eq_getElem hi2]; rfl
    case done =>
      rintro ⟨it3, n3, hp3⟩ u h tk ⟨hR3, hf3, hb3⟩ F21 N21
      dsimp only [kstB] at hR3 hf3 hb3 F21 N21 ⊢
      rw [hsll, List.take_length] at hf3
      walk_at "GO"
      rename Fr _ _ _ _ => F24
      rename News _ _ _ _ => N24
      refine' hnext it3 n3 _ _ _ _ (hf3 ▸ hR3) ?same (fr_ext F24 ?hk) (news_sub N24 ?s)
      case hk => kst_all
      case s => walk_at "SUBS"
      case same => walk_at "SAME2"
  · rw [show (decide (g = [])) = false by simp [hg]]
    have hgl : 0 < g.length := List.length_pos_iff.mpr hg
    walk_at "GO"
    refine Stop.mk ?_
    rename Fr _ _ _ _ => F9
    rename News _ _ _ _ => N9
    have hval : (if g.length = 0 then pop ltI c.ms.hp else (g.drop 1).foldl (push ltI) (repl ltI c.ms.hp (g.getD 0 0))) = (g.drop 1).foldl (push ltI) (repl ltI c.ms.hp (g.getD 0 0)) := if_neg (by omega)
    rw [hval] at hnext
    have N9' := news_sub N9 (b := (c.lh, listOf c.ith.toArray c.nh) :: (lg, listOf itsg.toArray ng) :: (L + 1 + 1 + 1, cc) :: (c.lrk, listOf c.itr.toArray c.nr) :: (c.lck, listOf c.itc.toArray c.nc) :: (lt, listOf itst.toArray 0) :: (L + 1 + 1 + 1 + 1, wb) :: (L + 1 + 1, osz) :: (L + 1, on) :: (79, tabObj #[]) :: c.tab) (by walk_at "SUBS")
    refine heapreplace_c B F9 X T N9' rfl rfl rfl rfl (by dsimp only; omega) (by dsimp only; omega) (kx := g.getD 0 0) (List.forall_mem_cons.mpr ⟨Nat.ne_of_gt hglh, hheap⟩) cmp_ltI hRh ⟨_, rfl⟩ hp0 (by omega) ?_
    rintro v h10 tk10 ith2 nh2 ⟨tv, ev⟩ hR10 F10 N10
    obtain rfl : v = Value.int (c.ms.hp.getD 0 0) tv := ev
    have hpl : (repl ltI c.ms.hp (g.getD 0 0)).length < 100 := by rw [repl_length]; omega
    generalize repl ltI c.ms.hp (g.getD 0 0) = hp1 at *
    have hIg := rels_ints hRg
    walk_at "GO"
    · exact absurd rfl (by assumption)
    refine Stop.mk ?_
    k_dflt (refine forExec (h₀ := h₀) rfl rfl ?_ (by intro _; rfl))
    walk_at "GO"
    refine Stop.mk ?_
    rename Fr _ _ _ _ => F20
    rename News _ _ _ _ => N20
    rename_i sl wsl _ hIs _ _ hsl
    have hRs := ints_rels hIs
    have hsll := hRs.length
    have hgd : (g.drop 1).length ≤ 1 := by rw [List.length_drop]; omega
    have hslh : c.lh < sl := hsl.1
    refine iter_list_c (its := wsl) (nn := 0) (σ := List Value × Nat × List Int) (fun x => (sl, listOf wsl.toArray 0) :: (c.lh, listOf x.1.toArray x.2.1) :: (L + 1 + 1 + 1, cc) :: (c.lrk, listOf c.itr.toArray c.nr) :: (c.lck, listOf c.itc.toArray c.nc) :: (lt, listOf itst.toArray 0) :: (L + 1 + 1 + 1 + 1, wb) :: (L + 1 + 1, osz) :: (L + 1, on) :: (79, tabObj #[]) :: c.tab) (fun x => []) [Str.ofString "further"]
      (fun i x => Rels IntR x.1 x.2.2 ∧ x.2.2 = ((g.drop 1).take i).foldl (push ltI) hp1 ∧ x.2.2.length ≤ 100 + i) (ith2, nh2, hp1) rfl (fun i c _ => .head _) F20 (news_sub N20 (by walk_at "SUBS")) (by simp) ⟨hR10, rfl, by dsimp only; omega⟩ ?turn ?done
    case turn =>
      rintro i ⟨it3, n3, hp3⟩ u h tk I oI hi ⟨hR3, hf3, hb3⟩ hneI F21 N21
      dsimp only [kstB] at hR3 hf3 hb3 hneI F21 N21 ⊢
      obtain ⟨tv3, ev3⟩ := hRs.getD (0 : Int) i (by omega)
      rw [ev3] at F21
      walk_at "GO"
      refine Stop.mk ?_
      rename Fr _ _ _ _ => F22
      rename News _ _ _ _ => N22
      refine heappush_c B F22 X T (news_sub N22 (b := (c.lh, listOf it3.toArray n3) :: (I, oI) :: (sl, listOf wsl.toArray 0) :: (L + 1 + 1 + 1, cc) :: (c.lrk, listOf c.itr.toArray c.nr) :: (c.lck, listOf c.itc.toArray c.nc) :: (lt, listOf itst.toArray 0) :: (L + 1 + 1 + 1 + 1, wb) :: (L + 1 + 1, osz) :: (L + 1, on) :: (79, tabObj #[]) :: c.tab) (by walk_at "SUBS")) rfl rfl rfl rfl (by dsimp only; omega) (by dsimp only; omega)
        (List.forall_mem_cons.mpr ⟨(hneI (c.lh, listOf it3.toArray n3) (.tail _ (.head _))).symm, List.forall_mem_cons.mpr ⟨Nat.ne_of_gt hslh, hheap⟩⟩) cmp_ltI hR3 ⟨_, rfl⟩ (by omega) ?_
      intro v h23 tk23 it23 n23 hv hR23 F23 N23
      subst hv
      dsimp only
      walk_at "GO"
      refine fend (it23, n23, push ltI hp3 ((g.drop 1).getD i 0)) (by assumption) (by assumption) (by walk_at "SUBS") (.tail _ (.head _)) ?_ (by simp) (by walk_at "SAMEF") ⟨hR23, ?_, by dsimp only; rw [push_length]; omega⟩
      · intro p hp
        rcases List.mem_cons.mp hp with rfl | hp
        · exact hneI (sl, listOf wsl.toArray 0) (.head _)
        · rcases List.mem_cons.mp hp with rfl | hp
          · exact hneI (c.lh, listOf it3.toArray n3) (.tail _ (.head _))
          · exact hneI p (.tail _ (.tail _ hp))
      · dsimp only
        have hi2 : i < (g.drop 1).length := by omega
        rw [hf3, List.take_add_one, List.foldl_append, List.getD_eq_getElem?_getD, List.getElem?_eq_getElem hi2]; rfl
    case done =>
      rintro ⟨it3, n3, hp3⟩ u h tk ⟨hR3, hf3, hb3⟩ F21 N21
      dsimp only [kstB] at hR3 hf3 hb3 F21 N21 ⊢
      rw [hsll, List.take_length] at hf3
      walk_at "GO"
      rename Fr _ _ _ _ => F24
      rename News _ _ _ _ => N24
      refine' hnext it3 n3 _ _ _ _ (hf3 ▸ hR3) ?same (fr_ext F24 ?hk) (news_sub N24 ?s)
      case hk => kst_all
      case s => walk_at "SUBS"
      case same => walk_at "SAME2"
end
section
theorem rst_Law01 : True := by
  w_top off
  trivial
local macro_rules | `(tactic| walk_at "execs cons") => `(tactic| ((with_reducible first | show wpAny _ _ (execs (Stmt.Assign _ _ (Pos.mk 201 _ _ _) :: _) _) _ _ _ | show wpAny _ _ (execs (Stmt.Assign _ _ (Pos.mk 223 _ _ _) :: _) _) _ _ _); refine Stop.out ?_))
theorem kst_off {m : Str → Option Value} {z : Str} : ∀ {ps : List (Str × Value)}, (∀ p ∈ ps, z ≠ p.1) → kstB m ps z = m z
  | [], _ => rfl
  | p :: r, h => by
    show (if z = p.1 then some p.2 else kstB m r z) = m z
    rw [if_neg (h p (.head _)), kst_off fun q hq => h q (.tail _ hq)]
theorem nd_start {S lt lh lrk lck : Nat} (e1 : S + 4 < lt) (e2 : lt < lh) (e3 : lh < lrk) (e4 : lrk < lck) (e5 : 79 < S) : @List.Nodup Nat [lh, S + 3, lrk, lck, lt, S + 4, S + 2, S + 1, 79] := by
  simp only [List.nodup_cons, List.mem_cons, List.not_mem_nil, or_false, not_or, not_false_eq_true, List.nodup_nil, and_true]
  omega
theorem dj_start {S lt lh lrk lck : Nat} (e1 : S + 4 < lt) (e2 : lt < lh) (e3 : lh < lrk) (e4 : lrk < lck) (e5 : 79 < S) : ∀ x ∈ ([lh, S + 3, lrk, lck, lt, S + 4, S + 2, S + 1, 79] : List Nat), 72 ≠ x := by
  intro x hx
  simp only [List.mem_cons, List.not_mem_nil, or_false] at hx
  omega
theorem law01 : PySem.Challenge.rw_qj0011_01.Holds := hd01 (by
  w_strict (
    k_go0
    (all_goals try k_fold)
    refine wpAny_noRaise ?_
    (try dsimp only)
    (try k_fold)
    walk_at "GO"
    refine Stop.mk ?_
    rename Fr _ _ _ _ => F1
    rename News _ _ _ _ => N1
    rename IntsAre _ _ => hIn
    rename Heap.IsList _ _ _ => hSc
    rename_i lt3 _ hlt3
    refine cat_script F1 N1 (hSc.at (F1.keep _)) (.head _) (ints_rels hIn) (ks2 := [3, 0, 5]) (.cons ⟨_, rfl⟩ (.cons ⟨_, rfl⟩ (.cons ⟨_, rfl⟩ .nil))) (by simp; omega) ?_
    intro lt itst h2 hRt F2 N2 hlt
    dsimp only
    walk_at "GO"
    refine Stop.mk ?_
    rename Fr _ _ _ _ => F3
    rename News _ _ _ _ => N3
    rename ((_ : Obj).data = Data.cell (some (Value.int (3 + _) _))) => dn
    rename ((_ : Obj).data = Data.cell (some (Value.int (1 + _) _))) => dsz
    rename List Int => ns
    have hns : ns.length ≤ 63 := by omega
    obtain ⟨nn, sz, W, res, hn3, hn7, hs1, hs4, hW8, hW15, eN, eS, eW, hrun, hfin⟩ := draws ns.sum ns.length
    rw [eN] at dn N3
    rw [eS] at dsz
    rw [eW] at F3
    rename_i s1 _ _ _ _ fa _ _ cd _ _ _ _ _ _ _ _ _ _ _ _ _ _ _ _ _ _ _ _ _ _ _ _ _ _ _ _ _ _ wb wc _ _ hwb hwc _ _ _ KI TT BB hcd2 l0 _ _ _ _ _ _ _ _ _ _ _ _ on _ _ _ _ _ _ _ _ osz _ _ _ tW _ _ _ _ _ _ lh _ hlh _ _ _ lrk _ hlrk _ _ lck _ hlck _ _
    obtain ⟨ith0, hR0, N3⟩ := news_one3 N3
    obtain ⟨b0, b1, b2, b3, b4, b5, b6, b7, b8, b9, b10⟩ := mfin_get hfin
    refine' while_c (σ := LSt) (fun c => (s1.heap.objs.size + 1 + 1 + 1, c.cc) :: (restL s1.heap.objs.size lt itst wb osz on c ++ c.tab)) (fun c => lps lt W tW c) lst0
      (fun c => Rels IntR c.ith c.ms.hp ∧ Rels IntR c.itr c.ms.rk ∧ Rels IntR c.itc c.ms.ck ∧ msRun (nn : Int) (sz : Int) W c.f c.ms = some res ∧ TabL 72 77 4 (Str.ofString "_int2digits.<locals>.inner") c.tab ∧ (∃ v, c.cc.data = .cell v) ∧ Sep s1.heap.objs.size lt c ∧ c.ms.rk.length + c.f = 16 ∧ c.ms.ck.length + c.f = 16)
      (fun c => c.f) ⟨lh, ith0, 0, lrk, [], 0, lck, [], 0, _, _, wc, [(72, tabObj #[])], ⟨[(nn : Int)], 0, [], [], 0⟩, 16⟩ F3 (news_sub N3 ?sub) ?hk ?P0 ?turn
    case sub =>
      dsimp only [restL]
      walk_at "SUBS"
    case hk => kst_all
    case P0 =>
      have e1 : @LT.lt Nat _ (s1.heap.objs.size + 4) lt := hlt _ (.tail _ (.head _))
      have e2 : @LT.lt Nat _ lt lh := hlh.1
      have e3 : @LT.lt Nat _ lh lrk := hlrk.1
      have e4 : @LT.lt Nat _ lrk lck := hlck.1
      have e5 : @LT.lt Nat _ 79 s1.heap.objs.size := l0.1
      refine ⟨hR0, .nil, .nil, hrun, .inl rfl, ⟨_, hwc⟩, ⟨?nd, ?dj⟩, rfl, rfl⟩
      case nd => exact nd_start e1 e2 e3 e4 e5
      case dj =>
        intro q hq x hx
        rw [List.mem_singleton.mp hq]
        exact dj_start e1 e2 e3 e4 e5 x hx
    case turn =>
      rintro c u h tk ⟨hRh, hRr, hRc, hrun, hT, ⟨ccv, hcc⟩, hS, hrf, hcf⟩ F4 N4
      dsimp only at hRh hRr hRc hrun hT hcc hS hrf hcf F4 N4 ⊢
      dsimp only [restL] at N4
      simp only [List.cons_append, List.nil_append] at N4
      walk_at "GO"
      refine Stop.mk ?_
      rename News _ _ _ _ => N5
      refine ne_lists_at N5 (.tail _ (.tail _ (.head _))) (.head _) hRh .nil (by ke_room) ?_
      have hl1 := hRh.length
      have hl2 := hRr.length
      have hl3 := hRc.length
      have hl4 := hRt.length
      by_cases hemp : c.ms.hp = []
      · rw [show (!decide (c.ms.hp = [])) = false by simp [hemp]]
        walk_at "GO"
        refine Stop.mk ?_
        rename Fr _ _ _ _ => F6
        rename News _ _ _ _ => N6
        have hms := ms_end hrun (by rw [hemp]; rfl)
        refine endA (c := c) BB F6 KI TT (news_sub N6 (by dsimp only [restL]; walk_at "SUBS")) rfl rfl (by ke_room) (by ke_room) codeHd hcd2 hT hS hwb dn hn3 hn7 hW8 hW15 hRr (by omega) b0 b1 b2 b3 b4 b5 b6 (by rw [hms]; exact b7) ?_
        intro lb itsb nb wb2 h7 tk7 m7 ps1 ps2 hRb hwb2 F7 N7
        refine endB BB F7 KI TT N7 rfl rfl (by ke_room) (by ke_room) hRb b6 hn7 hwb2 dn hRr (by omega) hRc (by omega) (by rw [hms]; exact b8) (by rw [hms]; exact b9) ?_
        intro h8 tk8 m8 F8 N8
        refine endC BB F8 KI TT N8 rfl rfl (by ke_room) (by ke_room) hRb b6 hn3 hn7 hs1 hs4 hwb2 dsz dn (by rw [hms]; exact b10) ?_
        intro h9 tk9 m9 F9 N9
        (first | k_unfold | skip)
        (try dsimp only)
        refine ⟨?_, GrownAt.of N9 (.tail _ (.head _)), GrownAt.of N9 (.head _), trivial⟩
        k_end
        wrow_close
      · rw [show (!decide (c.ms.hp = [])) = true by simp [hemp]]
        have hpl : c.ms.hp.length ≠ 0 := fun e => hemp (List.eq_nil_of_length_eq_zero e)
        walk_at "GO"
        refine Stop.mk ?_
        rename Fr _ _ _ _ => F6
        rename News _ _ _ _ => N6
        obtain ⟨f', hf', hlast, hwe, hok, hb200, hpos, hh30, hr30, hc30, hp100, hp0, hc100, hlone, hp500, hrun'⟩ := ms_turn hrun hpl
        refine turnA (c := c) BB F6 KI TT (news_sub N6 (by dsimp only [restL]; walk_at "SUBS")) rfl rfl (by ke_room) (by ke_room) codeHd hT hS hcc dn hRh (by omega) hh30 hW8 hW15 hlast hwe hok hb200 hpos hc100 ?_
        intro lc itsc ncc tab2 cc2 h7 tk7 m7 tnum hRlc hcc2 hsm7 F7 N7 hT7 hS7 hlcx hlct
        refine turnB (c := { c with tab := tab2 }) BB F7 KI TT N7 rfl rfl (by ke_room) (by ke_room) hcc2 hRlc hok hRt (by simp) (by simp; omega) hRr hr30 hp100 hp0 hp500 ?_
        intro x dx an D itsD ws t k1 k2 k3 k4 k5 tn tnt tb n nt bs h8 tk8 m8 hRD hnt hsm8 F8 N8
        refine turnC (c := { c with tab := tab2 }) BB F8 KI TT N8 rfl rfl (by ke_room) (by ke_room) hRD hnt hok hlone dsz (by omega) hs4 hRr hr30 hRc hc30 hS7 ?_
        intro lrk2 lck2 itr2 itc2 tcol2 h9 tk9 m9 hRr2 hRc2 hsm9 hS9 F9 N9
        refine turnD (c := { c with tab := tab2, lrk := lrk2, itr := itr2, nr := 0, lck := lck2, itc := itc2, nc := 0, tcol := tcol2, ms := { c.ms with col := c.ms.col + indentP (dg W (c.ms.hp.getD 0 0)) sz (partsOf (dg W (c.ms.hp.getD 0 0))).length } }) BB F9 KI TT N9 rfl rfl (by ke_room) (by ke_room) hcc2 hRlc hok hW8 hW15 hRh (by dsimp only; omega) hh30 hS9 ?_
        intro ith3 nh3 tlast3 h10 tk10 m10 hRh3 hsm10 F10 N10
        have hsm := hsm10.trans (hsm9.trans (hsm8.trans hsm7))
        refine ksw_end ⟨c.lh, ith3, nh3, lrk2, itr2, 0, lck2, itc2, 0, tlast3, tcol2, cc2, tab2, msNext sz W c.ms, f'⟩ F10 N10 (fun p hp => hp) trivial ?hk2 ?same ⟨hRh3, hRr2, hRc2, hrun', hT7, ⟨_, hcc2⟩, hS9, ?l1, ?l2⟩ ?mu
        case hk2 => dsimp only [lps]; kst_all
        case same =>
          intro z h2 h3
          have g1 : ∀ q ∈ lpn, z ≠ q := fun q hq => by
            obtain ⟨p', hp', e'⟩ := List.mem_map.mp (show q ∈ (lps lt W tW ⟨c.lh, ith3, nh3, lrk2, itr2, 0, lck2, itc2, 0, tlast3, tcol2, cc2, tab2, msNext sz W c.ms, f'⟩).map (·.1) from hq)
            rw [← e']; exact h2 p' hp'
          have g2 : ∀ q ∈ lst0, z ≠ q := fun q hq e => by
            rw [e, List.contains_iff_mem.mpr hq] at h3; cases h3
          refine (kst_off h2).trans ((hsm z g1 g2).trans ?_)
          show (if lst0.contains z = true then _ else _) = _
          rw [h3, if_neg (by decide)]
        case l1 =>
          dsimp only [msNext]
          rw [List.length_append]
          have : ∀ a : Int, [a].length = 1 := fun _ => rfl
          rw [this]; omega
        case l2 =>
          dsimp only [msNext]
          rw [List.length_append]
          have : ∀ a : Int, [a].length = 1 := fun _ => rfl
          rw [this]; omega
        case mu => dsimp only; omega))
end
end Mine
theorem PySem.Challenge.cw_qj0011_01_holds : PySem.Challenge.rw_qj0011_01.Holds := by
  exact Mine.law01
