import PyProof.Rows.All
import Wide.All
import OpenK.AllK
import Wide.FinOn
import PySem.Challenge.RW_jb0036_01
open PySem PySem.W PyProof.Rows
set_option Elab.async false
set_option maxRecDepth 100000
set_option maxHeartbeats 8000000
set_option compiler.extract_closed false
section
namespace Mine
set_option maxRecDepth 100000
set_option maxHeartbeats 8000000
open_top hd for PySem.Challenge.rw_jb0036_01
end Mine
end
section
namespace Mine
def dbl (w : Int) : Int := if w < 512 then w * 2 else Builtin.bitXor (w * 2) 1033
def tms : Nat → Int → Int → Int → Int
  | 0, t, _, _ => t
  | n+1, t, a, b => if b = 0 then t else tms n (if b % 2 = 0 then t else Builtin.bitXor t a) (dbl a) (b / 2)
def times (a b : Int) : Int := tms 10 0 a b
def power : Nat → Int
  | 0 => 1
  | n+1 => dbl (power n)
/-- the word, the total after n turns -/
def invp (w : Int) : Nat → Int × Int
  | 0 => (w, 1)
  | n+1 => (times (invp w n).1 (invp w n).1, times (invp w n).2 (times (invp w n).1 (invp w n).1))
def inverse (w : Int) : Int := (invp w 9).2

theorem nat_add_and (a : Nat) : ∀ b, (a ^^^ b) + 2 * (a &&& b) = a + b := by
  induction a using Nat.strongRecOn with
  | _ a ih =>
    intro b
    rcases Nat.eq_zero_or_pos a with h | h
    · subst h; simp
    · have h1 := ih (a / 2) (by omega) (b / 2)
      have e1 : (a ^^^ b) / 2 = (a / 2) ^^^ (b / 2) := by rw [Nat.xor_div_two]
      have e2 : (a &&& b) / 2 = (a / 2) &&& (b / 2) := by rw [Nat.and_div_two]
      have e3 : (a ^^^ b) % 2 = (a % 2 + b % 2) % 2 := by
        have := Nat.xor_mod_two_pow (a := a) (b := b) (n := 1)
        rw [Nat.pow_one] at this
        rw [this]
        rcases Nat.mod_two_eq_zero_or_one a with ha | ha <;> rcases Nat.mod_two_eq_zero_or_one b with hb | hb <;> rw [ha, hb] <;> rfl
      have e4 : (a &&& b) % 2 = (a % 2) * (b % 2) := by
        have := Nat.and_mod_two_pow (a := a) (b := b) (n := 1)
        rw [Nat.pow_one] at this
        rw [this]
        rcases Nat.mod_two_eq_zero_or_one a with ha | ha <;> rcases Nat.mod_two_eq_zero_or_one b with hb | hb <;> rw [ha, hb] <;> rfl
      rw [← e1, ← e2] at h1
      rcases Nat.mod_two_eq_zero_or_one a with ha | ha <;> rcases Nat.mod_two_eq_zero_or_one b with hb | hb <;> rw [ha, hb] at e3 e4 <;> omega

theorem bx_nat (a b : Nat) : Builtin.bitXor (a : Int) (b : Int) = ((a ^^^ b : Nat) : Int) := by
  rw [PyProof.Rows.bitXor_and, PyProof.Rows.bitAnd_pp (by omega) (by omega)]
  have := nat_add_and a b
  simp only [Int.toNat_natCast]
  omega
theorem bx_toNat {a b : Int} (ha : 0 ≤ a) (hb : 0 ≤ b) : Builtin.bitXor a b = ((a.toNat ^^^ b.toNat : Nat) : Int) := by
  rw [← bx_nat, Int.toNat_of_nonneg ha, Int.toNat_of_nonneg hb]
theorem bx_lt {a b : Int} {n : Nat} (ha : 0 ≤ a ∧ a < (2:Int) ^ n) (hb : 0 ≤ b ∧ b < (2:Int) ^ n) : 0 ≤ Builtin.bitXor a b ∧ Builtin.bitXor a b < (2:Int) ^ n := by
  rw [bx_toNat ha.1 hb.1]
  have h1 : a.toNat < 2 ^ n := by have := ha.2; have e : ((2 ^ n : Nat) : Int) = (2:Int) ^ n := by norm_cast
                                  omega
  have h2 : b.toNat < 2 ^ n := by have := hb.2; have e : ((2 ^ n : Nat) : Int) = (2:Int) ^ n := by norm_cast
                                  omega
  have h3 := Nat.xor_lt_two_pow h1 h2
  have e : ((2 ^ n : Nat) : Int) = (2:Int) ^ n := by norm_cast
  constructor
  · omega
  · rw [← e]; exact_mod_cast h3
theorem bx_1024 {a b : Int} (ha : 0 ≤ a ∧ a < 1024) (hb : 0 ≤ b ∧ b < 1024) : 0 ≤ Builtin.bitXor a b ∧ Builtin.bitXor a b < 1024 := by
  have := bx_lt (n := 10) (a := a) (b := b) (by simpa using ha) (by simpa using hb)
  simpa using this

/-- the doubling keeps below 1,024 -/
theorem dbl_nat {w : Nat} (h : w < 1024) : ∃ v : Nat, dbl (w : Int) = (v : Int) ∧ v < 1024 := by
  unfold dbl
  by_cases h5 : w < 512
  · rw [if_pos (by omega)]
    exact ⟨w * 2, by omega, by omega⟩
  · rw [if_neg (by omega)]
    refine ⟨(w * 2) ^^^ 1033, by rw [← bx_nat]; rfl, ?_⟩
    have a1 : (w * 2) ^^^ 1033 = ((w * 2 - 1024) ^^^ 9) := by
      have b1 : w * 2 = 2 ^ 10 * 1 + (w * 2 - 1024) := by omega
      have b2 : (1033 : Nat) = 2 ^ 10 * 1 + 9 := by omega
      apply Nat.eq_of_testBit_eq
      intro i
      rw [Nat.testBit_xor, Nat.testBit_xor, b1, b2]
      rw [Nat.testBit_two_pow_mul_add _ (by omega), Nat.testBit_two_pow_mul_add _ (by omega)]
      by_cases hi : i < 10
      · rw [if_pos hi, if_pos hi]
        have : 2 ^ 10 * 1 + (w * 2 - 1024) - 1024 = w * 2 - 1024 := by omega
        rw [this]
      · rw [if_neg hi, if_neg hi]
        have z : ∀ k, k < 1024 → Nat.testBit k i = false := fun k hk => Nat.testBit_lt_two_pow (Nat.lt_of_lt_of_le hk (by
          have : 2 ^ 10 ≤ 2 ^ i := Nat.pow_le_pow_right (by omega) (by omega)
          omega))
        rw [Bool.xor_self, z _ (by omega), z _ (by omega)]; rfl
    rw [a1]
    exact Nat.xor_lt_two_pow (n := 10) (by omega) (by omega)
theorem dbl_lt {w : Int} (h : 0 ≤ w ∧ w < 1024) : 0 ≤ dbl w ∧ dbl w < 1024 := by
  obtain ⟨v, e, hv⟩ := dbl_nat (w := w.toNat) (by omega)
  rw [Int.toNat_of_nonneg h.1] at e
  rw [e]
  omega
theorem tms_lt : ∀ n t a b, 0 ≤ t ∧ t < 1024 → 0 ≤ a ∧ a < 1024 → 0 ≤ tms n t a b ∧ tms n t a b < 1024
  | 0, t, a, b, ht, _ => ht
  | n+1, t, a, b, ht, ha => by
    unfold tms
    by_cases hb : b = 0
    · rw [if_pos hb]; exact ht
    · rw [if_neg hb]
      refine tms_lt n _ _ _ ?_ (dbl_lt ha)
      by_cases h2 : b % 2 = 0
      · rw [if_pos h2]; exact ht
      · rw [if_neg h2]; exact bx_1024 ht ha
theorem times_lt {a b : Int} (ha : 0 ≤ a ∧ a < 1024) : 0 ≤ times a b ∧ times a b < 1024 := tms_lt 10 0 a b (by omega) ha
theorem power_lt : ∀ n, 0 ≤ power n ∧ power n < 1024
  | 0 => by decide
  | n+1 => dbl_lt (power_lt n)
theorem invp_lt {w : Int} (h : 0 ≤ w ∧ w < 1024) : ∀ n, (0 ≤ (invp w n).1 ∧ (invp w n).1 < 1024) ∧ 0 ≤ (invp w n).2 ∧ (invp w n).2 < 1024
  | 0 => ⟨h, by show (0:Int) ≤ 1 ∧ (1:Int) < 1024; omega⟩
  | n+1 => ⟨times_lt (invp_lt h n).1, times_lt (invp_lt h n).2⟩
theorem inverse_lt {w : Int} (h : 0 ≤ w ∧ w < 1024) : 0 ≤ inverse w ∧ inverse w < 1024 := (invp_lt h 9).2
/-- a word -/
def Wd (x : Int) : Prop := 0 ≤ x ∧ x < 1024
theorem Wd.dbl {x : Int} (h : Wd x) : Wd (dbl x) := dbl_lt h
theorem Wd.xor {x y : Int} (h : Wd x) (k : Wd y) : Wd (Builtin.bitXor x y) := bx_1024 h k
theorem Wd.times {x y : Int} (h : Wd x) : Wd (times x y) := times_lt h
theorem Wd.power {n : Nat} : Wd (power n) := power_lt n
theorem Wd.inverse {x : Int} (h : Wd x) : Wd (inverse x) := inverse_lt h
theorem Wd.mod {x : Int} : Wd (x.fmod 1024) := by
  rw [Int.fmod_eq_emod_of_nonneg x (by omega)]
  exact ⟨by omega, by omega⟩
theorem Wd.zero : Wd 0 := ⟨by decide, by decide⟩
theorem Wd.one : Wd 1 := ⟨by decide, by decide⟩
end Mine
end
section
local macro_rules | `(tactic| walk_at "eval Call Name") => `(tactic| k_extra "my eval Call Name")
local macro_rules | `(tactic| walk_at "call ref") => `(tactic| k_extra "my call ref")
local macro_rules | `(tactic| walk_at "pyIter ref") => `(tactic| k_extra "my pyIter ref")
local macro_rules | `(tactic| walk_at "exec For Name Name cons nil") => `(tactic| k_extra "my exec For Name Name cons nil")
local macro_rules | `(tactic| walk_at "exec For Name Call cons nil") => `(tactic| k_extra "my exec For Name Call cons nil")
local macro_rules | `(tactic| walk_at "binaryOp LShift int int") => `(tactic| k_extra "my binaryOp LShift int int")
local macro_rules | `(tactic| size_fits) => `(tactic| k_extra "my size_fits")
local macro_rules | `(tactic| walk_at "call type:list") => `(tactic| k_extra "my call type:list")
local macro_rules | `(tactic| k_all) => `(tactic| k_extra "my k_all")
local macro_rules | `(tactic| walk_at "eval ListComp") => `(tactic| k_extra "my eval ListComp")
local macro_rules | `(tactic| walk_at "call type:reversed") => `(tactic| k_extra "my call type:reversed")
local macro_rules | `(tactic| walk_at "DownSrc") => `(tactic| k_extra "my DownSrc")
local macro_rules | `(tactic| walk_at "CompRest") => `(tactic| k_extra "my CompRest")
local macro_rules | `(tactic| walk_at "CompEnd") => `(tactic| k_extra "my CompEnd")
local macro_rules | `(tactic| walk_at "CompSrc") => `(tactic| k_extra "my CompSrc")
local macro_rules | `(tactic| walk_at "FinE") => `(tactic| k_extra "my FinE")
local macro_rules | `(tactic| walk_at "FinA") => `(tactic| k_extra "my FinA")
local macro_rules | `(tactic| k_ne) => `(tactic| k_extra "my k_ne")
local macro_rules | `(tactic| walk_at "subscriptTail Name Constant ref int") => `(tactic| k_extra "my subscriptTail Name Constant ref int")
local macro_rules | `(tactic| walk_at "subscriptTail Name Name ref int") => `(tactic| k_extra "my subscriptTail Name Name ref int")
local macro_rules | `(tactic| passes_own) => `(tactic| k_extra "my passes_own")
local macro_rules | `(tactic| walk_at "call builtin:len") => `(tactic| k_extra "my call builtin:len")
local macro_rules | `(tactic| walk_at "CompRestT") => `(tactic| k_extra "my CompRestT")
local macro_rules | `(tactic| walk_at "execs cons") => `(tactic| k_extra "my execs cons")
local macro_rules | `(tactic| walk_at "exec Assign cons ListComp") => `(tactic| k_extra "my exec Assign cons ListComp")
local macro_rules | `(tactic| walk_at "TupSrc") => `(tactic| k_extra "my TupSrc")
local macro_rules | `(tactic| walk_at "CompRestP") => `(tactic| k_extra "my CompRestP")
local macro_rules | `(tactic| walk_at "exec For Tuple Tuple cons nil") => `(tactic| k_extra "my exec For Tuple Tuple cons nil")
local macro_rules | `(tactic| walk_at "binaryOp Mod int int") => `(tactic| k_extra "my binaryOp Mod int int")
local macro_rules | `(tactic| walk_at "call builtin:list.pop") => `(tactic| k_extra "my call builtin:list.pop")
local macro_rules | `(tactic| walk_at "subscriptTail") => `(tactic| k_extra "my subscriptTail")
section
namespace Mine
abbrev Cb (w : World) (mean : ExcName → Option Value) (mg mb : Str → Option Value) (f : Addr) (dep : Nat) (news : List (Addr × Obj)) (pre : Prop) (vs : List Value) (R : Tok → Value) : Prop :=
  ∀ (dp un : Nat) (gd : Option (List Code)) (cn : Str) (cs : Scope) (a : Addr) (ccd : Value) (cl : List (Str × Addr)) (outer : List Env) (A₀ : Around) (base h₀ : Heap) (L : Addr) (m : Str → Option Value) (s : Shared) (Q E : Value → Shared → Prop),
    Below A₀ base outer h₀ → Fr h₀ L s.heap m → (hd.heap_39 w.params).In h₀ → News h₀ L s.heap news → Top hd.view_39 (looseW hd.view_39 []) mean mg mb h₀ → cs.kind = .function →
    pre → dp + dep < recursionLimit → un + 8 * dep < cLine →
    (∀ (t : Tok) (h' : Heap) (tk' : Nat), Fr h₀ L h' m → News h₀ L h' news → Q (R t) { s with heap := h', toks := tk' }) →
      wpAny (model PySem.Challenge.rw_jb0036_01.row.prog w) (ktrTop dp un gd cn cs L a ccd cl outer) (call (.ref f) vs) Q E s

theorem c_dbl (w : World) (mean : ExcName → Option Value) (mg mb : Str → Option Value) (news : List (Addr × Obj)) (x : Int) (t : Tok) :
    Cb w mean mg mb 47 1 news (Wd x) [.int x t] (fun t => .int (dbl x) t) := by
  w_top off
  k_with_none
  k_with "tree" => simp only [dbl]
  dsimp only [Cb]
  k_fill
  intro dp un gd cn cs a ccd cl outer A₀ base h₀ L m s Q E B F X N T hk hpre hd hu hret
  obtain ⟨hx, hy⟩ := hpre
  refine wpAny_call ?_
  k_dflt cell_enter
  k_steps
  all_goals cb_end hret
end Mine
end
section
namespace Mine
theorem ms_start {x y : Int} (hx : Wd x) (hy : Wd y) : Wd x ∧ 0 ≤ y ∧ ∃ n : Nat, y < 2 ^ n ∧ tms n 0 x y = tms 10 0 x y := ⟨hx, hy.1, 10, by simpa using hy.2, rfl⟩
theorem ms_turn {x y t a b t' : Int} (h : Wd a ∧ 0 ≤ b ∧ ∃ n : Nat, b < 2 ^ n ∧ tms n t a b = tms 10 0 x y) (hb : b ≠ 0) (ht : t' = if b.fmod 2 = 0 then t else Builtin.bitXor t a) :
    Wd (dbl a) ∧ 0 ≤ b.fdiv 2 ∧ ∃ n : Nat, b.fdiv 2 < 2 ^ n ∧ tms n t' (dbl a) (b.fdiv 2) = tms 10 0 x y := by
  obtain ⟨ha, hb0, n, hn, e⟩ := h
  rw [Int.fdiv_eq_ediv_of_nonneg b (by omega)]
  rw [Int.fmod_eq_emod_of_nonneg b (by omega)] at ht
  refine ⟨ha.dbl, by omega, ?_⟩
  cases n with
  | zero => exact absurd hn (by simp; omega)
  | succ n =>
    refine ⟨n, ?_, ?_⟩
    · rw [Int.pow_succ] at hn; omega
    · rw [← e, ht]
      conv => rhs; unfold tms
      rw [if_neg hb]
theorem ms_turn0 {x y t a b : Int} (h1 : Wd a) (hb0 : 0 ≤ b) (h : ∃ n : Nat, b < 2 ^ n ∧ tms n t a b = tms 10 0 x y) (hb : b ≠ 0) (ht : b.fmod 2 = 0) :
    Wd (dbl a) ∧ 0 ≤ b.fdiv 2 ∧ ∃ n : Nat, b.fdiv 2 < 2 ^ n ∧ tms n t (dbl a) (b.fdiv 2) = tms 10 0 x y := ms_turn ⟨h1, hb0, h⟩ hb (if_pos ht).symm
theorem ms_turn1 {x y t a b : Int} (h1 : Wd a) (hb0 : 0 ≤ b) (h : ∃ n : Nat, b < 2 ^ n ∧ tms n t a b = tms 10 0 x y) (hb : b ≠ 0) (ht : b.fmod 2 ≠ 0) :
    Wd (dbl a) ∧ 0 ≤ b.fdiv 2 ∧ ∃ n : Nat, b.fdiv 2 < 2 ^ n ∧ tms n (Builtin.bitXor t a) (dbl a) (b.fdiv 2) = tms 10 0 x y := ms_turn ⟨h1, hb0, h⟩ hb (if_neg ht).symm
theorem ms_less {b : Int} (h0 : 0 ≤ b) (hb : b ≠ 0) : (b.fdiv 2).toNat < b.toNat := by
  rw [Int.fdiv_eq_ediv_of_nonneg b (by omega)]; omega
theorem ms_end' {x y t a b : Int} (hb : b = 0) (h : ∃ n : Nat, b < 2 ^ n ∧ tms n t a b = tms 10 0 x y) : t = times x y := by
  subst hb
  obtain ⟨n, hn, e⟩ := h
  rw [times, ← e]
  cases n with
  | zero => rfl
  | succ n => unfold tms; rw [if_pos rfl]
theorem c_times (w : World) (mean : ExcName → Option Value) (mg mb : Str → Option Value) (news : List (Addr × Obj)) (x y : Int) (t u : Tok) :
    Cb w mean mg mb 54 2 news (Wd x ∧ Wd y) [.int x t, .int y u] (fun t => .int (times x y) t) := by
  w_top off
  k_with_none
  k_with "my eval Call Name" => (k_here; refine Call_ ?_)
  k_with "my call ref" => (k_here; (with_reducible show wpAny _ _ (call (Value.ref 47) [Value.int _ _]) _ _ _); k_dflt (refine' c_dbl _ _ _ _ _ _ _ _ _ _ _ _ _ _ _ _ _ _ _ _ _ _ _ _ ?k1 ?k2 ?k3 ?k4 ?k5 ?kK ?kp ?kd ?ku ?_); (case k1 => k_asm); (case k2 => k_asm); (case k3 => k_asm); (case k4 => k_asm); (case k5 => k_asm); (case kK => first | exact rfl | assumption); (case kp => first | trivial | assumption | solve_by_elim (maxDepth := 12) [And.intro, Wd.dbl, Wd.xor, Wd.times, Wd.power, Wd.inverse, Wd.mod, Wd.zero, Wd.one]); (case kd => ktr_room); (case ku => ktr_units); intro t9 h9 tk9 F9 N9; (try dsimp only); (try k_fold))
  dsimp only [Cb]
  k_fill
  intro dp un gd cn cs a ccd cl outer A₀ base h₀ L m s Q E B F X N T hk hpre hd hu hret
  obtain ⟨hx, hy⟩ := hpre
  refine wpAny_call ?_
  k_dflt cell_enter
  k_with "exec While Name cons nil" => k_while_given ["one!", "two!"] (fun x y _ tt a b => Wd a ∧ 0 ≤ b ∧ ∃ n : Nat, b < 2 ^ n ∧ tms n tt a b = tms 10 0 x y) (fun x y _ tt x' y' => y'.toNat) "total" "one" "two"
  k_with "state" => first | exact ms_start (by assumption) (by assumption) | exact ms_turn0 (by assumption) (by assumption) (by assumption) (by assumption) (by assumption) | exact ms_turn1 (by assumption) (by assumption) (by assumption) (by assumption) (by assumption)
  k_with "measure" => exact ms_less (by assumption) (by assumption)
  k_with "tree" => exact ms_end' (by assumption) (by assumption)
  k_steps
  all_goals cb_end hret
end Mine
end
section
namespace Mine
theorem pw_start : (1 : Int) = power 0 ∧ Wd 1 := ⟨rfl, Wd.one⟩
theorem pw_turn {wd k : Int} {pre : List Int} (h : wd = power pre.length) : dbl wd = power (pre ++ [k]).length ∧ Wd (dbl wd) := by
  subst h
  rw [List.length_append]
  exact ⟨rfl, Wd.power.dbl⟩
theorem pw_end {x : Int} {wd : Int} (h : wd = power (rangeKs 0 (x - 0).toNat).length) : wd = power x.toNat := by
  rw [h, rangeKs_length, Int.sub_zero]
theorem c_power (w : World) (mean : ExcName → Option Value) (mg mb : Str → Option Value) (news : List (Addr × Obj)) (x : Int) (t : Tok) :
    Cb w mean mg mb 61 2 news (0 ≤ x ∧ x ≤ 1000) [.int x t] (fun t => .int (power x.toNat) t) := by
  w_top off
  k_with_none
  k_with "my eval Call Name" => (k_here; refine Call_ ?_)
  k_with "my call ref" => (k_here; (with_reducible show wpAny _ _ (call (Value.ref 47) [Value.int _ _]) _ _ _); k_dflt (refine' c_dbl _ _ _ _ _ _ _ _ _ _ _ _ _ _ _ _ _ _ _ _ _ _ _ _ ?k1 ?k2 ?k3 ?k4 ?k5 ?kK ?kp ?kd ?ku ?_); (case k1 => k_asm); (case k2 => k_asm); (case k3 => k_asm); (case k4 => k_asm); (case k5 => k_asm); (case kK => first | exact rfl | assumption); (case kp => first | trivial | assumption | solve_by_elim (maxDepth := 12) [And.intro, Wd.dbl, Wd.xor, Wd.times, Wd.power, Wd.inverse, Wd.mod, Wd.zero, Wd.one]); (case kd => ktr_room); (case ku => ktr_units); intro t9 h9 tk9 F9 N9; (try dsimp only); (try k_fold))
  k_with "my pyIter ref" => k_dflt (k_state (fun pre wd => wd = power pre.length ∧ Wd wd) "word")
  dsimp only [Cb]
  k_fill
  intro dp un gd cn cs a ccd cl outer A₀ base h₀ L m s Q E B F X N T hk hpre hd hu hret
  obtain ⟨hx, hy⟩ := hpre
  refine wpAny_call ?_
  k_dflt cell_enter
  k_with "state" => first | exact pw_start | exact pw_turn (by assumption)
  k_with "tree" => exact pw_end (by assumption)
  k_steps
  all_goals cb_end hret
end Mine
end
section
namespace Mine
theorem iv_start {x : Int} (h : Wd x) : (x, (1 : Int)) = invp x ([] : List Int).length ∧ Wd x ∧ Wd 1 := ⟨rfl, h, Wd.one⟩
theorem iv_turn {x wd tt k : Int} {pre : List Int} (h : (wd, tt) = invp x pre.length) (h1 : Wd wd) (h3 : Wd tt) : (times wd wd, times tt (times wd wd)) = invp x (pre ++ [k]).length ∧ Wd (times wd wd) ∧ Wd (times tt (times wd wd)) := by
  rw [List.length_append]
  refine ⟨?_, h1.times, h3.times⟩
  show _ = invp x (pre.length + 1)
  unfold invp
  rw [← h]
theorem iv_end {x wd tt : Int} {n : Nat} (h : (wd, tt) = invp x n) (hn : n = 9) : tt = inverse x := by
  rw [inverse, ← hn, ← h]
theorem c_inverse (w : World) (mean : ExcName → Option Value) (mg mb : Str → Option Value) (news : List (Addr × Obj)) (x : Int) (t : Tok) :
    Cb w mean mg mb 68 3 news (Wd x) [.int x t] (fun t => .int (inverse x) t) := by
  w_top off
  k_with_none
  k_with "my eval Call Name" => (k_here; refine Call_ ?_)
  k_with "my call ref" => (k_here; (with_reducible show wpAny _ _ (call (Value.ref 54) [Value.int _ _, Value.int _ _]) _ _ _); k_dflt (refine' c_times _ _ _ _ _ _ _ _ _ _ _ _ _ _ _ _ _ _ _ _ _ _ _ _ _ _ ?k1 ?k2 ?k3 ?k4 ?k5 ?kK ?kp ?kd ?ku ?_); (case k1 => k_asm); (case k2 => k_asm); (case k3 => k_asm); (case k4 => k_asm); (case k5 => k_asm); (case kK => first | exact rfl | assumption); (case kp => first | trivial | assumption | solve_by_elim (maxDepth := 12) [And.intro, Wd.dbl, Wd.xor, Wd.times, Wd.power, Wd.inverse, Wd.mod, Wd.zero, Wd.one]); (case kd => ktr_room); (case ku => ktr_units); intro t9 h9 tk9 F9 N9; (try dsimp only); (try k_fold))
  k_with "my pyIter ref" => k_dflt (k_state_given ["word!"] (fun x pre wd tt => (wd, tt) = invp x pre.length ∧ Wd wd ∧ Wd tt) "word" "total")
  dsimp only [Cb]
  k_fill
  intro dp un gd cn cs a ccd cl outer A₀ base h₀ L m s Q E B F X N T hk hpre hd hu hret
  refine wpAny_call ?_
  k_dflt cell_enter
  k_with "state" => first | exact iv_start (by assumption) | exact iv_turn (by assumption) (by assumption) (by assumption)
  k_with "tree" => exact iv_end (by assumption) (by first | rfl | decide)
  k_steps
  all_goals cb_end hret
end Mine
end
section
namespace Mine
abbrev CbL (w : World) (mean : ExcName → Option Value) (mg mb : Str → Option Value) (f : Addr) (dep : Nat) (news : List (Addr × Obj)) (l : Addr) (lv : List Value) (ns : List Int) (pre : Prop) (vs : List Value) (R : Tok → Value) : Prop :=
  ∀ (dp un : Nat) (gd : Option (List Code)) (cn : Str) (cs : Scope) (a : Addr) (ccd : Value) (cl : List (Str × Addr)) (outer : List Env) (A₀ : Around) (base h₀ : Heap) (L : Addr) (m : Str → Option Value) (s : Shared) (Q E : Value → Shared → Prop),
    Below A₀ base outer h₀ → Fr h₀ L s.heap m → (hd.heap_39 w.params).In h₀ → News h₀ L s.heap news → Top hd.view_39 (looseW hd.view_39 []) mean mg mb h₀ → cs.kind = .function →
    pre → dp + dep < recursionLimit → un + 8 * dep < cLine → base.IsList l lv.toArray → IntsAre lv ns → ns.length < 2 ^ 62 →
    (∀ (t : Tok) (h' : Heap) (tk' : Nat), Fr h₀ L h' m → News h₀ L h' news → Q (R t) { s with heap := h', toks := tk' }) →
      wpAny (model PySem.Challenge.rw_jb0036_01.row.prog w) (ktrTop dp un gd cn cs L a ccd cl outer) (call (.ref f) vs) Q E s

def number (ns : List Int) (p : Int) : Int := (if ns = [] then 0 else ns.getD (p % (ns.length : Int)).toNat 0) + 7 * p
theorem nb_some {ns : List Int} {x : Int} (h0 : 0 ≤ x) (h : 0 < ns.length) : ns.getD (x.fmod ↑ns.length).toNat 0 + 7 * x = number ns x := by
  unfold number
  rw [if_neg (by intro e; rw [e] at h; exact absurd h (by simp)), Int.fmod_eq_emod_of_nonneg x (by omega)]
theorem nb_none {ns : List Int} {x : Int} (h : ¬ 0 < ns.length) : 0 + 7 * x = number ns x := by
  unfold number
  rw [if_pos (List.length_eq_zero_iff.mp (by omega))]
theorem c_number (w : World) (mean : ExcName → Option Value) (mg mb : Str → Option Value) (news : List (Addr × Obj)) (l : Addr) (lv : List Value) (ns : List Int) (x : Int) (t : Tok) :
    CbL w mean mg mb 40 1 news l lv ns (0 ≤ x ∧ x ≤ 1000) [.ref l, .int x t] (fun t => .int (number ns x) t) := by
  w_top off
  k_with_none
  k_with "my eval Call Name" => (k_here; refine Call_ ?_)
  dsimp only [CbL]
  k_fill
  intro dp un gd cn cs a ccd cl outer A₀ base h₀ L m s Q E B F X N T hk hpre hd hu hL hI hlen hret
  obtain ⟨hx, hy⟩ := hpre
  refine wpAny_call ?_
  k_dflt cell_enter
  k_with "tree" => first | exact nb_some (by assumption) (by assumption) | exact nb_none (by assumption)
  k_steps

  all_goals cb_end hret
end Mine
end
section
namespace Mine
def sumsStep (s : Int × Int × Int) (w : Int) : Int × Int × Int := (Builtin.bitXor (dbl s.1) w, Builtin.bitXor (dbl (dbl s.2.1)) w, Builtin.bitXor (dbl (dbl (dbl s.2.2))) w)
def sums (row : List Int) : Int × Int × Int := row.foldl sumsStep (1, 1, 1)
abbrev CbS (w : World) (mean : ExcName → Option Value) (mg mb : Str → Option Value) (f : Addr) (dep : Nat) (news : List (Addr × Obj)) (l : Addr) (n : Nat) (lv : List Value) (ns : List Int) (pre : Prop) (vs : List Value) (R : Int × Int × Int) : Prop :=
  ∀ (dp un : Nat) (gd : Option (List Code)) (cn : Str) (cs : Scope) (a : Addr) (ccd : Value) (cl : List (Str × Addr)) (outer : List Env) (A₀ : Around) (base h₀ : Heap) (L : Addr) (m : Str → Option Value) (s : Shared) (Q E : Value → Shared → Prop),
    Below A₀ base outer h₀ → Fr h₀ L s.heap m → (hd.heap_39 w.params).In h₀ → News h₀ L s.heap news → Top hd.view_39 (looseW hd.view_39 []) mean mg mb h₀ → cs.kind = .function →
    pre → dp + dep < recursionLimit → un + 8 * dep < cLine → (l, listOf lv.toArray n) ∈ news → IntsAre lv ns → ns.length < 2 ^ 20 →
    (∀ (t1 t2 t3 : Tok) (l' : Addr) (h' : Heap) (tk' : Nat), Fr h₀ L h' m → News h₀ L h' ((l', listOf [.int R.1 t1, .int R.2.1 t2, .int R.2.2 t3].toArray 0) :: news) → (∀ p ∈ news, p.1 < l') → Q (.ref l') { s with heap := h', toks := tk' }) →
      wpAny (model PySem.Challenge.rw_jb0036_01.row.prog w) (ktrTop dp un gd cn cs L a ccd cl outer) (call (.ref f) vs) Q E s
theorem sm_start : ((1 : Int), (1 : Int), (1 : Int)) = sums [] ∧ Wd 1 ∧ Wd 1 ∧ Wd 1 := ⟨rfl, Wd.one, Wd.one, Wd.one⟩
theorem sm_turn {a b c k : Int} {pre : List Int} (h : (a, b, c) = sums pre) (ha : Wd a) (hb : Wd b) (hc : Wd c) (hk : Wd k) :
    (Builtin.bitXor (dbl a) k, Builtin.bitXor (dbl (dbl b)) k, Builtin.bitXor (dbl (dbl (dbl c))) k) = sums (pre ++ [k]) ∧ Wd (Builtin.bitXor (dbl a) k) ∧ Wd (Builtin.bitXor (dbl (dbl b)) k) ∧ Wd (Builtin.bitXor (dbl (dbl (dbl c))) k) := by
  refine ⟨?_, ha.dbl.xor hk, hb.dbl.dbl.xor hk, hc.dbl.dbl.dbl.xor hk⟩
  unfold sums at h ⊢
  rw [List.foldl_append, ← h]
  rfl
theorem sm_close {h₀ h' : Heap} {L l' : Addr} {m : Str → Option Value} {news : List (Addr × Obj)} {s : Shared} {Q : Value → Shared → Prop} {R : Int × Int × Int} {a b c : Int} {t1 t2 t3 : Tok} {p q : Addr × Obj} {tk' : Nat}
    (hret : ∀ (t1 t2 t3 : Tok) (l' : Addr) (h' : Heap) (tk' : Nat), Fr h₀ L h' m → News h₀ L h' ((l', listOf [.int R.1 t1, .int R.2.1 t2, .int R.2.2 t3].toArray 0) :: news) → (∀ p ∈ news, p.1 < l') → Q (.ref l') { s with heap := h', toks := tk' })
    (e : (a, b, c) = R) (F : Fr h₀ L h' m) (N : News h₀ L h' ((l', listOf #[.int a t1, .int b t2, .int c t3] 0) :: p :: q :: news)) (hl : AllLt l' news) : Q (.ref l') { s with heap := h', toks := tk' } := by
  subst e
  exact hret t1 t2 t3 l' h' tk' F (fun x hx => N x ((List.mem_cons.mp hx).elim (fun e => e ▸ .head _) fun h => .tail _ (.tail _ (.tail _ h)))) (ktn_ltOf hl)
theorem c_sums (w : World) (mean : ExcName → Option Value) (mg mb : Str → Option Value) (news : List (Addr × Obj)) (l : Addr) (n : Nat) (lv : List Value) (ns : List Int) :
    CbS w mean mg mb 75 2 news l n lv ns (∀ x ∈ ns, Wd x) [.ref l] (sums ns) := by
  w_top off
  k_with_none
  k_with "my eval Call Name" => (k_here; refine Call_ ?_)
  k_with "my call ref" => (k_here; (with_reducible show wpAny _ _ (call (Value.ref 47) [Value.int _ _]) _ _ _); k_dflt (refine' c_dbl _ _ _ _ _ _ _ _ _ _ _ _ _ _ _ _ _ _ _ _ _ _ _ _ ?k1 ?k2 ?k3 ?k4 ?k5 ?kK ?kp ?kd ?ku ?_); (case k1 => k_asm); (case k2 => k_asm); (case k3 => k_asm); (case k4 => k_asm); (case k5 => k_asm); (case kK => first | exact rfl | assumption); (case kp => first | trivial | assumption | solve_by_elim (maxDepth := 12) [And.intro, Wd.dbl, Wd.xor, Wd.times, Wd.power, Wd.inverse, Wd.mod, Wd.zero, Wd.one]); (case kd => ktr_room); (case ku => ktr_units); intro t9 h9 tk9 F9 N9; (try dsimp only); (try k_fold))
  k_with "my exec For Name Name cons nil" => (k_here; (rename Fr _ _ _ _ => lF'); (with_unfolding_all refine' For_invVF lF' ?k1 ?k2 ?_; (case k1 => exact rfl); (case k2 => exact rfl); k_whole))
  k_with "my pyIter ref" => k_dflt (k_state (fun pre a b c => (a, b, c) = sums pre ∧ Wd a ∧ Wd b ∧ Wd c) "first" "second" "third")
  dsimp only [CbS]
  k_fill
  intro dp un gd cn cs a ccd cl outer A₀ base h₀ L m s Q E B F X N T hk hpre hd hu hL hI hlen hret
  have N2 : News h₀ L s.heap ((l, listOf lv.toArray n) :: news) := fun p hp => N p ((List.mem_cons.mp hp).elim (fun e => e ▸ hL) id)
  clear N
  refine wpAny_call ?_
  k_dflt cell_enter
  k_with "state" => first | exact sm_start | exact sm_turn (by assumption) (by assumption) (by assumption) (by assumption) (hpre _ (by assumption))
  k_steps
  exact sm_close hret (by assumption) (by assumption) (by assumption) (‹_ ∧ _ ∧ AllLt _ news›).2.2
end Mine
end
section
namespace Mine
def gens : List Int := [14737472, 29474944, 58949888, 117899776, 235798537, 470557714, 940076068, 814808136, 565311632, 66318624]
def pin (b c : Int) : Nat → Int
  | 0 => c
  | n+1 => Builtin.bitXor (pin b c n) (if Builtin.bitAnd (b.fdiv (2 ^ n)) 1 = 0 then 0 else gens.getD n 0)
def pstep (c v : Int) : Int := pin (c.fdiv (2 ^ Int.toNat 20)) (Builtin.bitXor (Builtin.bitAnd c 1048575 * 2 ^ Int.toNat 10) v) 10
def polymod (vs : List Int) : Int := vs.foldl pstep 1
theorem pm_turn1 {b c0 c k : Int} {pre : List Int} (h : c = pin b c0 pre.length) (hk : k = 0 + (pre.length : Int)) (hb : Builtin.bitAnd (b.fdiv (2 ^ k.toNat)) 1 ≠ 0) :
    Builtin.bitXor c ([14737472, 29474944, 58949888, 117899776, 235798537, 470557714, 940076068, 814808136, 565311632, 66318624].getD k.toNat 0) = pin b c0 (pre ++ [k]).length := by
  have e : k.toNat = pre.length := by omega
  rw [List.length_append]
  show _ = pin b c0 (pre.length + 1)
  unfold pin
  rw [← h, ← e, if_neg hb]
  rfl
theorem pm_turn0 {b c0 c k : Int} {pre : List Int} (h : c = pin b c0 pre.length) (hk : k = 0 + (pre.length : Int)) (hb : Builtin.bitAnd (b.fdiv (2 ^ k.toNat)) 1 = 0) :
    Builtin.bitXor c 0 = pin b c0 (pre ++ [k]).length := by
  have e : k.toNat = pre.length := by omega
  rw [List.length_append]
  show _ = pin b c0 (pre.length + 1)
  unfold pin
  rw [← h, ← e, if_pos hb]
theorem pm_start {b c0 : Int} : c0 = pin b c0 ([] : List Int).length := rfl
theorem po_start : (1 : Int) = polymod [] := rfl
theorem po_turn {c c' v : Int} {pre : List Int} (h : c = polymod pre) (h2 : c' = pin (c.fdiv (2 ^ Int.toNat 20)) (Builtin.bitXor (Builtin.bitAnd c 1048575 * 2 ^ Int.toNat 10) v) (rangeKs 0 ((10 : Int) - 0).toNat).length) : c' = polymod (pre ++ [v]) := by
  rw [rangeKs_length] at h2
  unfold polymod at h ⊢
  rw [List.foldl_append, ← h, h2]
  rfl
theorem and20 (c : Int) : (Builtin.bitAnd c 1048575).natAbs < 2 ^ 64 := by
  by_cases hc : 0 ≤ c
  · rw [PyProof.Rows.bitAnd_pp hc (by decide)]
    have := Nat.and_le_right (n := c.toNat) (m := (1048575 : Int).toNat)
    have e : (1048575 : Int).toNat = 1048575 := rfl
    rw [e] at this ⊢
    omega
  · rw [PyProof.Rows.bitAnd_np (by omega) (by decide)]
    have := Nat.and_le_left (n := (1048575 : Int).toNat) (m := (Builtin.bitNot c).toNat)
    have e : (1048575 : Int).toNat = 1048575 := rfl
    rw [e] at this ⊢
    omega
abbrev CbP (w : World) (mean : ExcName → Option Value) (mg mb : Str → Option Value) (f : Addr) (dep : Nat) (news : List (Addr × Obj)) (l : Addr) (n : Nat) (lv : List Value) (ns : List Int) (pre : Prop) (vs : List Value) (R : Tok → Value) : Prop :=
  ∀ (dp un : Nat) (gd : Option (List Code)) (cn : Str) (cs : Scope) (a : Addr) (ccd : Value) (cl : List (Str × Addr)) (outer : List Env) (A₀ : Around) (base h₀ : Heap) (L : Addr) (m : Str → Option Value) (s : Shared) (Q E : Value → Shared → Prop),
    Below A₀ base outer h₀ → Fr h₀ L s.heap m → (hd.heap_39 w.params).In h₀ → News h₀ L s.heap news → Top hd.view_39 (looseW hd.view_39 []) mean mg mb h₀ → cs.kind = .function →
    pre → dp + dep < recursionLimit → un + 8 * dep < cLine → (l, listOf lv.toArray n) ∈ news → IntsAre lv ns → ns.length < 2 ^ 20 →
    (∀ (t : Tok) (h' : Heap) (tk' : Nat), Fr h₀ L h' m → News h₀ L h' news → Q (R t) { s with heap := h', toks := tk' }) →
      wpAny (model PySem.Challenge.rw_jb0036_01.row.prog w) (ktrTop dp un gd cn cs L a ccd cl outer) (call (.ref f) vs) Q E s
theorem c_polymod (w : World) (mean : ExcName → Option Value) (mg mb : Str → Option Value) (news : List (Addr × Obj)) (l : Addr) (n : Nat) (lv : List Value) (ns : List Int) :
    CbP w mean mg mb 21 1 news l n lv ns True [.ref l] (fun t => .int (polymod ns) t) := by
  w_top off
  k_with_none
  k_with "my eval Call Name" => (k_here; refine Call_ ?_)
  k_with "my exec For Name Name cons nil" => (k_here; (rename Fr _ _ _ _ => lF'); (with_unfolding_all refine' For_invVF lF' ?k1 ?k2 ?_; (case k1 => exact rfl); (case k2 => exact rfl); k_whole))
  k_with "my exec For Name Call cons nil" => (k_here; (rename Fr _ _ _ _ => lF'); (with_unfolding_all refine' For_invVF lF' ?k1 ?k2 ?_; (case k1 => exact rfl); (case k2 => exact rfl); k_whole))
  k_with "my binaryOp LShift int int" => (k_dflt (refine' lshift_int_small (by decide) (by decide) (and20 _) ?_))
  k_with "my pyIter ref" => k_dflt (k_of "v" => k_state (fun pre c => c = polymod pre) "chk")
  k_with "my pyIter ref" => k_dflt (k_of "i" => k_state_given ["chk!", "b"] (fun c0 b pre c => c = pin b c0 pre.length) "chk")
  dsimp only [CbP]
  k_fill
  intro dp un gd cn cs a ccd cl outer A₀ base h₀ L m s Q E B F X N T hk hpre hd hu hL hI hlen hret
  have N2 : News h₀ L s.heap ((l, listOf lv.toArray n) :: news) := fun p hp => N p ((List.mem_cons.mp hp).elim (fun e => e ▸ hL) id)
  clear N
  refine wpAny_call ?_
  k_dflt cell_enter
  k_with "state" => first | with_reducible exact po_start | with_reducible exact pm_start | with_reducible exact pm_turn1 (by assumption) (by assumption) (by assumption) | with_reducible exact pm_turn0 (by assumption) (by assumption) (by assumption) | with_reducible exact po_turn (by assumption) (by assumption)
  k_with "tree" => assumption
  k_steps
  all_goals cb_end hret
end Mine
end
section
namespace Mine
section
open PySem.W.KBw
variable {prog : Program} {w : World} {A : Around} {E : Value → Shared → Prop} {s : Shared}
def BAt (b : Array UInt8) (i : Nat) (v : Value) : Prop := ∃ c u, b[i]? = some c ∧ v = .int (c.toNat : Int) u
theorem extend_bytes {R : Result → Shared → Prop} (hh : A.handled = none) (x : Array UInt8) (t : Tok) (S : Addr) (res : Value) (c₀ : Nat) (hS : s.heap.get? S = some { cls := .type "list", data := .seq #[] c₀ })
    (hR : ∀ h' tk acc' c', (∀ b o, b ≠ S → s.heap.get? b = some o → h'.get? b = some o) → h'.get? S = some { cls := .type "list", dict := none, data := .seq acc' c', slots := #[] } →
      ItemsOf (BAt x) acc' x.size → R (.ok (.ret res)) { s with heap := h', toks := tk }) (hn : x.size ≤ sizeLine := by size_fits) :
    wpAny (model prog w) A.in1 (Builtin.List.listExtendWith (.ref S) (.bytes x t) res)
      (fun fin s' => match fin with | .done f => R (.ok f) s' | .again c' => c'.quiet = true ∧ codeAny (model prog w) A c' R s') (fun e s' => R (.error e) s') s := by
  have hSI : S ≠ s.heap.objs.size := Nat.ne_of_lt (Heap.lt_size hS)
  have hSf : S ∉ [s.heap.objs.size] := fun hm => hSI (List.mem_singleton.mp hm)
  unfold Builtin.List.listExtendWith
  refine wpAny_bind (wpAny_typeOf (T := "bytes") (v := .bytes x t) rfl ?_)
  have h1 : Builtin.List.listSameRef (.ref S) (.bytes x t) = false := rfl
  have h2 : (Value.type "bytes" == Value.type "list") = false := by decide
  have h3 : (Value.type "bytes" == Value.type "tuple") = false := by decide
  simp only [h1, h2, h3, Bool.or_false, Bool.false_eq_true, if_false]
  refine wpAny_bind (pyIter_bytes ?_)
  refine wpAny_bind (wpAny_holding ?_)
  unfold Builtin.List.listLengthHint
  refine wpAny_bind (wpAny_specialOf (T := "bytes") (v := .bytes x t) rfl FB.slot_bytes_len.lookup ?_)
  wp_delta
  refine wpAny_bind (wpAny_isInstance (T := "bytes") (v := .bytes x t) (b := true) rfl (by rw [isSubtype_type]; kernel_rfl) ?_)
  show wpAny _ _ (typeOf (Value.bytes x t) >>= _) _ _ _
  refine wpAny_bind (wpAny_typeOf (T := "bytes") (v := .bytes x t) rfl ?_)
  refine wpAny_pure ?_
  rw [if_neg (by decide)]
  refine wpAny_pure ⟨plainId_quiet F.plain_extend_loop _, codeAny_extend_loopS (walks (A := A.in1) hh s.heap.objs.size x t).toS hn _ hSf _ x.size 0 _ _ _ rfl (Nat.zero_le _) ⟨_, Heap.get?_push_size _ rfl, rfl, rfl⟩ (Heap.get?_push_of_some _ hS) (ItemsOf.nil _) fun s' acc' c' hm hS' hacc => ?_⟩
  rw [Moved.eq_with hm]
  refine hR s'.heap s'.toks acc' c' (fun b ob hb e => hm.heap b ob (fun hmem => ?_) (Heap.get?_push_of_some _ e)) hS' hacc
  rcases List.mem_cons.mp hmem with e' | hmem
  · exact hb e'
  · exact absurd (Heap.lt_size e) (by rw [List.mem_singleton.mp hmem]; exact Nat.lt_irrefl _)
theorem list_init_bytes {R : Result → Shared → Prop} (hh : A.handled = none) (x : Array UInt8) (t : Tok) (S : Addr) (hS : s.heap.get? S = some { cls := .type "list", data := .seq #[] })
    (hR : ∀ h' tk acc' c', (∀ b o, b ≠ S → s.heap.get? b = some o → h'.get? b = some o) → h'.get? S = some { cls := .type "list", dict := none, data := .seq acc' c', slots := #[] } →
      ItemsOf (BAt x) acc' x.size → R (.ok (.ret .none)) { s with heap := h', toks := tk }) (hn : x.size ≤ sizeLine := by size_fits) :
    wpAny (model prog w) A.in1 (Builtin.«list.__init__» ⟨[.ref S, .bytes x t], []⟩)
      (fun fin s' => match fin with | .done f => R (.ok f) s' | .again c' => c'.quiet = true ∧ codeAny (model prog w) A c' R s') (fun e s' => R (.error e) s') s := by
  show wpAny _ _ (do let old ← Builtin.List.listItems (.ref S); Builtin.List.listUpdate (.ref S) (fun _ => #[]); letGo old.toList.reverse; Builtin.List.listExtendWith (.ref S) (.bytes x t) .none) _ _ s
  refine wpAny_bind ?_
  unfold Builtin.List.listItems
  refine wpAny_bind (wpAny_seqItems hS rfl (wpAny_pure ?_))
  show wpAny _ _ (updateSeq S (fun _ => #[]) >>= fun _ => letGo (#[] : Array Value).toList.reverse >>= fun _ => Builtin.List.listExtendWith (.ref S) (.bytes x t) .none) _ _ s
  refine wpAny_bind (wpAny_updateSeq hS rfl ?_)
  have hS₂ := Heap.get?_update_self (Obj.mapSeq (fun _ => (#[] : Array Value))) hS rfl
  have oth : ∀ b o, b ≠ S → s.heap.get? b = some o → (s.heap.update S (Obj.mapSeq (fun _ => (#[] : Array Value)))).get? b = some o :=
    fun b o hb e => (Heap.get?_update_other _ _ (Ne.symm hb)).trans e
  refine wpAny_bind (wpAny_letGo ?_)
  refine extend_bytes (hn := hn) hh x t S .none _ hS₂ fun h' tk acc' c' hk hS' hacc => ?_
  exact hR h' tk acc' c' (fun b o hb e => hk b o hb (oth b o hb e)) hS' hacc
theorem call_list_bytes {Q : Value → Shared → Prop} (hh : A.handled = none) (x : Array UInt8) (t : Tok)
    (hQ : ∀ h' tk acc' c', (∀ b o, s.heap.get? b = some o → h'.get? b = some o) →
      h'.get? s.heap.objs.size = some { cls := .type "list", dict := none, data := .seq acc' c', slots := #[] } → ItemsOf (BAt x) acc' x.size → Q (.ref s.heap.objs.size) { s with heap := h', toks := tk }) (hn : x.size ≤ sizeLine := by size_fits) :
    wpAny (model prog w) A (call (.type "list") [.bytes x t]) Q E s := by
  refine callType_codes (Q₁ := fun obj s₁ => obj = .ref s.heap.objs.size ∧ s₁ = { s with heap := s.heap.push { cls := .type "list", data := .seq #[] } }) F.called_list (F.typeCall_list_1 _) F.entry_list_init
    (code_list_new _ ⟨rfl, rfl⟩) fun obj s₁ h₁ => ?_
  obtain ⟨rfl, rfl⟩ := h₁
  have hS : (s.heap.push { cls := .type "list", data := .seq #[] }).get? s.heap.objs.size = some { cls := .type "list", data := .seq #[] } := Heap.get?_push_size _ rfl
  refine ⟨⟨_, hS, rfl⟩, F.args_list_init_2 _ _, list_init_bytes (A := A.in1) (hn := hn) hh x t _ hS fun h' tk acc' c' hk hS' hacc => ?_⟩
  exact ⟨rfl, hQ h' tk acc' c' (fun b o e => hk b o (Nat.ne_of_lt (Heap.lt_size e)) (Heap.get?_push_of_some _ e)) hS' hacc⟩
theorem octs_are : ∀ (vs : List Value) (b : List UInt8), vs.length = b.length → (∀ (j : Nat) (v : Value), vs[j]? = some v → ∃ (c : UInt8) (u : Tok), b[j]? = some c ∧ v = Value.int (c.toNat : Int) u) → IntsAre vs (b.map fun c => (c.toNat : Int))
  | [], [], _, _ => .nil
  | v :: r, c :: b, e, h => by
    obtain ⟨c', u, e1, rfl⟩ := h 0 v rfl
    cases e1
    exact .cons _ _ (octs_are r b (by simpa using e) fun j v hj => h (j + 1) v hj)
/-- list(octets): a new list of their numbers -/
theorem list_octs {h₀ : Heap} {L : Addr} {m : Str → Option Value} {news : List (Addr × Obj)} {Q : Value → Shared → Prop} {x : Array UInt8} {t : Tok} (hh : A.handled = none) (F : Fr h₀ L s.heap m) (N : News h₀ L s.heap news) (hn : x.size ≤ 3)
    (h : ∀ D us c h' tk, Fr h₀ L h' m → News h₀ L h' ((D, listOf (List.toArray us) c) :: news) → (∀ p ∈ news, p.1 < D) → IntsAre us (KBw.bInts x) → Q (.ref D) { s with heap := h', toks := tk }) :
    wpAny (model prog w) A (call (.type "list") [.bytes x t]) Q E s := by
  refine call_list_bytes hh x t (fun h' tk acc c hk hD hI => ?_) (by rw [sizeLine_eq]; omega)
  have hD' : h'.get? s.heap.objs.size = some (listOf (List.toArray acc.toList) c) := by
    rw [Array.toArray_toList]
    exact hD
  exact h _ acc.toList c h' tk (F.keeps hk) (news_pushed F N hk hD' rfl) (fun p hp => Heap.lt_size (N p hp).1) (octs_are _ _ (by rw [Array.length_toList, Array.length_toList]; exact hI.1) fun j v hj => by
    obtain ⟨c, u, e1, e2⟩ := hI.2 j v (by rw [← hj, Array.getElem?_toList])
    exact ⟨c, u, by rw [← e1, Array.getElem?_toList], e2⟩)
end
end Mine
end
section
namespace Mine
abbrev octs (cs : Array UInt8) : List Int := KBw.bInts cs
theorem c_verify (w : World) (mean : ExcName → Option Value) (mg mb : Str → Option Value) (news : List (Addr × Obj)) (l : Addr) (n : Nat) (lv : List Value) (ns : List Int) (cs : Array UInt8) (t : Tok) :
    CbP w mean mg mb 33 2 news l n lv ns (cs.size ≤ 3 ∧ ns.length ≤ 1000) [.ref l, .bytes cs t] (fun _ => .bool (polymod (octs cs ++ ns) == 1)) := by
  w_top off
  k_with_none
  k_with "my eval Call Name" => (k_here; refine Call_ ?_)
  k_with "my call ref" => (k_here; (with_reducible show wpAny _ _ (call (Value.ref 21) [Value.ref _]) _ _ _); k_dflt (refine' c_polymod _ _ _ _ _ _ _ _ _ _ _ _ _ _ _ _ _ _ _ _ _ _ _ _ _ _ ?k1 ?k2 ?k3 ?k4 ?k5 ?kK ?kp ?kd ?ku ?kl ?ki ?kn ?_); (case k1 => k_asm); (case k2 => k_asm); (case k3 => k_asm); (case k4 => k_asm); (case k5 => k_asm); (case kK => first | exact rfl | assumption); (case kl => k_mem); (case ki => l_ints); (case kp => trivial); (case kd => ktr_room); (case ku => ktr_units); (case kn => first | assumption | ((simp only [KBw.ints_length, List.length_append, List.length_cons, List.length_nil, List.length_map]); omega) | omega); intro t9 h9 tk9 F9 N9; (try dsimp only); (try k_fold))
  k_with "my size_fits" => (rw [sizeLine_eq]; (try simp only [KBw.ints_length, List.length_append, List.length_cons, List.length_nil, List.length_map]); omega)
  k_with "my call type:list" => (k_here; (with_reducible show wpAny _ _ (call (Value.type "list") [Value.bytes _ _]) _ _ _); k_dflt (refine' list_octs ?k1 ?k2 ?k3 ?k4 ?_; (case k1 => rfl); (case k2 => k_asm); (case k3 => k_asm); (case k4 => first | assumption | omega); k_whole); intro D' vs' c' h' tk' F' N' l1 hI'; (try k_lt l1); (try k_sweep))
  dsimp only [CbP]
  k_fill
  intro dp un gd cn cs' a ccd cl outer A₀ base h₀ L m s Q E B F X N T hk hpre hd hu hL hI hlen hret
  obtain ⟨hz3, hz4⟩ := hpre
  have N2 : News h₀ L s.heap ((l, listOf lv.toArray n) :: news) := fun p hp => N p ((List.mem_cons.mp hp).elim (fun e => e ▸ hL) id)
  clear N
  refine wpAny_call ?_
  k_dflt cell_enter
  k_steps
  all_goals cb_end hret
end Mine
end
section
open PySem PySem.W PyProof.Rows PySem.Spec PySem.Calls
namespace Mine
section
variable {prog : Program} {w : World} {A : Around} {E : Value → Shared → Prop} {s : Shared}
abbrev revIt : Obj := { cls := .type "range_iterator", data := .fields #[rawInt 2, rawInt 3, rawInt (-1)] }
theorem sub_ri_reversed : isSubtype (.type "range_iterator") (.type "reversed") = pure false := by rw [isSubtype_type]; kernel_rfl
theorem range_reversed {r : Addr} {t u v : Tok} {Q : Value → Shared → Prop} (hr : IsRange s.heap r 0 3 1 t u v)
    (h : Q (.ref s.heap.objs.size) { s with heap := s.heap.push revIt }) : wpAny (model prog w) A (call (.builtin "range.__reversed__") [.ref r]) Q E s := by
  have hT : s.TypeIs (.ref r) "range" := ⟨_, hr, rfl⟩
  refine wpAny_call_entry F.slot_range_reversed hT F.entry_range_reversed ?_ (F.args_range_reversed_1 _)
  obtain ⟨hp, g, d, tk, os⟩ := s
  wp_walk using AutoSeq1.wpAny_loadPart' hr
  refine ⟨_, rfl, ?_⟩
  have e2 : Builtin.Range.rangeSize 0 3 1 = 3 := by decide
  rw [if_pos (by decide), e2]
  exact h
theorem code_reversed_range {r : Addr} {t u v : Tok} {Q₁ : Value → Shared → Prop} (hr : IsRange s.heap r 0 3 1 t u v)
    (h : Q₁ (.ref s.heap.objs.size) { s with heap := s.heap.push revIt }) :
    codeAny (model prog w) A (.call (.builtin "reversed.__new__") ⟨[.type "reversed", .ref r], []⟩) (wants Q₁ E) s := by
  have hT : s.TypeIs (.ref r) "range" := ⟨_, hr, rfl⟩
  refine codeAny_of_tree ?_
  show wpAny _ A.in1 (do checkBuiltinCall "reversed.__new__" ⟨[.type "reversed", .ref r], []⟩; again (.builtin "reversed.__new__" ⟨[.type "reversed", .ref r], []⟩)) _ _ s
  refine wpAny_bind (wpAny_of_eq (F.newCall_reversed_1 _) (wpAny_pure ⟨plainId_quiet F.plain_reversed_new _, codeAny_builtin F.entry_reversed_new ?_⟩))
  rw [Around.under_plainId F.plain_reversed_new _]
  unfold Builtin.«reversed.__new__»
  refine wpAny_bind (wpAny_of_eq (newClass_reversed _) ?_)
  try dsimp only
  refine wpAny_bind (wpAny_of_eq (a := ()) (by first | rfl | kernel_rfl) ?_)
  refine wpAny_bind (wpAny_of_eq (a := ()) (by first | rfl | kernel_rfl) ?_)
  try dsimp only
  refine wpAny_bind (wpAny_specialOf hT F.slot_range_reversed.lookup ?_)
  try dsimp only
  refine wpAny_bind (wpAny_of_eq (F.slot_range_reversed.bind _) ?_)
  try dsimp only
  first
  | rw [if_neg (show ¬ ((Value.builtin "range.__reversed__" == Value.none) = true) from Bool.false_ne_true)]
  | (show wpAny _ _ (if (Value.builtin "range.__reversed__" == Value.none) = true then _ else _) _ _ _; rw [if_neg (show ¬ ((Value.builtin "range.__reversed__" == Value.none) = true) from Bool.false_ne_true)])
  refine wpAny_bind (wpAny_rule ?_)
  refine wpAny_bind (m := runValue (.call (.builtin "range.__reversed__") ⟨[.ref r], []⟩)) (show wpAny _ _ (call (.builtin "range.__reversed__") [.ref r]) _ _ _ from range_reversed hr ?_)
  first
  | exact wpAny_pure h
  | exact wpAny_bind (wpAny_pure (wpAny_pure h))
theorem call_reversed_range {r : Addr} {t u v : Tok} {Q : Value → Shared → Prop} (hr : IsRange s.heap r 0 3 1 t u v)
    (h : Q (.ref s.heap.objs.size) { s with heap := s.heap.push revIt }) : wpAny (model prog w) A (call (.type "reversed") [.ref r]) Q E s := by
  refine callType_other (U := "range_iterator") (Q₁ := fun obj s₁ => obj = .ref s.heap.objs.size ∧ s₁ = { s with heap := s.heap.push revIt }) (by decide +kernel) F.create_reversed ⟨_, _, F.mro_reversed⟩ F.made_reversed sub_ri_reversed (F.typeCall_reversed_1 _) (code_reversed_range hr ⟨rfl, rfl⟩) ?_
  rintro obj s₁ ⟨rfl, rfl⟩
  exact ⟨⟨_, Heap.get?_push_size _ rfl, rfl⟩, h⟩

open PyProof.Rows.LCg in
/-- a comprehension over 2, 1, 0 -/
def DownSrc (prog : Program) (w : World) (A : Around) (h₀ : Heap) (L : Addr) (m : Str → Option Value) (env : Env) (elt : Expr) (x : Str) (scope : Scope) (cl : List (Str × Addr)) (Fin : Shared → List Value → List (Addr × Obj) → Prop) (xv : Value) (s₁ : Shared) : Prop :=
  ∃ I news, xv = .ref I ∧ A.handled = none ∧ Fr h₀ L s₁.heap m ∧ News h₀ L s₁.heap news ∧ s₁.heap.get? I = some revIt ∧ (∀ p ∈ news, p.1 ≠ I) ∧ L ≠ I ∧ h₀.get? I = none ∧
    CompRest prog w A h₀ L m env elt x scope cl s₁ (fun _ => True) (fun i v => ∃ t, v = .int (2 - (i : Int)) t) (Fin s₁) 3 0 [] news
theorem DownSrc.intro {h₀ : Heap} {L : Addr} {m : Str → Option Value} {env : Env} {elt : Expr} {x : Str} {scope : Scope} {cl : List (Str × Addr)} {Fin : Shared → List Value → List (Addr × Obj) → Prop} {news : List (Addr × Obj)} (hh : A.handled = none)
    (F : Fr h₀ L s.heap m) (N : News h₀ L s.heap news)
    (R : PyProof.Rows.LCg.CompRest prog w A h₀ L m env elt x scope cl { s with heap := s.heap.push revIt } (fun _ => True) (fun i v => ∃ t, v = .int (2 - (i : Int)) t) (Fin { s with heap := s.heap.push revIt }) 3 0 [] news) :
    DownSrc prog w A h₀ L m env elt x scope cl Fin (.ref s.heap.objs.size) { s with heap := s.heap.push revIt } :=
  ⟨_, news, rfl, hh, F.keeps fun _ _ e => Heap.get?_push_of_some _ e, N.grown fun _ _ e => Heap.get?_push_of_some _ e, Heap.get?_push_size _ rfl, fun p hp => Nat.ne_of_lt (Heap.lt_size (N p hp).1), Nat.ne_of_lt F.ns.lt, next_is_new F, R⟩
open PyProof.Rows.LCg in
theorem down_walks {I : Addr} (hh : A.handled = none) : Walks prog w A I [I] [I] 3 (fun i v => ∃ t, v = .int (2 - (i : Int)) t) (fun i h => IsRangeIter h I (2 + (i : Nat) * (-1)) ((3 : Int) - (i : Nat)) (-1)) :=
  let W : Walks prog w A I [I] [I] 3 (fun i v => i < 3 ∧ ∃ t, v = .int (2 + i * (-1)) t) (fun i h => IsRangeIter h I (2 + (i : Nat) * (-1)) ((3 : Int) - (i : Nat)) (-1)) := (Walks.range hh I 2 (-1) 3).bound
  { sub := W.sub, frame := W.frame, done := W.done, self := W.self,
    item := fun i s Q E hi st hQ => W.item i s Q E hi st fun v h' tk hP => hQ v h' tk (by
      obtain ⟨_, t, e⟩ := hP
      exact ⟨t, by rw [e]; congr 1; omega⟩) }
open PyProof.Rows.LCg in
theorem down_st {h₀ : Heap} {L I : Addr} : ∀ i (h h' : Heap) (o : Obj) (nw : List (Addr × Obj)), IsRangeIter h I (2 + (i : Nat) * (-1)) ((3 : Int) - (i : Nat)) (-1) → h.get? I = some o → h'.get? I = some o → (∀ b o, h₀.get? b = some o → h'.get? b = some o) → News h₀ L h' nw → True → IsRangeIter h' I (2 + (i : Nat) * (-1)) ((3 : Int) - (i : Nat)) (-1) :=
  fun i h h' o nw st e e' _ _ _ => by
    have st' : h.get? I = some _ := st
    show h'.get? I = some _
    rw [e', ← e]; exact st'
open PyProof.Rows.LCg in
theorem ListComp_down {h₀ : Heap} {L : Addr} {m : Str → Option Value} {env : Env} {elt iter : Expr} {x : Str} {px : Pos} {scope : Scope} {cl : List (Str × Addr)} {pos : Pos} {Q : Value → Shared → Prop} (_F₀ : Fr h₀ L s.heap m)
    (hclos : closureFor scope env = pure cl) (hcell : ∀ y ∈ scope.names, y.2 ≠ .cell) (hkind : scope.kind = .function)
    (hnames : ∀ y ∈ scope.names, y.2 = .local → scope.names.lookup y.1 = some .local) (hx : scope.names.lookup x = some .local)
    (h : wpAny (model prog w) A (eval iter env) (DownSrc prog w A h₀ L m env elt x scope cl (fun s₂ => FinE h₀ L m s₂ Q)) E s)
    (hs : ∀ x, foldedSetIterable iter env x = pure x := by intro _; rfl) :
    wpAny (model prog w) A (eval (.ListComp elt [⟨.Name x px, iter, [], 0⟩] scope pos) env) Q E s := by
  rw [eval_ListComp]
  refine wpAny_comprehension_free (use := none) rfl hs hclos hkind hnames (wpAny_mono h (fun xv s₁ h₁ => ?_) fun _ _ e => e)
  obtain ⟨I, news, rfl, hh, F, N, hI, off, hIL, hI₀, R⟩ := h₁
  refine wpAny_pyIter_rangeiter (x := 2) (left := 3) (step := -1) hI ?_
  refine block_U (down_walks hh) (by rw [sizeLine_eq]; omega) (fun i h st => ⟨_, st⟩) down_st hcell hkind hx (by simpa using hI) (fun b hb => ?_)
      F N hIL hI₀ off trivial R ?_
  · rw [List.mem_singleton.mp hb]
    exact Heap.lt_size hI
  · intro D C h tk m' ys news' F' N' o1 hn hC₀ hD₀ hCL hDL hCD offC fin
    refine ⟨m', hn, fun h'' hs'' => fin D h'' tk (F'.change hs'' hCL hC₀) (fun p hp => ?_) o1⟩
    refine ⟨hs''.extBut _ _ ?_ (N' p hp).1, (N' p hp).2⟩
    rcases List.mem_cons.mp hp with rfl | hp
    · exact Ne.symm hCD
    · exact offC p hp
end
end Mine
end
section
namespace Mine
theorem ne_of_lts {d : Addr} {news : List (Addr × Obj)} (h : ∀ p ∈ news, p.1 < d) : ∀ p ∈ news, p.1 ≠ d := fun p hp => Nat.ne_of_lt (h p hp)
def chk (cs : Array UInt8) (ns : List Int) (i : Nat) : Int := Builtin.bitAnd ((Builtin.bitXor (polymod (octs cs ++ ns ++ [0, 0, 0])) 1).fdiv (2 ^ (10 * i))) 1023
abbrev CbN (w : World) (mean : ExcName → Option Value) (mg mb : Str → Option Value) (f : Addr) (dep : Nat) (news : List (Addr × Obj)) (l : Addr) (n : Nat) (lv : List Value) (ns : List Int) (pre : Prop) (vs : List Value) (a b c : Int) : Prop :=
  ∀ (dp un : Nat) (gd : Option (List Code)) (cn : Str) (cs : Scope) (a' : Addr) (ccd : Value) (cl : List (Str × Addr)) (outer : List Env) (A₀ : Around) (base h₀ : Heap) (L : Addr) (m : Str → Option Value) (s : Shared) (Q E : Value → Shared → Prop),
    Below A₀ base outer h₀ → Fr h₀ L s.heap m → (hd.heap_39 w.params).In h₀ → News h₀ L s.heap news → Top hd.view_39 (looseW hd.view_39 []) mean mg mb h₀ → cs.kind = .function →
    pre → dp + dep < recursionLimit → un + 8 * dep < cLine → (l, listOf lv.toArray n) ∈ news → IntsAre lv ns → ns.length < 2 ^ 20 →
    (∀ (t1 t2 t3 : Tok) (l' : Addr) (h' : Heap) (tk' : Nat), Fr h₀ L h' m → News h₀ L h' ((l', listOf [.int a t1, .int b t2, .int c t3].toArray 3) :: news) → (∀ p ∈ news, p.1 ≠ l') → Q (.ref l') { s with heap := h', toks := tk' }) →
      wpAny (model PySem.Challenge.rw_jb0036_01.row.prog w) (ktrTop dp un gd cn cs L a' ccd cl outer) (call (.ref f) vs) Q E s
theorem off1_ne {D : Addr} : ∀ {l : List (Addr × Obj)}, PyProof.Rows.LCg.Off1 D l → ∀ p ∈ l, p.1 ≠ D
  | [], _, _, h => nomatch h
  | _ :: _, x, p, h => by
    rcases List.mem_cons.mp h with rfl | h
    · exact x.1
    · exact off1_ne x.2 p h
theorem cc_close {h₀ h' : Heap} {L l' : Addr} {m : Str → Option Value} {news big : List (Addr × Obj)} {s : Shared} {Q : Value → Shared → Prop} {a b c a' b' c' : Int} {t1 t2 t3 : Tok} {tk' : Nat}
    (hret : ∀ (t1 t2 t3 : Tok) (l' : Addr) (h' : Heap) (tk' : Nat), Fr h₀ L h' m → News h₀ L h' ((l', listOf [.int a t1, .int b t2, .int c t3].toArray 3) :: news) → (∀ p ∈ news, p.1 ≠ l') → Q (.ref l') { s with heap := h', toks := tk' })
    (ha : a' = a) (hb : b' = b) (hc : c' = c) (F : Fr h₀ L h' m) (N : News h₀ L h' ((l', PyProof.Rows.LCg.lst [.int a' t1, .int b' t2, .int c' t3]) :: big)) (hsub : ∀ p ∈ news, p ∈ big) (hl : PyProof.Rows.LCg.Off1 l' news) : Q (.ref l') { s with heap := h', toks := tk' } := by
  subst ha hb hc
  exact hret t1 t2 t3 l' h' tk' F (fun x hx => N x ((List.mem_cons.mp hx).elim (fun e => e ▸ .head _) fun h => .tail _ (hsub _ h))) (off1_ne hl)
theorem c_create (w : World) (mean : ExcName → Option Value) (mg mb : Str → Option Value) (news : List (Addr × Obj)) (l : Addr) (n : Nat) (lv : List Value) (ns : List Int) (cs : Array UInt8) (t : Tok) :
    CbN w mean mg mb 26 2 news l n lv ns (cs.size ≤ 3 ∧ ns.length ≤ 1000) [.ref l, .bytes cs t] (chk cs ns 2) (chk cs ns 1) (chk cs ns 0) := by
  w_top off
  k_with_none
  k_with "my call ref" => (k_here; (with_reducible show wpAny _ _ (call (Value.ref 21) [Value.ref _]) _ _ _); k_dflt (refine' c_polymod _ _ _ _ _ _ _ _ _ _ _ _ _ _ _ _ _ _ _ _ _ _ _ _ _ _ ?k1 ?k2 ?k3 ?k4 ?k5 ?kK ?kp ?kd ?ku ?kl ?ki ?kn ?_); (case k1 => k_asm); (case k2 => k_asm); (case k3 => k_asm); (case k4 => k_asm); (case k5 => k_asm); (case kK => first | exact rfl | assumption); (case kl => k_mem); (case ki => l_ints); (case kp => trivial); (case kd => ktr_room); (case ku => ktr_units); (case kn => first | assumption | ((simp only [KBw.ints_length, List.length_append, List.length_cons, List.length_nil, List.length_map]); omega) | omega); intro t9 h9 tk9 F9 N9; (try dsimp only); (try k_fold))
  k_with "my size_fits" => (rw [sizeLine_eq]; (try simp only [KBw.ints_length, List.length_append, List.length_cons, List.length_nil, List.length_map]); omega)
  k_with "my call type:list" => (k_here; (with_reducible show wpAny _ _ (call (Value.type "list") [Value.bytes _ _]) _ _ _); k_dflt (refine' list_octs ?k1 ?k2 ?k3 ?k4 ?_; (case k1 => rfl); (case k2 => k_asm); (case k3 => k_asm); (case k4 => first | assumption | omega); k_whole); intro D' vs' c' h' tk' F' N' l1 hI'; (try k_lt l1); (try k_sweep))
  k_with "my k_all" => exact ne_of_lts (by assumption)
  k_with "my eval ListComp" => (k_here; k_dflt (refine ListComp_down (_F₀ := by k_asm) (by with_unfolding_all rfl) (by decide) (by rfl) (by decide) (by rfl) ?_))
  k_with "my call type:reversed" => (k_here; k_dflt (refine' call_reversed_range ?k1 ?_; (case k1 => assumption); k_whole))
  k_with "my DownSrc" => (k_here; k_dflt (refine' DownSrc.intro ?k1 ?k2 ?k3 ?_; (case k1 => rfl); (case k2 => k_asm); (case k3 => k_asm); k_whole); lcg_lit)
  k_with "my CompRest" => (with_unfolding_all first | (refine PyProof.Rows.LCg.CompRest.succ ?_; intro v' I' oI' C' oC' D' m' h' tk' E' hv' hC' hx' F' N' off' ne'; (obtain ⟨t9', hv9'⟩ := hv'; subst hv9')) | refine PyProof.Rows.LCg.CompRest.zero ?_)
  k_with "my CompEnd" => (k_dflt (refine PyProof.Rows.LCg.CompEnd.intro (by assumption) (by assumption) _ (fun _ hp => hp) (by assumption) True.intro ?_))
  dsimp only [CbN]
  k_fill
  intro dp un gd cn cs' a ccd cl outer A₀ base h₀ L m s Q E B F X N T hk hpre hd hu hL hI hlen hret
  obtain ⟨hz3, hz4⟩ := hpre
  have N2 : News h₀ L s.heap ((l, listOf lv.toArray n) :: news) := fun p hp => N p ((List.mem_cons.mp hp).elim (fun e => e ▸ hL) id)
  clear N
  refine wpAny_call ?_
  k_dflt (refine' code_defC ?k1 ?k2 ?k3 ?k4 ?k5 ?kA ?kF ?kK ?k6 ?k7 ?k8 ?k9 ?kB ?kD ?_ ?c2 ?c3 ?c4; (case kA => exact rfl); (case kF => exact rfl); (case kK => assumption); (case k1 => k_asm); (case k2 => k_asm); (case k3 => k_asm); (case k4 => k_asm); (case k5 => k_asm); (case k6 => k_is); (case k7 => k_is); (case k8 => ktr_room); (case k9 => exact BindsTo.of_eq rfl); (case kB => exact rfl); (case kD => decide +kernel); (case c2 => exact rfl); (case c3 => exact rfl); (case c4 => exact rfl); k_whole; intro g' L' h' tk' cells' FG' F' N' Y' B' X' T' l1; (try k_lt l1); k_cells Y'; (try simp only [List.cons_append, List.nil_append] at N'); (try dsimp only); (try k_lift B'); (try k_fold))
  have hA : ∀ p ∈ news, p.1 < L' + 1 := fun p hp => Nat.lt_succ_of_lt (ktn_ltOf l1.2 p hp)
  k_steps
  exact cc_close hret rfl rfl rfl (by assumption) (by assumption) (by kcj_all) (‹_ ∧ _ ∧ _ ∧ _ ∧ _ ∧ _ ∧ _ ∧ _ ∧ PyProof.Rows.LCg.Off1 _ news›).2.2.2.2.2.2.2.2
end Mine
end
section
namespace Mine
/-- the law's own def, out of the row's program -/
def lawBody : List Stmt := match PySem.Challenge.pw_jb0036_01.main.body.drop 12 with
  | [.FunctionDef _ _ b _ _ _ _ _ _ _] => b
  | _ => []
def lawScope : Scope := match PySem.Challenge.pw_jb0036_01.main.body.drop 12 with
  | [.FunctionDef _ _ _ _ _ _ s _ _ _] => s
  | _ => default
abbrev lawEnv (L fa : Addr) (cd : Value) : Env := envOfC (Str.ofString "law") lawScope L fa cd
end Mine
end
section
namespace Mine
/-- two addresses that differ, told so that omega does not split on it -/
def Ap (a b : Addr) : Prop := a ≠ b
theorem Ap.ne {a b : Addr} (h : Ap a b) : a ≠ b := h
theorem off1_ne' {D a : Addr} {o : Obj} {l : List (Addr × Obj)} (h : PyProof.Rows.LCg.Off1 D l) (hm : (a, o) ∈ l) : a ≠ D := off1_ne h _ hm
theorem wd_app {xs ys : List Int} (h : ∀ x ∈ xs, Wd x) (k : ∀ x ∈ ys, Wd x) : ∀ x ∈ xs ++ ys, Wd x := fun x hx => (List.mem_append.mp hx).elim (h x) (k x)
theorem wd_octs {cs : Array UInt8} : ∀ x ∈ KBw.bInts cs, Wd x := fun x hx => by
  have := KBw.ints_in hx
  exact ⟨this.1, by omega⟩
/-- one place of a list turned by a word -/
def xorAt (O : List Int) (p d : Int) : List Int := O.set p.toNat (Builtin.bitXor (O.getD p.toNat 0) d)
def over (xa xb y0 y1 y2 : Int) : Int := Builtin.bitXor (Builtin.bitXor y2 (times (Builtin.bitXor xa xb) y1)) (times (times xa xb) y0)
def fill (xa xb y0 y1 y2 q u : Int) : Int := times (over xa xb y0 y1 y2) (times q u)
def M6P (R : List Int) (p0 p1 p2 : Int) : Prop := (p0 ≠ p1 ∧ p0 ≠ p2 ∧ p1 ≠ p2) ∧ R.getD p0.toNat 0 = 0 ∧ R.getD p1.toNat 0 = 0 ∧ R.getD p2.toNat 0 = 0
def M8P (cs : Array UInt8) (R : List Int) (p0 p1 p2 x0 x1 x2 y0 y1 y2 : Int) : Prop := M6P R p0 p1 p2 ∧
  (x0 = power ((R.length : Int) - 1 - p0).toNat ∧ x1 = power ((R.length : Int) - 1 - p1).toNat ∧ x2 = power ((R.length : Int) - 1 - p2).toNat) ∧
  y0 = Builtin.bitXor (sums (octs cs ++ R)).1 1 ∧ y1 = Builtin.bitXor (sums (octs cs ++ R)).2.1 1 ∧ y2 = Builtin.bitXor (sums (octs cs ++ R)).2.2 1
def M10P (cs : Array UInt8) (R : List Int) (p0 p1 p2 x0 x1 x2 y0 y1 y2 q0 q1 q2 u : Int) : Prop := M8P cs R p0 p1 p2 x0 x1 x2 y0 y1 y2 ∧
  q0 = times (times x1 x2) (Builtin.bitXor x1 x2) ∧ q1 = times (times x0 x2) (Builtin.bitXor x0 x2) ∧ q2 = times (times x0 x1) (Builtin.bitXor x0 x1) ∧
  u = inverse (times (times q0 x0) (times (Builtin.bitXor x0 x1) (Builtin.bitXor x0 x2)))
def filled (R : List Int) (p0 p1 p2 x0 x1 x2 y0 y1 y2 q0 q1 q2 u : Int) : List Int :=
  ((R.set p0.toNat (fill x1 x2 y0 y1 y2 q0 u)).set p1.toNat (fill x0 x2 y0 y1 y2 q1 u)).set p2.toNat (fill x0 x1 y0 y1 y2 q2 u)
def M11P (cs : Array UInt8) (R : List Int) (p0 p1 p2 : Int) : Prop := polymod (octs cs ++ R) = 1 ∧
  ∀ d0 d1 d2 : Int, Wd d0 → Wd d1 → Wd d2 → polymod (octs cs ++ xorAt (xorAt (xorAt R p0 d0) p1 d1) p2 d2) = 1 → d0 = 0 ∧ d1 = 0 ∧ d2 = 0
theorem news_sub {h₀ h : Heap} {L : Addr} {led big : List (Addr × Obj)} (N : News h₀ L h big) (hs : ∀ p ∈ led, p ∈ big) : News h₀ L h led := fun p hp => N p (hs p hp)
theorem fr_pick2 {h₀ h : Heap} {L : Addr} {m : Str → Option Value} {a b : Str} {va vb : Value} (F : Fr h₀ L h m) (ha : m a = some va) (hb : m b = some vb) :
    Fr h₀ L h (fun y => if y = a then some va else if y = b then some vb else m y) := by
  have e : (fun y => if y = a then some va else if y = b then some vb else m y) = m := by
    funext y
    by_cases h1 : y = a
    · rw [if_pos h1, h1, ha]
    · rw [if_neg h1]
      by_cases h2 : y = b
      · rw [if_pos h2, h2, hb]
      · rw [if_neg h2]
  rw [e]; exact F
theorem wd_set {R : List Int} {i : Nat} {w : Int} (h : ∀ x ∈ R, Wd x) (hw : Wd w) : ∀ x ∈ R.set i w, Wd x := fun x hx => by
  rcases List.mem_or_eq_of_mem_set hx with h1 | h1
  · exact h x h1
  · rw [h1]; exact hw
/-- a mark: the walk stands still here -/
def Stop (P : Prop) : Prop := P
theorem Stop.out {P : Prop} (h : Stop P) : P := h
theorem Stop.mk {P : Prop} (h : P) : Stop P := h
theorem fm0 {a : Int} {b : Nat} (h : 0 < b) : 0 ≤ a.fmod (b : Int) := by
  rw [Int.fmod_eq_emod_of_nonneg a (by omega)]
  exact Int.emod_nonneg _ (by omega)
theorem fm1 {a : Int} {b : Nat} (h : 0 < b) : a.fmod (b : Int) < (b : Int) := by
  rw [Int.fmod_eq_emod_of_nonneg a (by omega)]
  exact Int.emod_lt_of_pos _ (by omega)
theorem M6of {R : List Int} {p0 p1 p2 : Int} (hd : p0 ≠ p1 ∧ p0 ≠ p2 ∧ p1 ≠ p2) (a0 : 0 ≤ p0) (b0 : p0 < R.length) (a1 : 0 ≤ p1) (b1 : p1 < R.length) (a2 : 0 ≤ p2) (b2 : p2 < R.length) :
    M6P (((R.set p0.toNat 0).set p1.toNat 0).set p2.toNat 0) p0 p1 p2 := by
  obtain ⟨n01, n02, n12⟩ := hd
  have e01 : p0.toNat ≠ p1.toNat := by omega
  have e02 : p0.toNat ≠ p2.toNat := by omega
  have e12 : p1.toNat ≠ p2.toNat := by omega
  refine ⟨⟨n01, n02, n12⟩, ?_, ?_, ?_⟩
  · rw [List.getD_eq_getElem?_getD, List.getElem?_set_ne (Ne.symm e02), List.getElem?_set_ne (Ne.symm e01), List.getElem?_set_self (by omega)]; rfl
  · rw [List.getD_eq_getElem?_getD, List.getElem?_set_ne (Ne.symm e12), List.getElem?_set_self (by rw [List.length_set]; omega)]; rfl
  · rw [List.getD_eq_getElem?_getD, List.getElem?_set_self (by rw [List.length_set, List.length_set]; omega)]; rfl
def Dis3 (a b c : Int) : Prop := a ≠ b ∧ a ≠ c ∧ b ≠ c
theorem erase_mem {l : List Int} {i : Nat} {x : Int} (h : x ∈ l.eraseIdx i) : x ∈ l := List.mem_of_mem_eraseIdx h
theorem erase_ne {l : List Int} (hn : l.Nodup) {i : Nat} (hi : i < l.length) : l.getD i 0 ∉ l.eraseIdx i := by
  intro h
  rw [List.getD_eq_getElem?_getD, List.getElem?_eq_getElem hi, Option.getD_some] at h
  obtain ⟨j, hj, hne, e⟩ := List.mem_eraseIdx_iff_getElem.mp h
  exact hne ((List.getElem_inj hn).mp e)
theorem getD_in {l : List Int} {i : Nat} (hi : i < l.length) : l.getD i 0 ∈ l := by
  rw [List.getD_eq_getElem?_getD, List.getElem?_eq_getElem hi, Option.getD_some]
  exact List.getElem_mem hi
theorem pops {l : List Int} (hn : l.Nodup) {i0 i1 i2 : Nat} (h0 : i0 < l.length) (h1 : i1 < (l.eraseIdx i0).length) (h2 : i2 < ((l.eraseIdx i0).eraseIdx i1).length) :
    Dis3 (l.getD i0 0) ((l.eraseIdx i0).getD i1 0) (((l.eraseIdx i0).eraseIdx i1).getD i2 0) ∧ l.getD i0 0 ∈ l ∧ (l.eraseIdx i0).getD i1 0 ∈ l ∧ ((l.eraseIdx i0).eraseIdx i1).getD i2 0 ∈ l := by
  have n1 : (l.eraseIdx i0).Nodup := hn.eraseIdx _
  have m1 := getD_in h1
  have m2 := getD_in h2
  refine ⟨⟨?_, ?_, ?_⟩, getD_in h0, erase_mem m1, erase_mem (erase_mem m2)⟩
  · intro e; exact erase_ne hn h0 (e ▸ m1)
  · intro e; exact erase_ne hn h0 (e ▸ erase_mem m2)
  · intro e; exact erase_ne n1 h1 (e ▸ m2)
theorem range_nodup (n : Nat) : (rangeKs 0 n).Nodup := by
  unfold rangeKs
  refine List.Pairwise.map _ ?_ List.nodup_range
  intro a b hab e
  apply hab
  omega
theorem range_in {n : Nat} {x : Int} (h : x ∈ rangeKs 0 n) : 0 ≤ x ∧ x < (n : Int) := by
  unfold rangeKs at h
  obtain ⟨i, hi, rfl⟩ := List.mem_map.mp h
  have := List.mem_range.mp hi
  omega
/-- the three places that the pops take -/
theorem places {n : Nat} {x0 x1 x2 : Int} {l0 l1 l2 : List Int} {j0 j1 j2 : Nat} (hn : 3 ≤ n) (e0 : l0 = rangeKs 0 n) (f0 : j0 = (x0.fmod (l0.length : Int)).toNat) (e1 : l1 = l0.eraseIdx j0) (f1 : j1 = (x1.fmod (l1.length : Int)).toNat)
    (e2 : l2 = l1.eraseIdx j1) (f2 : j2 = (x2.fmod (l2.length : Int)).toNat) :
    Dis3 (l0.getD j0 0) (l1.getD j1 0) (l2.getD j2 0) ∧ (0 ≤ l0.getD j0 0 ∧ l0.getD j0 0 < (n : Int)) ∧ (0 ≤ l1.getD j1 0 ∧ l1.getD j1 0 < (n : Int)) ∧ (0 ≤ l2.getD j2 0 ∧ l2.getD j2 0 < (n : Int)) := by
  have k0 : l0.length = n := by rw [e0, rangeKs_length]
  have b0 : j0 < l0.length := by
    have a := fm0 (a := x0) (b := l0.length) (by omega); have b := fm1 (a := x0) (b := l0.length) (by omega)
    omega
  have k1 : l1.length = n - 1 := by rw [e1, List.length_eraseIdx, if_pos b0, k0]
  have b1 : j1 < l1.length := by
    have a := fm0 (a := x1) (b := l1.length) (by omega); have b := fm1 (a := x1) (b := l1.length) (by omega)
    omega
  have k2 : l2.length = n - 2 := by rw [e2, List.length_eraseIdx, if_pos b1, k1]; omega
  have b2 : j2 < l2.length := by
    have a := fm0 (a := x2) (b := l2.length) (by omega); have b := fm1 (a := x2) (b := l2.length) (by omega)
    omega
  have q := pops (l := l0) (by rw [e0]; exact range_nodup n) b0 (by rw [← e1]; exact b1) (by rw [← e1, ← e2]; exact b2)
  rw [← e1, ← e2] at q
  rw [e0] at q
  rw [e0]
  exact ⟨q.1, range_in q.2.1, range_in q.2.2.1, range_in q.2.2.2⟩
theorem Ap.of {a b : Nat} (h : a ≠ b) : Ap a b := h
end Mine
end
section
namespace Mine
/-- a word as ten bits -/
abbrev GV := BitVec 10
def vD (w : GV) : GV := (w <<< 1) ^^^ (if w.msb then 9#10 else 0#10)
def vM : Nat → GV → Nat → GV
  | 0, _, _ => 0#10
  | n+1, a, b => (if b % 2 = 0 then 0#10 else a) ^^^ vM n (vD a) (b / 2)
def vMul (a b : GV) : GV := vM 10 a b.toNat
def gval (a : GV) : Int := (a.toNat : Int)
def ofI (x : Int) : GV := BitVec.ofNat 10 x.toNat
theorem val_ofI {x : Int} (h : Wd x) : gval (ofI x) = x := by
  unfold gval ofI
  have := h.1; have := h.2
  rw [BitVec.toNat_ofNat, Nat.mod_eq_of_lt (by omega)]
  omega
theorem val_wd (a : GV) : Wd (gval a) := by
  have := a.isLt
  unfold gval Wd
  omega
theorem val_inj {a b : GV} (h : gval a = gval b) : a = b := BitVec.eq_of_toNat_eq (by unfold gval at h; omega)
theorem val_xor (a b : GV) : Builtin.bitXor (gval a) (gval b) = gval (a ^^^ b) := by
  unfold gval
  rw [bx_nat, BitVec.toNat_xor]
theorem nat_xor_pow {k a b c d : Nat} (hb : b < 2 ^ k) (hd : d < 2 ^ k) : (a * 2 ^ k + b) ^^^ (c * 2 ^ k + d) = (a ^^^ c) * 2 ^ k + (b ^^^ d) := by
  have p : 0 < 2 ^ k := Nat.pow_pos (by decide)
  have q : ∀ x y : Nat, y < 2 ^ k → (x * 2 ^ k + y) / 2 ^ k = x ∧ (x * 2 ^ k + y) % 2 ^ k = y := fun x y hy => by
    rw [Nat.mul_comm]
    exact ⟨by rw [Nat.mul_add_div p, Nat.div_eq_of_lt hy, Nat.add_zero], by rw [Nat.mul_add_mod, Nat.mod_eq_of_lt hy]⟩
  have h1 : ((a * 2 ^ k + b) ^^^ (c * 2 ^ k + d)) / 2 ^ k = a ^^^ c := by
    rw [Nat.xor_div_two_pow, (q a b hb).1, (q c d hd).1]
  have h2 : ((a * 2 ^ k + b) ^^^ (c * 2 ^ k + d)) % 2 ^ k = b ^^^ d := by
    rw [Nat.xor_mod_two_pow, (q a b hb).2, (q c d hd).2]
  rw [← h1, ← h2]
  exact (Nat.div_add_mod' _ _).symm
theorem vD_nat (n : Nat) (h : n < 1024) : (if n < 512 then n * 2 else (n * 2) ^^^ 1033) = (vD (BitVec.ofNat 10 n)).toNat := by
  have e : (BitVec.ofNat 10 n).toNat = n := by rw [BitVec.toNat_ofNat]; exact Nat.mod_eq_of_lt h
  have m : (BitVec.ofNat 10 n).msb = decide (512 ≤ n) := by rw [BitVec.msb_eq_decide, e]
  have sh : (BitVec.ofNat 10 n <<< 1).toNat = n * 2 % 1024 := by rw [BitVec.toNat_shiftLeft, e, Nat.shiftLeft_eq]
  unfold vD
  rw [BitVec.toNat_xor, sh, m]
  by_cases h5 : n < 512
  · rw [if_pos h5, decide_eq_false (by omega)]
    show n * 2 = n * 2 % 1024 ^^^ 0
    rw [Nat.xor_zero]; omega
  · rw [if_neg h5, decide_eq_true (by omega)]
    show n * 2 ^^^ 1033 = n * 2 % 1024 ^^^ 9
    have r := nat_xor_pow (k := 10) (a := 1) (b := n * 2 % 1024) (c := 1) (d := 9) (by omega) (by decide)
    rw [show 1 * 2 ^ 10 + n * 2 % 1024 = n * 2 by omega] at r
    rw [show (1033 : Nat) = 1 * 2 ^ 10 + 9 by decide, r, Nat.xor_self]
    omega
theorem val_dbl (a : GV) : dbl (gval a) = gval (vD a) := by
  have h := vD_nat a.toNat a.isLt
  rw [BitVec.ofNat_toNat, BitVec.setWidth_eq] at h
  unfold dbl gval
  rw [← h]
  by_cases h5 : a.toNat < 512
  · rw [if_pos h5, if_pos (by omega)]; omega
  · rw [if_neg h5, if_neg (by omega)]
    rw [← bx_nat]; rfl
theorem vD_xor (a b : GV) : vD (a ^^^ b) = vD a ^^^ vD b := by
  unfold vD
  rw [BitVec.shiftLeft_xor_distrib, BitVec.msb_xor]
  have e : (if (a.msb ^^ b.msb) = true then 9#10 else 0#10) = (if a.msb = true then 9#10 else 0#10) ^^^ (if b.msb = true then 9#10 else 0#10) := by
    cases a.msb <;> cases b.msb <;> rfl
  rw [e]
  ac_rfl
theorem vD_zero : vD 0#10 = 0#10 := by decide
theorem val_tms : ∀ n (t a : GV) (b : Nat), tms n (gval t) (gval a) (b : Int) = gval (t ^^^ vM n a b)
  | 0, t, a, b => by
    show gval t = gval (t ^^^ 0#10)
    rw [BitVec.xor_zero]
  | n+1, t, a, b => by
    unfold tms vM
    have z : ∀ k (a : GV), vM k a 0 = 0#10 := by
      intro k
      induction k with
      | zero => intro a; rfl
      | succ k ih => intro a; unfold vM; rw [if_pos rfl, Nat.zero_div, ih]; rfl
    by_cases hb : b = 0
    · subst hb
      rw [if_pos (by omega), if_pos rfl, Nat.zero_div, z, BitVec.xor_zero, BitVec.xor_zero]
    · rw [if_neg (by omega), val_dbl, show (b : Int) / 2 = ((b / 2 : Nat) : Int) by omega]
      by_cases h2 : b % 2 = 0
      · rw [if_pos (by omega), if_pos h2, val_tms, BitVec.zero_xor]
      · rw [if_neg (by omega), if_neg h2, val_xor, val_tms, BitVec.xor_assoc]
theorem val_times (a b : GV) : times (gval a) (gval b) = gval (vMul a b) := by
  unfold times vMul
  have := val_tms 10 0#10 a b.toNat
  rw [BitVec.zero_xor] at this
  exact this
theorem vM_add : ∀ n (a b : GV) (k : Nat), vM n (a ^^^ b) k = vM n a k ^^^ vM n b k
  | 0, _, _, _ => (BitVec.xor_zero (x := 0#10)).symm
  | n+1, a, b, k => by
    unfold vM
    rw [vD_xor, vM_add]
    by_cases h : k % 2 = 0
    · rw [if_pos h, if_pos h, if_pos h, BitVec.zero_xor, BitVec.zero_xor, BitVec.zero_xor]
    · rw [if_neg h, if_neg h, if_neg h]; ac_rfl
theorem vM_D : ∀ n (a : GV) (k : Nat), vM n (vD a) k = vD (vM n a k)
  | 0, _, _ => vD_zero.symm
  | n+1, a, k => by
    unfold vM
    rw [vM_D, vD_xor]
    by_cases h : k % 2 = 0
    · rw [if_pos h, if_pos h, vD_zero]
    · rw [if_neg h, if_neg h]
theorem vM_zero : ∀ n (k : Nat), vM n 0#10 k = 0#10
  | 0, _ => rfl
  | n+1, k => by
    unfold vM
    rw [vD_zero, vM_zero]
    by_cases h : k % 2 = 0
    · rw [if_pos h]; rfl
    · rw [if_neg h]; rfl
def vDn : Nat → GV → GV
  | 0, a => a
  | n+1, a => vDn n (vD a)
theorem vM_cut (n : Nat) : ∀ m (a : GV) (k : Nat), vM (m + n) a k = vM m a k ^^^ vM n (vDn m a) (k / 2 ^ m)
  | 0, a, k => by
    rw [Nat.zero_add, Nat.pow_zero, Nat.div_one]
    show _ = 0#10 ^^^ vM n a k
    rw [BitVec.zero_xor]
  | m+1, a, k => by
    have e : vM (m + 1 + n) a k = (if k % 2 = 0 then 0#10 else a) ^^^ vM (m + n) (vD a) (k / 2) := by
      rw [show m + 1 + n = (m + n) + 1 by omega]; rfl
    have e' : vM (m + 1) a k = (if k % 2 = 0 then 0#10 else a) ^^^ vM m (vD a) (k / 2) := rfl
    rw [e, e', vM_cut, Nat.div_div_eq_div_mul, ← Nat.pow_succ', BitVec.xor_assoc]
    rfl
theorem vM_low : ∀ n (a : GV) (k : Nat), vM n a (k % 2 ^ n) = vM n a k
  | 0, _, _ => rfl
  | n+1, a, k => by
    have e : ∀ k, vM (n + 1) a k = (if k % 2 = 0 then 0#10 else a) ^^^ vM n (vD a) (k / 2) := fun _ => rfl
    rw [e, e k, Nat.pow_succ', Nat.mod_mul_right_mod, Nat.mod_mul_right_div_self, vM_low]
theorem vM_one5 : ∀ b : Nat, b < 32 → (vM 5 1#10 b).toNat = b ∧ (vM 5 32#10 b).toNat = b * 32 := by decide +kernel
theorem vM_one (b : Nat) (h : b < 1024) : (vM 10 1#10 b).toNat = b := by
  have c := vM_cut 5 5 1#10 b
  rw [show vDn 5 1#10 = 32#10 by decide +kernel, ← vM_low 5 1#10 b] at c
  have c' : vM 10 1#10 b = vM 5 1#10 (b % 32) ^^^ vM 5 32#10 (b / 2 ^ 5) := c
  rw [c', BitVec.toNat_xor]
  rw [(vM_one5 (b % 32) (by omega)).1, (vM_one5 (b / 2 ^ 5) (by omega)).2]
  have r := nat_xor_pow (k := 5) (a := 0) (b := b % 32) (c := b / 32) (d := 0) (by omega) (by decide)
  rw [Nat.zero_mul, Nat.zero_add, Nat.add_zero, Nat.zero_xor, Nat.xor_zero] at r
  show b % 32 ^^^ b / 32 * 2 ^ 5 = b
  rw [r]; omega
theorem one_vMul (b : GV) : vMul 1#10 b = b := BitVec.eq_of_toNat_eq (vM_one b.toNat b.isLt)
theorem vMul_add (a b c : GV) : vMul (a ^^^ b) c = vMul a c ^^^ vMul b c := vM_add 10 a b _
/-- a sum of multiples, in the first factor -/
theorem vM_swap : ∀ n (a b : GV) (k : Nat), vMul (vM n a k) b = vM n (vMul a b) k
  | 0, _, b, _ => vM_zero 10 _
  | n+1, a, b, k => by
    have ih := vM_swap n (vD a) b (k / 2)
    have e1 : vM (n+1) a k = (if k % 2 = 0 then 0#10 else a) ^^^ vM n (vD a) (k / 2) := rfl
    have e2 : vM (n+1) (vMul a b) k = (if k % 2 = 0 then 0#10 else vMul a b) ^^^ vM n (vD (vMul a b)) (k / 2) := rfl
    have e3 : vMul (vD a) b = vD (vMul a b) := vM_D 10 a _
    rw [e1, e2, vMul_add, ih, e3]
    by_cases h : k % 2 = 0
    · rw [if_pos h, if_pos h]
      rw [show vMul 0#10 b = 0#10 from vM_zero 10 _]
    · rw [if_neg h, if_neg h]
theorem vMul_comm (a b : GV) : vMul a b = vMul b a := by
  have h := vM_swap 10 1#10 b a.toNat
  have e : vM 10 1#10 a.toNat = a := one_vMul a
  rw [e, one_vMul] at h
  exact h
theorem vMul_assoc (a b c : GV) : vMul (vMul a b) c = vMul a (vMul b c) := by
  have h : ∀ x y z : GV, vMul (vMul x y) z = vMul (vMul x z) y := fun x y z => vM_swap 10 x z y.toNat
  rw [vMul_comm a b, h, vMul_comm (vMul b c) a]
theorem vMul_one (a : GV) : vMul a 1#10 = a := by rw [vMul_comm]; exact one_vMul a
theorem vMul_zero (a : GV) : vMul a 0#10 = 0#10 := by rw [vMul_comm]; exact vM_zero 10 _
theorem vD_mul (a b : GV) : vMul (vD a) b = vD (vMul a b) := vM_D 10 a _
theorem vD_eq (a : GV) : vD a = vMul 2#10 a := by
  have h := vD_mul 1#10 a
  rw [one_vMul] at h
  rw [← h]; rfl
theorem vMul_dist (a b c : GV) : vMul a (b ^^^ c) = vMul a b ^^^ vMul a c := by
  rw [vMul_comm, vMul_add, vMul_comm b, vMul_comm c]
theorem zero_vMul (a : GV) : vMul 0#10 a = 0#10 := vM_zero 10 _
def vpow (a : GV) : Nat → GV
  | 0 => 1#10
  | n+1 => vMul (vpow a n) a
def vnat (n : Nat) : GV := if n % 2 = 0 then 0#10 else 1#10
def vint (n : Int) : GV := if n % 2 = 0 then 0#10 else 1#10
theorem vnat_succ (n : Nat) : vnat (n + 1) = vnat n ^^^ 1#10 := by
  unfold vnat
  by_cases h : n % 2 = 0
  · rw [if_pos h, if_neg (by omega)]; rfl
  · rw [if_neg h, if_pos (by omega)]; rfl
theorem vint_neg (i : Int) : vint (-i) = vint i := by
  unfold vint
  by_cases h : i % 2 = 0
  · rw [if_pos h, if_pos (by omega)]
  · rw [if_neg h, if_neg (by omega)]
theorem vint_nat (n : Nat) : vint (n : Int) = vnat n := by
  unfold vint vnat
  by_cases h : n % 2 = 0
  · rw [if_pos h, if_pos (by omega)]
  · rw [if_neg h, if_neg (by omega)]
theorem vnat_zero (n : Nat) : vnat n = 0#10 ↔ n % 2 = 0 := by
  unfold vnat
  by_cases h : n % 2 = 0
  · rw [if_pos h]; exact ⟨fun _ => h, fun _ => rfl⟩
  · rw [if_neg h]; exact ⟨fun e => absurd e (by decide), fun e => absurd e h⟩
/-- the words as a ring -/
def GF : Type := GV
abbrev frg : Lean.Grind.CommRing GF where
  add := fun (a b : GV) => a ^^^ b
  mul := vMul
  natCast := ⟨vnat⟩
  ofNat n := ⟨vnat n⟩
  nsmul := ⟨fun n a => vMul (vnat n) a⟩
  npow := ⟨vpow⟩
  neg a := a
  sub := fun (a b : GV) => a ^^^ b
  intCast := ⟨vint⟩
  zsmul := ⟨fun n a => vMul (vint n) a⟩
  add_zero := fun (a : GV) => BitVec.xor_zero (x := a)
  add_comm := fun (a b : GV) => BitVec.xor_comm a b
  add_assoc := fun (a b c : GV) => BitVec.xor_assoc a b c
  mul_assoc := vMul_assoc
  mul_one := vMul_one
  one_mul := one_vMul
  left_distrib := vMul_dist
  right_distrib := vMul_add
  zero_mul := zero_vMul
  mul_zero := vMul_zero
  pow_zero _ := rfl
  pow_succ _ _ := rfl
  ofNat_succ := vnat_succ
  ofNat_eq_natCast _ := rfl
  nsmul_eq_natCast_mul _ _ := rfl
  neg_add_cancel := fun (a : GV) => BitVec.xor_self (x := a)
  sub_eq_add_neg _ _ := rfl
  neg_zsmul := fun (i : Int) (a : GV) => congrArg (fun x => vMul x a) (vint_neg i)
  zsmul_natCast_eq_nsmul := fun (n : Nat) (a : GV) => congrArg (fun x => vMul x a) (vint_nat n)
  intCast_ofNat := vint_nat
  intCast_neg := vint_neg
  mul_comm := vMul_comm
theorem fch : @Lean.Grind.IsCharP GF frg.toSemiring 2 := @Lean.Grind.IsCharP.mk' 2 GF frg.toRing vnat_zero
end Mine
end
section
namespace Mine
section
open Lean.Grind
variable {α : Type} [CommRing α] [IsCharP α 2]
theorem vd1 (x0 x1 x2 y0 y1 y2 u : α) (h : (((x1*x2)*(x1+x2))*x0)*((x0+x1)*(x0+x2)) * u = 1) :
   ((y2 + (x1+x2)*y1) + (x1*x2)*y0) * (((x1*x2)*(x1+x2))*u) * x0 + ((y2 + (x0+x2)*y1) + (x0*x2)*y0) * (((x0*x2)*(x0+x2))*u) * x1 + ((y2 + (x0+x1)*y1) + (x0*x1)*y0) * (((x0*x1)*(x0+x1))*u) * x2 = y0 := by grind
theorem vd2 (x0 x1 x2 y0 y1 y2 u : α) (h : (((x1*x2)*(x1+x2))*x0)*((x0+x1)*(x0+x2)) * u = 1) :
   ((y2 + (x1+x2)*y1) + (x1*x2)*y0) * (((x1*x2)*(x1+x2))*u) * (x0*x0) + ((y2 + (x0+x2)*y1) + (x0*x2)*y0) * (((x0*x2)*(x0+x2))*u) * (x1*x1) + ((y2 + (x0+x1)*y1) + (x0*x1)*y0) * (((x0*x1)*(x0+x1))*u) * (x2*x2) = y1 := by grind
theorem vd3 (x0 x1 x2 y0 y1 y2 u : α) (h : (((x1*x2)*(x1+x2))*x0)*((x0+x1)*(x0+x2)) * u = 1) :
   ((y2 + (x1+x2)*y1) + (x1*x2)*y0) * (((x1*x2)*(x1+x2))*u) * ((x0*x0)*x0) + ((y2 + (x0+x2)*y1) + (x0*x2)*y0) * (((x0*x2)*(x0+x2))*u) * ((x1*x1)*x1) + ((y2 + (x0+x1)*y1) + (x0*x1)*y0) * (((x0*x1)*(x0+x1))*u) * ((x2*x2)*x2) = y2 := by grind
theorem vu (x0 x1 x2 d0 d1 d2 u : α) (h : (((x1*x2)*(x1+x2))*x0)*((x0+x1)*(x0+x2)) * u = 1)
   (h0 : (d0*x0+d1*x1)+d2*x2 = 0) (h1 : (d0*(x0*x0)+d1*(x1*x1))+d2*(x2*x2) = 0) (h2 : (d0*((x0*x0)*x0)+d1*((x1*x1)*x1))+d2*((x2*x2)*x2)=0) : d0 = 0 ∧ d1 = 0 ∧ d2 = 0 := by
  refine ⟨?_, ?_, ?_⟩ <;> grind
theorem ev_zero (x y z d2 d1 d0 u : α) (h : ((x+y)*(x+z))*(y+z)*u = 1) (h1 : ((x*x)*d2+x*d1)+d0 = 0) (h2 : ((y*y)*d2+y*d1)+d0 = 0) (h3 : ((z*z)*d2+z*d1)+d0 = 0) : d2 = 0 ∧ d1 = 0 ∧ d0 = 0 := by
  refine ⟨?_, ?_, ?_⟩ <;> grind
theorem ev_diff (x c2 c1 c0 e2 e1 e0 : α) (h : ((x*x)*c2+x*c1)+c0 = ((x*x)*e2+x*e1)+e0) : ((x*x)*(c2+e2)+x*(c1+e1))+(c0+e0) = 0 := by grind
theorem eq_of (x y : α) (h : x + y = 0) : x = y := by grind
/-- the value of three words at a point -/
theorem ev_inj (x y z c2 c1 c0 e2 e1 e0 u : α) (h : ((x+y)*(x+z))*(y+z)*u = 1)
   (h1 : ((x*x)*c2+x*c1)+c0 = ((x*x)*e2+x*e1)+e0) (h2 : ((y*y)*c2+y*c1)+c0 = ((y*y)*e2+y*e1)+e0) (h3 : ((z*z)*c2+z*c1)+c0 = ((z*z)*e2+z*e1)+e0) : c2 = e2 ∧ c1 = e1 ∧ c0 = e0 := by
  have q := ev_zero x y z _ _ _ u h (ev_diff x c2 c1 c0 e2 e1 e0 h1) (ev_diff y c2 c1 c0 e2 e1 e0 h2) (ev_diff z c2 c1 c0 e2 e1 e0 h3)
  exact ⟨eq_of _ _ q.1, eq_of _ _ q.2.1, eq_of _ _ q.2.2⟩
theorem ev_step (b c2 c1 c0 v : α) : (((b*b)*c1+b*c0)+v)+((b*b)*b)*c2 = b*(((b*b)*c2+b*c1)+c0)+v := by grind
theorem fs_turn (b s t d w p : α) (h : s = t + d*p) : b*s+w = (b*t+w)+d*(p*b) := by grind
theorem mul_pow2 (a b c d : α) : (a*c)*(b*d) = (a*b)*(c*d) := by grind
theorem plus_end (s y : α) (h : s + 1 = y) : s + y = 1 := by grind
theorem plus_same (s t : α) (h : s = t) : s + t = 0 := by grind
theorem plus_one (s t : α) (h : s + t = s) : t = 0 := by grind
theorem ends (b s c2 c1 c0 : α) (h : b*(b*(b*s+0)+0)+0 = ((b*b)*c2+b*c1)+c0) : b*(b*(b*s+c2)+c1)+(c0+1) = 1 := by grind
end
/-- the row's value at a point, from a word on -/
def fsum (b s : GV) (xs : List GV) : GV := xs.foldl (fun s w => vMul b s ^^^ w) s
def vset (xs : List GV) (i : Nat) (d : GV) : List GV := xs.set i (xs.getD i 0#10 ^^^ d)
theorem fsum_shift (b s t : GV) (d p : GV) : ∀ (xs : List GV), s = t ^^^ vMul d p → fsum b s xs = fsum b t xs ^^^ vMul d (vMul p (vpow b xs.length))
  | [], h => by
    show s = t ^^^ vMul d (vMul p 1#10)
    rw [vMul_one]; exact h
  | x :: xs, h => by
    have ih := fsum_shift b (vMul b s ^^^ x) (vMul b t ^^^ x) d (vMul p b) xs (@fs_turn GF frg fch b s t d x p h)
    show fsum b (vMul b s ^^^ x) xs = fsum b (vMul b t ^^^ x) xs ^^^ vMul d (vMul p (vMul (vpow b xs.length) b))
    rw [ih, vMul_assoc p, vMul_comm b (vpow b xs.length)]
theorem fsum_vset (b d : GV) : ∀ (xs : List GV) (s : GV) (i : Nat), i < xs.length → fsum b s (vset xs i d) = fsum b s xs ^^^ vMul d (vpow b (xs.length - 1 - i))
  | [], _, _, h => absurd h (Nat.not_lt_zero _)
  | x :: xs, s, 0, _ => by
    have e := fsum_shift b (vMul b s ^^^ (x ^^^ d)) (vMul b s ^^^ x) d 1#10 xs (by rw [vMul_one, BitVec.xor_assoc])
    rw [one_vMul] at e
    exact e
  | x :: xs, s, i+1, h => by
    have ih := fsum_vset b d xs (vMul b s ^^^ x) i (Nat.lt_of_succ_lt_succ h)
    have e : (x :: xs).length - 1 - (i + 1) = xs.length - 1 - i := by rw [List.length_cons]; omega
    rw [e]
    exact ih
theorem fsum_app (b s : GV) (xs ys : List GV) : fsum b s (xs ++ ys) = fsum b (fsum b s xs) ys := List.foldl_append
theorem vset_len (xs : List GV) (i : Nat) (d : GV) : (vset xs i d).length = xs.length := List.length_set
theorem vpow_mul (a c : GV) : ∀ n, vpow (vMul a c) n = vMul (vpow a n) (vpow c n)
  | 0 => (vMul_one 1#10).symm
  | n+1 => by
    show vMul (vpow (vMul a c) n) (vMul a c) = vMul (vMul (vpow a n) a) (vMul (vpow c n) c)
    rw [vpow_mul]
    exact @mul_pow2 GF frg fch _ _ _ _
theorem vpow_add (a : GV) (m : Nat) : ∀ n, vpow a (m + n) = vMul (vpow a m) (vpow a n)
  | 0 => (vMul_one _).symm
  | n+1 => by
    show vMul (vpow a (m + n)) a = vMul (vpow a m) (vMul (vpow a n) a)
    rw [vpow_add, vMul_assoc]
theorem gval_power : ∀ n, power n = gval (vpow 2#10 n)
  | 0 => rfl
  | n+1 => by
    show dbl (power n) = gval (vMul (vpow 2#10 n) 2#10)
    rw [gval_power, val_dbl, vD_eq, vMul_comm]
theorem vDn_pow : ∀ n a, vDn n a = vMul (vpow 2#10 n) a
  | 0, a => (one_vMul a).symm
  | n+1, a => by
    show vDn n (vD a) = vMul (vMul (vpow 2#10 n) 2#10) a
    rw [vDn_pow, vD_eq, vMul_assoc]
theorem vDn_one (n : Nat) : vpow 2#10 n = vDn n 1#10 := by rw [vDn_pow, vMul_one]
theorem vM_last : ∀ n (a : GV) (k : Nat), vM (n+1) a k = vM n a k ^^^ (if (k / 2 ^ n) % 2 = 0 then 0#10 else vDn n a)
  | 0, a, k => by
    show (if k % 2 = 0 then 0#10 else a) ^^^ 0#10 = 0#10 ^^^ (if (k / 1) % 2 = 0 then 0#10 else a)
    rw [Nat.div_one, BitVec.xor_zero, BitVec.zero_xor]
  | n+1, a, k => by
    have e : vM (n+2) a k = (if k % 2 = 0 then 0#10 else a) ^^^ vM (n+1) (vD a) (k / 2) := rfl
    have e' : vM (n+1) a k = (if k % 2 = 0 then 0#10 else a) ^^^ vM n (vD a) (k / 2) := rfl
    rw [e, e', vM_last, Nat.div_div_eq_div_mul, ← Nat.pow_succ', BitVec.xor_assoc]
    rfl
theorem zech : 1#10 ^^^ vDn 1 1#10 = vDn 77 1#10 ∧ 1#10 ^^^ vDn 2 1#10 = vDn 154 1#10 ∧ 1#10 ^^^ vDn 3 1#10 = vDn 10 1#10 ∧ 1#10 ^^^ vDn 4 1#10 = vDn 308 1#10 ∧ 1#10 ^^^ vDn 5 1#10 = vDn 513 1#10 ∧ 1#10 ^^^ vDn 6 1#10 = vDn 20 1#10 ∧ 1#10 ^^^ vDn 7 1#10 = vDn 1020 1#10 ∧ 1#10 ^^^ vDn 8 1#10 = vDn 616 1#10 ∧ 1#10 ^^^ vDn 9 1#10 = vDn 324 1#10 ∧ 1#10 ^^^ vDn 10 1#10 = vDn 3 1#10 ∧ 1#10 ^^^ vDn 11 1#10 = vDn 200 1#10 ∧ vDn 1023 1#10 = 1#10 := by decide +kernel
end Mine
end
section
namespace Mine
theorem fsum_cons (b s x : GV) (xs : List GV) : fsum b s (x :: xs) = fsum b (vMul b s ^^^ x) xs := List.foldl_cons ..
/-- the sums of a row, as words -/
theorem gval_sums : ∀ (xs : List GV) (a b c : GV), (xs.map gval).foldl sumsStep (gval a, gval b, gval c) = (gval (fsum 2#10 a xs), gval (fsum 4#10 b xs), gval (fsum 8#10 c xs))
  | [], _, _, _ => rfl
  | x :: xs, a, b, c => by
    have e : ∀ w, vD (vD w) = vMul 4#10 w := fun w => by
      rw [vD_eq, vD_eq, ← vMul_assoc]; rfl
    have e3 : ∀ w, vD (vD (vD w)) = vMul 8#10 w := fun w => by
      rw [e, vD_eq, ← vMul_assoc]; rfl
    have h : sumsStep (gval a, gval b, gval c) (gval x) = (gval (vMul 2#10 a ^^^ x), gval (vMul 4#10 b ^^^ x), gval (vMul 8#10 c ^^^ x)) := by
      unfold sumsStep
      rw [← vD_eq, ← e, ← e3]
      dsimp only
      rw [val_dbl, val_dbl, val_dbl, val_dbl, val_dbl, val_dbl, val_xor, val_xor, val_xor]
    rw [List.map_cons, List.foldl_cons, h, gval_sums, fsum_cons, fsum_cons, fsum_cons]
theorem gval_sums1 (xs : List GV) : sums (xs.map gval) = (gval (fsum 2#10 1#10 xs), gval (fsum 4#10 1#10 xs), gval (fsum 8#10 1#10 xs)) := gval_sums xs 1#10 1#10 1#10
/-- the state of the polymod: three words -/
def pkN (a b c : Nat) : Nat := (a * 1024 + b) * 1024 + c
def gpk (t : GV × GV × GV) : Int := (pkN t.1.toNat t.2.1.toNat t.2.2.toNat : Int)
theorem nat_xor_1024 {a b c d : Nat} (hb : b < 1024) (hd : d < 1024) : (a * 1024 + b) ^^^ (c * 1024 + d) = (a ^^^ c) * 1024 + (b ^^^ d) := by
  have h1 : ((a * 1024 + b) ^^^ (c * 1024 + d)) / 2 ^ 10 = a ^^^ c := by
    rw [Nat.xor_div_two_pow]
    rw [show (a * 1024 + b) / 2 ^ 10 = a by omega, show (c * 1024 + d) / 2 ^ 10 = c by omega]
  have h2 : ((a * 1024 + b) ^^^ (c * 1024 + d)) % 2 ^ 10 = b ^^^ d := by
    rw [Nat.xor_mod_two_pow]
    rw [show (a * 1024 + b) % 2 ^ 10 = b by omega, show (c * 1024 + d) % 2 ^ 10 = d by omega]
  omega
def txor (s t : GV × GV × GV) : GV × GV × GV := (s.1 ^^^ t.1, s.2.1 ^^^ t.2.1, s.2.2 ^^^ t.2.2)
theorem gpk_xor (s t : GV × GV × GV) : Builtin.bitXor (gpk s) (gpk t) = gpk (txor s t) := by
  obtain ⟨a, b, c⟩ := s
  obtain ⟨d, e, f⟩ := t
  unfold gpk pkN
  rw [bx_nat]
  dsimp only [txor]
  rw [nat_xor_1024 c.isLt f.isLt, nat_xor_1024 b.isLt e.isLt, BitVec.toNat_xor, BitVec.toNat_xor, BitVec.toNat_xor]
def gtab (n : Nat) : GV × GV × GV := [(14#10, 56#10, 64#10), (28#10, 112#10, 128#10), (56#10, 224#10, 256#10), (112#10, 448#10, 512#10), (224#10, 896#10, 9#10), (448#10, 777#10, 18#10), (896#10, 539#10, 36#10), (777#10, 63#10, 72#10), (539#10, 126#10, 144#10), (63#10, 252#10, 288#10)].getD n (0#10, 0#10, 0#10)
theorem gtab_eq : ∀ n, n < 10 → gens.getD n 0 = gpk (gtab n) := by decide +kernel
/-- the value of the state at a point -/
def ev (b : GV) (t : GV × GV × GV) : GV := (vMul (vMul b b) t.1 ^^^ vMul b t.2.1) ^^^ t.2.2
theorem ev_xor (b : GV) (s t : GV × GV × GV) : ev b (txor s t) = ev b s ^^^ ev b t := by
  unfold ev txor
  dsimp only
  rw [vMul_dist, vMul_dist]
  ac_rfl
theorem ev_zero3 (b : GV) : ev b (0#10, 0#10, 0#10) = 0#10 := by
  unfold ev
  dsimp only
  rw [vMul_zero, vMul_zero]; rfl
def pinT (k : Nat) (t : GV × GV × GV) : Nat → GV × GV × GV
  | 0 => t
  | n+1 => txor (pinT k t n) (if (k / 2 ^ n) % 2 = 0 then (0#10, 0#10, 0#10) else gtab n)
theorem bit_test (k n : Nat) : Builtin.bitAnd ((k : Int).fdiv (2 ^ n)) 1 = (((k / 2 ^ n) % 2 : Nat) : Int) := by
  have e : (k : Int).fdiv (2 ^ n) = ((k / 2 ^ n : Nat) : Int) := by
    rw [Int.fdiv_eq_ediv_of_nonneg _ (Int.le_of_lt (Int.pow_pos (by decide)))]
    norm_cast
  rw [e, PyProof.Rows.bitAnd_pp (Int.natCast_nonneg _) (by decide), Int.toNat_natCast]
  rw [show (1 : Int).toNat = 1 from rfl, Nat.and_one_is_mod]
theorem pin_gpk (k : Nat) (t : GV × GV × GV) : ∀ n, n ≤ 10 → pin (k : Int) (gpk t) n = gpk (pinT k t n)
  | 0, _ => rfl
  | n+1, h => by
    unfold pin pinT
    rw [pin_gpk k t n (by omega), bit_test]
    by_cases h2 : (k / 2 ^ n) % 2 = 0
    · rw [if_pos (by omega), if_pos h2]
      exact gpk_xor _ (0#10, 0#10, 0#10)
    · rw [if_neg (by omega), if_neg h2, gtab_eq n (by omega)]
      exact gpk_xor _ _
theorem ev_gtab : ∀ n, n < 10 → ev 2#10 (gtab n) = vDn n 8#10 ∧ ev 4#10 (gtab n) = vDn n 64#10 ∧ ev 8#10 (gtab n) = vDn n 512#10 := by decide +kernel
theorem ev_pinT {b c : GV} (hg : ∀ n, n < 10 → ev b (gtab n) = vDn n c) (k : Nat) (t : GV × GV × GV) : ∀ n, n ≤ 10 → ev b (pinT k t n) = ev b t ^^^ vM n c k
  | 0, _ => (BitVec.xor_zero (x := ev b t)).symm
  | n+1, h => by
    have e : pinT k t (n+1) = txor (pinT k t n) (if (k / 2 ^ n) % 2 = 0 then (0#10, 0#10, 0#10) else gtab n) := rfl
    rw [e, ev_xor, ev_pinT hg k t n (by omega), vM_last, BitVec.xor_assoc]
    by_cases h2 : (k / 2 ^ n) % 2 = 0
    · rw [if_pos h2, if_pos h2, ev_zero3]
    · rw [if_neg h2, if_neg h2, hg n (by omega)]
def pstepT (t : GV × GV × GV) (v : GV) : GV × GV × GV := pinT t.1.toNat (t.2.1, t.2.2, v) 10
theorem ev_pstepT {b c : GV} (hc : c = vMul (vMul b b) b) (hg : ∀ n, n < 10 → ev b (gtab n) = vDn n c) (t : GV × GV × GV) (v : GV) : ev b (pstepT t v) = vMul b (ev b t) ^^^ v := by
  unfold pstepT
  rw [ev_pinT hg _ _ 10 (by omega)]
  subst hc
  exact @ev_step GF frg fch b t.1 t.2.1 t.2.2 v
theorem pstep_gpk (t : GV × GV × GV) (v : GV) : pstep (gpk t) (gval v) = gpk (pstepT t v) := by
  obtain ⟨a, b, c⟩ := t
  have ha := a.isLt; have hb := b.isLt; have hc := c.isLt
  have e1 : (gpk (a, b, c)).fdiv (2 ^ Int.toNat 20) = (a.toNat : Int) := by
    unfold gpk pkN
    dsimp only
    rw [show Int.toNat 20 = 20 from rfl, Int.fdiv_eq_ediv_of_nonneg _ (by decide)]
    omega
  have e2 : Builtin.bitAnd (gpk (a, b, c)) 1048575 * 2 ^ Int.toNat 10 = gpk (b, c, 0#10) := by
    unfold gpk pkN
    dsimp only
    rw [PyProof.Rows.bitAnd_pp (by omega) (by decide), Int.toNat_natCast]
    rw [show (1048575 : Int).toNat = 2 ^ 20 - 1 from rfl, Nat.and_two_pow_sub_one_eq_mod]
    rw [show Int.toNat 10 = 10 from rfl]
    rw [show (0#10).toNat = 0 from rfl]
    omega
  have e3 : gval v = gpk (0#10, 0#10, v) := by
    unfold gval gpk pkN
    dsimp only
    rw [show (0#10).toNat = 0 from rfl]
    omega
  have e4 : txor (b, c, 0#10) (0#10, 0#10, v) = (b, c, v) := by
    unfold txor
    dsimp only
    rw [BitVec.xor_zero, BitVec.xor_zero, BitVec.zero_xor]
  unfold pstep pstepT
  rw [e1, e2, e3, gpk_xor, e4]
  exact pin_gpk a.toNat (b, c, v) 10 (by omega)
def pmT (xs : List GV) : GV × GV × GV := xs.foldl pstepT (0#10, 0#10, 1#10)
theorem pm_fold : ∀ (xs : List GV) (t : GV × GV × GV), (xs.map gval).foldl pstep (gpk t) = gpk (xs.foldl pstepT t)
  | [], _ => rfl
  | x :: xs, t => by
    rw [List.map_cons, List.foldl_cons, List.foldl_cons, pstep_gpk, pm_fold]
theorem gval_polymod (xs : List GV) : polymod (xs.map gval) = gpk (pmT xs) := pm_fold xs (0#10, 0#10, 1#10)
theorem ev_fold {b c : GV} (hc : c = vMul (vMul b b) b) (hg : ∀ n, n < 10 → ev b (gtab n) = vDn n c) : ∀ (xs : List GV) (t : GV × GV × GV), ev b (xs.foldl pstepT t) = fsum b (ev b t) xs
  | [], _ => rfl
  | x :: xs, t => by
    rw [List.foldl_cons, fsum_cons, ev_fold hc hg, ev_pstepT hc hg]
theorem ev_pmT (xs : List GV) : ev 2#10 (pmT xs) = fsum 2#10 1#10 xs ∧ ev 4#10 (pmT xs) = fsum 4#10 1#10 xs ∧ ev 8#10 (pmT xs) = fsum 8#10 1#10 xs :=
  ⟨ev_fold (c := 8#10) (by decide +kernel) (fun n h => (ev_gtab n h).1) xs (0#10, 0#10, 1#10), ev_fold (c := 64#10) (by decide +kernel) (fun n h => (ev_gtab n h).2.1) xs (0#10, 0#10, 1#10), ev_fold (c := 512#10) (by decide +kernel) (fun n h => (ev_gtab n h).2.2) xs (0#10, 0#10, 1#10)⟩
theorem det_unit : vMul (vMul (vMul (2#10 ^^^ 4#10) (2#10 ^^^ 8#10)) (4#10 ^^^ 8#10)) 922#10 = 1#10 := by decide +kernel
theorem ev_same {s t : GV × GV × GV} (h1 : ev 2#10 s = ev 2#10 t) (h2 : ev 4#10 s = ev 4#10 t) (h3 : ev 8#10 s = ev 8#10 t) : s = t := by
  have q := @ev_inj GF frg fch 2#10 4#10 8#10 s.1 s.2.1 s.2.2 t.1 t.2.1 t.2.2 922#10 det_unit h1 h2 h3
  exact Prod.ext q.1 (Prod.ext q.2.1 q.2.2)
theorem gpk_inj {s t : GV × GV × GV} (h : gpk s = gpk t) : s = t := by
  obtain ⟨a, b, c⟩ := s
  obtain ⟨d, e, f⟩ := t
  have := a.isLt; have := b.isLt; have := c.isLt; have := d.isLt; have := e.isLt; have := f.isLt
  unfold gpk pkN at h
  dsimp only at h
  have h1 : a = d := BitVec.eq_of_toNat_eq (by omega)
  have h2 : b = e := BitVec.eq_of_toNat_eq (by omega)
  have h3 : c = f := BitVec.eq_of_toNat_eq (by omega)
  rw [h1, h2, h3]
/-- the checksum stands exactly when the three sums are one -/
theorem polymod_one (xs : List GV) : polymod (xs.map gval) = 1 ↔ fsum 2#10 1#10 xs = 1#10 ∧ fsum 4#10 1#10 xs = 1#10 ∧ fsum 8#10 1#10 xs = 1#10 := by
  have e := ev_pmT xs
  rw [gval_polymod]
  constructor
  · intro h
    have h' : pmT xs = (0#10, 0#10, 1#10) := gpk_inj h
    rw [h'] at e
    exact ⟨e.1.symm, e.2.1.symm, e.2.2.symm⟩
  · intro h
    have h' : pmT xs = (0#10, 0#10, 1#10) := ev_same (e.1.trans h.1) (e.2.1.trans h.2.1) (e.2.2.trans h.2.2)
    rw [h']; rfl
/-- the inverse of a power of the root -/
theorem invp_pow (m : Nat) : ∀ n, invp (gval (vpow 2#10 m)) n = (gval (vpow 2#10 (m * 2 ^ n)), gval (vpow 2#10 (m * (2 ^ (n + 1) - 2))))
  | 0 => by
    show (gval (vpow 2#10 m), (1 : Int)) = _
    rw [show m * 2 ^ 0 = m by omega, show m * (2 ^ (0 + 1) - 2) = 0 by omega]
    rfl
  | n+1 => by
    unfold invp
    rw [invp_pow m n]
    dsimp only
    rw [val_times, val_times, ← vpow_add, ← vpow_add]
    have p : 2 ^ (n + 1) = 2 * 2 ^ n := by rw [Nat.pow_succ]; omega
    have p2 : 2 ^ (n + 1 + 1) = 2 * (2 * 2 ^ n) := by rw [Nat.pow_succ, p]; omega
    have p3 : 0 < 2 ^ n := Nat.pow_pos (by decide)
    have e1 : m * 2 ^ n + m * 2 ^ n = m * 2 ^ (n + 1) := by rw [← Nat.mul_add, p]; congr 1; omega
    have e2 : m * (2 ^ (n + 1) - 2) + (m * 2 ^ n + m * 2 ^ n) = m * (2 ^ (n + 1 + 1) - 2) := by
      rw [← Nat.mul_add, ← Nat.mul_add, p2, p]; congr 1; omega
    rw [e1] at e2
    rw [e1, e2]
theorem vpow_1023 : vpow 2#10 1023 = 1#10 := by rw [vDn_one]; exact zech.2.2.2.2.2.2.2.2.2.2.2
theorem vpow_mult (a : GV) (m : Nat) : ∀ n, vpow a m = 1#10 → vpow a (m * n) = 1#10
  | 0, _ => rfl
  | n+1, h => by rw [Nat.mul_succ, vpow_add, vpow_mult a m n h, h]; exact one_vMul _
theorem inverse_pow (m : Nat) : inverse (gval (vpow 2#10 m)) = gval (vpow 2#10 (m * 1022)) ∧ vMul (vpow 2#10 m) (vpow 2#10 (m * 1022)) = 1#10 := by
  constructor
  · unfold inverse
    rw [invp_pow]
  · rw [← vpow_add, show m + m * 1022 = 1023 * m by omega]
    exact vpow_mult _ _ _ vpow_1023
/-- the sum of two powers of the root is one -/
theorem pow_xor_lt {d : Nat} (h1 : 1 ≤ d) (h2 : d ≤ 11) : ∃ z, 1#10 ^^^ vpow 2#10 d = vpow 2#10 z := by
  have z := zech
  obtain ⟨z1, z2, z3, z4, z5, z6, z7, z8, z9, z10, z11, z12⟩ := z
  rcases (by omega : d = 1 ∨ d = 2 ∨ d = 3 ∨ d = 4 ∨ d = 5 ∨ d = 6 ∨ d = 7 ∨ d = 8 ∨ d = 9 ∨ d = 10 ∨ d = 11) with rfl | rfl | rfl | rfl | rfl | rfl | rfl | rfl | rfl | rfl | rfl
  · exact ⟨77, by rw [vDn_one, vDn_one, z1]⟩
  · exact ⟨154, by rw [vDn_one, vDn_one, z2]⟩
  · exact ⟨10, by rw [vDn_one, vDn_one, z3]⟩
  · exact ⟨308, by rw [vDn_one, vDn_one, z4]⟩
  · exact ⟨513, by rw [vDn_one, vDn_one, z5]⟩
  · exact ⟨20, by rw [vDn_one, vDn_one, z6]⟩
  · exact ⟨1020, by rw [vDn_one, vDn_one, z7]⟩
  · exact ⟨616, by rw [vDn_one, vDn_one, z8]⟩
  · exact ⟨324, by rw [vDn_one, vDn_one, z9]⟩
  · exact ⟨3, by rw [vDn_one, vDn_one, z10]⟩
  · exact ⟨200, by rw [vDn_one, vDn_one, z11]⟩
theorem pow_xor {a b : Nat} (ha : a ≤ 11) (hb : b ≤ 11) (h : a ≠ b) : ∃ z, vpow 2#10 a ^^^ vpow 2#10 b = vpow 2#10 z := by
  have go : ∀ a b : Nat, a < b → b ≤ 11 → ∃ z, vpow 2#10 a ^^^ vpow 2#10 b = vpow 2#10 z := by
    intro a b hlt hb
    obtain ⟨z, hz⟩ := pow_xor_lt (d := b - a) (by omega) (by omega)
    refine ⟨a + z, ?_⟩
    rw [vpow_add, ← hz, vMul_dist, vMul_one, ← vpow_add, show a + (b - a) = b by omega]
  rcases Nat.lt_or_gt_of_ne h with h | h
  · exact go a b h hb
  · rw [BitVec.xor_comm]; exact go b a h ha
end Mine
end
section
namespace Mine
theorem lift_wd : ∀ {L : List Int}, (∀ x ∈ L, Wd x) → (L.map ofI).map gval = L
  | [], _ => rfl
  | x :: L, h => by
    rw [List.map_cons, List.map_cons, val_ofI (h x (.head _)), lift_wd fun y hy => h y (.tail _ hy)]
theorem gval_zero : gval 0#10 = 0 := rfl
theorem gval_one : gval 1#10 = 1 := rfl
theorem gval_getD (Rs : List GV) (i : Nat) : (Rs.map gval).getD i 0 = gval (Rs.getD i 0#10) := by
  rw [List.getD_eq_getElem?_getD, List.getD_eq_getElem?_getD, List.getElem?_map]
  cases Rs[i]? <;> rfl
theorem gval_xorAt (Rs : List GV) (p : Int) (d : GV) : xorAt (Rs.map gval) p (gval d) = (vset Rs p.toNat d).map gval := by
  unfold xorAt vset
  rw [gval_getD, val_xor, List.map_set]
theorem set3 (b : GV) (Os Rs : List GV) (i0 i1 i2 : Nat) (d0 d1 d2 : GV) (h0 : i0 < Rs.length) (h1 : i1 < Rs.length) (h2 : i2 < Rs.length) :
    fsum b 1#10 (Os ++ vset (vset (vset Rs i0 d0) i1 d1) i2 d2) = fsum b 1#10 (Os ++ Rs) ^^^ ((vMul d0 (vpow b (Rs.length - 1 - i0)) ^^^ vMul d1 (vpow b (Rs.length - 1 - i1))) ^^^ vMul d2 (vpow b (Rs.length - 1 - i2))) := by
  rw [fsum_app, fsum_app, fsum_vset b d2 _ _ i2 (by rw [vset_len, vset_len]; exact h2), fsum_vset b d1 _ _ i1 (by rw [vset_len]; exact h1), fsum_vset b d0 _ _ i0 h0]
  rw [vset_len, vset_len, vset_len]
  ac_rfl
theorem vpow4 (n : Nat) : vpow 4#10 n = vMul (vpow 2#10 n) (vpow 2#10 n) := vpow_mul 2#10 2#10 n
theorem vpow8 (n : Nat) : vpow 8#10 n = vMul (vMul (vpow 2#10 n) (vpow 2#10 n)) (vpow 2#10 n) := by
  rw [← vpow4]; exact vpow_mul 4#10 2#10 n
/-- three places turned: what the sums become -/
theorem turn3 (Os Rs : List GV) (i0 i1 i2 : Nat) (d0 d1 d2 x0 x1 x2 : GV) (h0 : i0 < Rs.length) (h1 : i1 < Rs.length) (h2 : i2 < Rs.length)
    (e0 : x0 = vpow 2#10 (Rs.length - 1 - i0)) (e1 : x1 = vpow 2#10 (Rs.length - 1 - i1)) (e2 : x2 = vpow 2#10 (Rs.length - 1 - i2)) :
    (fsum 2#10 1#10 (Os ++ vset (vset (vset Rs i0 d0) i1 d1) i2 d2) = fsum 2#10 1#10 (Os ++ Rs) ^^^ ((vMul d0 x0 ^^^ vMul d1 x1) ^^^ vMul d2 x2)) ∧
    (fsum 4#10 1#10 (Os ++ vset (vset (vset Rs i0 d0) i1 d1) i2 d2) = fsum 4#10 1#10 (Os ++ Rs) ^^^ ((vMul d0 (vMul x0 x0) ^^^ vMul d1 (vMul x1 x1)) ^^^ vMul d2 (vMul x2 x2))) ∧
    (fsum 8#10 1#10 (Os ++ vset (vset (vset Rs i0 d0) i1 d1) i2 d2) = fsum 8#10 1#10 (Os ++ Rs) ^^^ ((vMul d0 (vMul (vMul x0 x0) x0) ^^^ vMul d1 (vMul (vMul x1 x1) x1)) ^^^ vMul d2 (vMul (vMul x2 x2) x2))) := by
  refine ⟨?_, ?_, ?_⟩
  · rw [set3 2#10 Os Rs i0 i1 i2 d0 d1 d2 h0 h1 h2, ← e0, ← e1, ← e2]
  · rw [set3 4#10 Os Rs i0 i1 i2 d0 d1 d2 h0 h1 h2, vpow4, vpow4, vpow4, ← e0, ← e1, ← e2]
  · rw [set3 8#10 Os Rs i0 i1 i2 d0 d1 d2 h0 h1 h2, vpow8, vpow8, vpow8, ← e0, ← e1, ← e2]
theorem det_pow {a b c : Nat} (ha : a ≤ 11) (hb : b ≤ 11) (hc : c ≤ 11) (hab : a ≠ b) (hac : a ≠ c) (hbc : b ≠ c) :
    ∃ z, vMul (vMul (vMul (vMul (vpow 2#10 b) (vpow 2#10 c)) (vpow 2#10 b ^^^ vpow 2#10 c)) (vpow 2#10 a)) (vMul (vpow 2#10 a ^^^ vpow 2#10 b) (vpow 2#10 a ^^^ vpow 2#10 c)) = vpow 2#10 z := by
  obtain ⟨z1, e1⟩ := pow_xor hb hc hbc
  obtain ⟨z2, e2⟩ := pow_xor ha hb hab
  obtain ⟨z3, e3⟩ := pow_xor ha hc hac
  rw [e1, e2, e3, ← vpow_add, ← vpow_add, ← vpow_add, ← vpow_add, ← vpow_add]
  exact ⟨_, rfl⟩
theorem xor_end {s y t : GV} (h : t = y) (e : y = s ^^^ 1#10) : s ^^^ t = 1#10 := by
  rw [h, e, ← BitVec.xor_assoc, BitVec.xor_self, BitVec.zero_xor]
theorem xor_none {s t : GV} (h : s ^^^ t = 1#10) (e : s = 1#10) : t = 0#10 := by
  rw [e] at h
  have h2 : 1#10 ^^^ (1#10 ^^^ t) = 1#10 ^^^ 1#10 := by rw [h]
  rw [← BitVec.xor_assoc, BitVec.xor_self, BitVec.zero_xor] at h2
  exact h2
theorem set_xorAt {R : List Int} {p f : Int} (h : R.getD p.toNat 0 = 0) (hf : Wd f) : R.set p.toNat f = xorAt R p f := by
  unfold xorAt
  rw [h]
  have e : Builtin.bitXor 0 f = f := by
    have := hf.1
    rw [bx_toNat (by decide) this, show (0 : Int).toNat = 0 from rfl, Nat.zero_xor]; omega
  rw [e]
theorem getD_set_other {R : List Int} {p q : Nat} {f : Int} (h : p ≠ q) : (R.set p f).getD q 0 = R.getD q 0 := by
  rw [List.getD_eq_getElem?_getD, List.getElem?_set_ne h, List.getD_eq_getElem?_getD]
theorem e_le {n i : Nat} (h : n ≤ 12) : n - 1 - i ≤ 11 := by omega
theorem e_ne {n i j : Nat} (hi : i < n) (hj : j < n) (h : i ≠ j) : n - 1 - i ≠ n - 1 - j := by omega
theorem M10v (Os Rs : List GV) (i0 i1 i2 : Nat) (h0 : i0 < Rs.length) (h1 : i1 < Rs.length) (h2 : i2 < Rs.length) (h12 : Rs.length ≤ 12) (n01 : i0 ≠ i1) (n02 : i0 ≠ i2) (n12 : i1 ≠ i2)
    {x0 x1 x2 y0 y1 y2 q0 q1 q2 u f0 f1 f2 : GV}
    (e0 : x0 = vpow 2#10 (Rs.length - 1 - i0)) (e1 : x1 = vpow 2#10 (Rs.length - 1 - i1)) (e2 : x2 = vpow 2#10 (Rs.length - 1 - i2))
    (k0 : y0 = fsum 2#10 1#10 (Os ++ Rs) ^^^ 1#10) (k1 : y1 = fsum 4#10 1#10 (Os ++ Rs) ^^^ 1#10) (k2 : y2 = fsum 8#10 1#10 (Os ++ Rs) ^^^ 1#10)
    (hq0 : q0 = vMul (vMul x1 x2) (x1 ^^^ x2)) (hq1 : q1 = vMul (vMul x0 x2) (x0 ^^^ x2)) (hq2 : q2 = vMul (vMul x0 x1) (x0 ^^^ x1))
    (hu : gval u = inverse (gval (vMul (vMul q0 x0) (vMul (x0 ^^^ x1) (x0 ^^^ x2)))))
    (hf0 : f0 = vMul ((y2 ^^^ vMul (x1 ^^^ x2) y1) ^^^ vMul (vMul x1 x2) y0) (vMul q0 u))
    (hf1 : f1 = vMul ((y2 ^^^ vMul (x0 ^^^ x2) y1) ^^^ vMul (vMul x0 x2) y0) (vMul q1 u))
    (hf2 : f2 = vMul ((y2 ^^^ vMul (x0 ^^^ x1) y1) ^^^ vMul (vMul x0 x1) y0) (vMul q2 u)) :
    polymod ((Os ++ vset (vset (vset Rs i0 f0) i1 f1) i2 f2).map gval) = 1 ∧
    ∀ d0 d1 d2 : GV, polymod ((Os ++ vset (vset (vset (vset (vset (vset Rs i0 f0) i1 f1) i2 f2) i0 d0) i1 d1) i2 d2).map gval) = 1 → d0 = 0#10 ∧ d1 = 0#10 ∧ d2 = 0#10 := by
  have hdet : vMul (vMul (vMul (vMul (vMul x1 x2) (x1 ^^^ x2)) x0) (vMul (x0 ^^^ x1) (x0 ^^^ x2))) u = 1#10 := by
    obtain ⟨z, hz⟩ := det_pow (a := Rs.length - 1 - i0) (b := Rs.length - 1 - i1) (c := Rs.length - 1 - i2) (e_le h12) (e_le h12) (e_le h12) (e_ne h0 h1 n01) (e_ne h0 h2 n02) (e_ne h1 h2 n12)
    rw [← e0, ← e1, ← e2] at hz
    rw [hq0, hz, (inverse_pow z).1] at hu
    rw [hz, val_inj hu]
    exact (inverse_pow z).2
  have t := turn3 Os Rs i0 i1 i2 f0 f1 f2 x0 x1 x2 h0 h1 h2 e0 e1 e2
  have v1 := @vd1 GF frg fch x0 x1 x2 y0 y1 y2 u hdet
  have v2 := @vd2 GF frg fch x0 x1 x2 y0 y1 y2 u hdet
  have v3 := @vd3 GF frg fch x0 x1 x2 y0 y1 y2 u hdet
  subst hf0 hf1 hf2
  subst hq0 hq1 hq2
  have w1 := t.1.trans (xor_end v1 k0)
  have w2 := t.2.1.trans (xor_end v2 k1)
  have w3 := t.2.2.trans (xor_end v3 k2)
  refine ⟨(polymod_one _).mpr ⟨w1, w2, w3⟩, ?_⟩
  intro d0 d1 d2 hp
  have p := (polymod_one _).mp hp
  have lens : (vset (vset (vset Rs i0 (vMul ((y2 ^^^ vMul (x1 ^^^ x2) y1) ^^^ vMul (vMul x1 x2) y0) (vMul (vMul (vMul x1 x2) (x1 ^^^ x2)) u))) i1 (vMul ((y2 ^^^ vMul (x0 ^^^ x2) y1) ^^^ vMul (vMul x0 x2) y0) (vMul (vMul (vMul x0 x2) (x0 ^^^ x2)) u))) i2 (vMul ((y2 ^^^ vMul (x0 ^^^ x1) y1) ^^^ vMul (vMul x0 x1) y0) (vMul (vMul (vMul x0 x1) (x0 ^^^ x1)) u))).length = Rs.length := by
    rw [vset_len, vset_len, vset_len]
  generalize (vset (vset (vset Rs i0 (vMul ((y2 ^^^ vMul (x1 ^^^ x2) y1) ^^^ vMul (vMul x1 x2) y0) (vMul (vMul (vMul x1 x2) (x1 ^^^ x2)) u))) i1 (vMul ((y2 ^^^ vMul (x0 ^^^ x2) y1) ^^^ vMul (vMul x0 x2) y0) (vMul (vMul (vMul x0 x2) (x0 ^^^ x2)) u))) i2 (vMul ((y2 ^^^ vMul (x0 ^^^ x1) y1) ^^^ vMul (vMul x0 x1) y0) (vMul (vMul (vMul x0 x1) (x0 ^^^ x1)) u))) = Rt at lens w1 w2 w3 p
  have t2 := turn3 Os Rt i0 i1 i2 d0 d1 d2 x0 x1 x2 (by rw [lens]; exact h0) (by rw [lens]; exact h1) (by rw [lens]; exact h2) (by rw [lens]; exact e0) (by rw [lens]; exact e1) (by rw [lens]; exact e2)
  have r1 := xor_none (t2.1.symm.trans p.1) w1
  have r2 := xor_none (t2.2.1.symm.trans p.2.1) w2
  have r3 := xor_none (t2.2.2.symm.trans p.2.2) w3
  exact @vu GF frg fch x0 x1 x2 d0 d1 d2 u hdet r1 r2 r3
theorem tn_lt {p : Int} {n m : Nat} (h0 : 0 ≤ p) (h : p < (n : Int)) (e : m = n) : p.toNat < m := by omega
theorem tn_ne {p q : Int} (hp : 0 ≤ p) (hq : 0 ≤ q) (h : p ≠ q) : p.toNat ≠ q.toNat := by omega
theorem tn_sub {p : Int} {n m : Nat} (h0 : 0 ≤ p) (e : m = n) : ((n : Int) - 1 - p).toNat = m - 1 - p.toNat := by omega
theorem M10 {cs : Array UInt8} {R : List Int} {p0 p1 p2 x0 x1 x2 y0 y1 y2 q0 q1 q2 u : Int} (hM : M10P cs R p0 p1 p2 x0 x1 x2 y0 y1 y2 q0 q1 q2 u) (hW : ∀ x ∈ R, Wd x) (h12 : R.length ≤ 12)
    (a0 : 0 ≤ p0) (b0 : p0 < R.length) (a1 : 0 ≤ p1) (b1 : p1 < R.length) (a2 : 0 ≤ p2) (b2 : p2 < R.length) :
    M11P cs (filled R p0 p1 p2 x0 x1 x2 y0 y1 y2 q0 q1 q2 u) p0 p1 p2 := by
  obtain ⟨⟨⟨⟨n01, n02, n12⟩, z0, z1, z2⟩, ⟨hx0, hx1, hx2⟩, hy0, hy1, hy2⟩, hq0, hq1, hq2, hu⟩ := hM
  have eO : ((octs cs).map ofI).map gval = octs cs := lift_wd wd_octs
  have eR : (R.map ofI).map gval = R := lift_wd hW
  have lR : (R.map ofI).length = R.length := List.length_map ..
  generalize (octs cs).map ofI = Os at eO
  generalize R.map ofI = Rs at eR lR
  rw [← eO, ← eR, ← List.map_append, gval_sums1] at hy0 hy1 hy2
  rw [← gval_one] at hy0 hy1 hy2
  dsimp only at hy0 hy1 hy2
  rw [val_xor] at hy0 hy1 hy2
  rw [gval_power] at hx0 hx1 hx2
  have i0 : ((R.length : Int) - 1 - p0).toNat = Rs.length - 1 - p0.toNat := tn_sub a0 lR
  have i1 : ((R.length : Int) - 1 - p1).toNat = Rs.length - 1 - p1.toNat := tn_sub a1 lR
  have i2 : ((R.length : Int) - 1 - p2).toNat = Rs.length - 1 - p2.toNat := tn_sub a2 lR
  rw [i0] at hx0
  rw [i1] at hx1
  rw [i2] at hx2
  rw [hx1, hx2, val_times, val_xor, val_times] at hq0
  rw [hx0, hx2, val_times, val_xor, val_times] at hq1
  rw [hx0, hx1, val_times, val_xor, val_times] at hq2
  have hu2 : u = gval (ofI u) := by
    refine (val_ofI ?_).symm
    rw [hu]
    refine Wd.inverse (Wd.times (Wd.times ?_))
    rw [hq0]; exact val_wd _
  rw [hq0, hx0, hx1, hx2, val_times, val_xor, val_xor, val_times, val_times] at hu
  generalize ofI u = U at hu2
  have f0 : fill x1 x2 y0 y1 y2 q0 u = gval (vMul ((fsum 8#10 1#10 (Os ++ Rs) ^^^ 1#10 ^^^ vMul (vpow 2#10 (Rs.length - 1 - p1.toNat) ^^^ vpow 2#10 (Rs.length - 1 - p2.toNat)) (fsum 4#10 1#10 (Os ++ Rs) ^^^ 1#10)) ^^^ vMul (vMul (vpow 2#10 (Rs.length - 1 - p1.toNat)) (vpow 2#10 (Rs.length - 1 - p2.toNat))) (fsum 2#10 1#10 (Os ++ Rs) ^^^ 1#10)) (vMul (vMul (vMul (vpow 2#10 (Rs.length - 1 - p1.toNat)) (vpow 2#10 (Rs.length - 1 - p2.toNat))) (vpow 2#10 (Rs.length - 1 - p1.toNat) ^^^ vpow 2#10 (Rs.length - 1 - p2.toNat))) U)) := by
    unfold fill over
    rw [hq0, hx1, hx2, hy0, hy1, hy2, hu2, val_times, val_xor, val_times, val_xor, val_times, val_times, val_xor, val_times]
  have f1 : fill x0 x2 y0 y1 y2 q1 u = gval (vMul ((fsum 8#10 1#10 (Os ++ Rs) ^^^ 1#10 ^^^ vMul (vpow 2#10 (Rs.length - 1 - p0.toNat) ^^^ vpow 2#10 (Rs.length - 1 - p2.toNat)) (fsum 4#10 1#10 (Os ++ Rs) ^^^ 1#10)) ^^^ vMul (vMul (vpow 2#10 (Rs.length - 1 - p0.toNat)) (vpow 2#10 (Rs.length - 1 - p2.toNat))) (fsum 2#10 1#10 (Os ++ Rs) ^^^ 1#10)) (vMul (vMul (vMul (vpow 2#10 (Rs.length - 1 - p0.toNat)) (vpow 2#10 (Rs.length - 1 - p2.toNat))) (vpow 2#10 (Rs.length - 1 - p0.toNat) ^^^ vpow 2#10 (Rs.length - 1 - p2.toNat))) U)) := by
    unfold fill over
    rw [hq1, hx0, hx2, hy0, hy1, hy2, hu2, val_times, val_xor, val_times, val_xor, val_times, val_times, val_xor, val_times]
  have f2 : fill x0 x1 y0 y1 y2 q2 u = gval (vMul ((fsum 8#10 1#10 (Os ++ Rs) ^^^ 1#10 ^^^ vMul (vpow 2#10 (Rs.length - 1 - p0.toNat) ^^^ vpow 2#10 (Rs.length - 1 - p1.toNat)) (fsum 4#10 1#10 (Os ++ Rs) ^^^ 1#10)) ^^^ vMul (vMul (vpow 2#10 (Rs.length - 1 - p0.toNat)) (vpow 2#10 (Rs.length - 1 - p1.toNat))) (fsum 2#10 1#10 (Os ++ Rs) ^^^ 1#10)) (vMul (vMul (vMul (vpow 2#10 (Rs.length - 1 - p0.toNat)) (vpow 2#10 (Rs.length - 1 - p1.toNat))) (vpow 2#10 (Rs.length - 1 - p0.toNat) ^^^ vpow 2#10 (Rs.length - 1 - p1.toNat))) U)) := by
    unfold fill over
    rw [hq2, hx0, hx1, hy0, hy1, hy2, hu2, val_times, val_xor, val_times, val_xor, val_times, val_times, val_xor, val_times]
  have m := M10v Os Rs p0.toNat p1.toNat p2.toNat (tn_lt a0 b0 lR) (tn_lt a1 b1 lR) (tn_lt a2 b2 lR) (lR ▸ h12) (tn_ne a0 a1 n01) (tn_ne a0 a2 n02) (tn_ne a1 a2 n12) rfl rfl rfl rfl rfl rfl rfl rfl rfl (hu2.symm.trans hu) rfl rfl rfl
  have eF : filled R p0 p1 p2 x0 x1 x2 y0 y1 y2 q0 q1 q2 u = xorAt (xorAt (xorAt R p0 (fill x1 x2 y0 y1 y2 q0 u)) p1 (fill x0 x2 y0 y1 y2 q1 u)) p2 (fill x0 x1 y0 y1 y2 q2 u) := by
    unfold filled
    have n1 := tn_ne a0 a1 n01
    have n2 := tn_ne a0 a2 n02
    have n3 := tn_ne a1 a2 n12
    rw [set_xorAt (p := p2) (by rw [getD_set_other n3, getD_set_other n2, z2]) (by rw [f2]; exact val_wd _), set_xorAt (p := p1) (by rw [getD_set_other n1, z1]) (by rw [f1]; exact val_wd _), set_xorAt z0 (by rw [f0]; exact val_wd _)]
  rw [eF, f0, f1, f2]
  refine ⟨?_, ?_⟩
  · rw [← eR, gval_xorAt, gval_xorAt, gval_xorAt, ← eO, ← List.map_append]
    exact m.1
  · intro d0 d1 d2 w0 w1 w2 hp
    rw [← eR, gval_xorAt, gval_xorAt, gval_xorAt, ← eO, ← val_ofI w0, ← val_ofI w1, ← val_ofI w2, gval_xorAt, gval_xorAt, gval_xorAt, ← List.map_append] at hp
    have r := m.2 _ _ _ hp
    refine ⟨?_, ?_, ?_⟩
    · rw [← val_ofI w0, r.1]; rfl
    · rw [← val_ofI w1, r.2.1]; rfl
    · rw [← val_ofI w2, r.2.2]; rfl
theorem pk_part (t : GV × GV × GV) (i : Nat) : Builtin.bitAnd ((gpk t).fdiv (2 ^ (10 * i))) 1023 = if i = 0 then gval t.2.2 else if i = 1 then gval t.2.1 else if i = 2 then gval t.1 else Builtin.bitAnd ((gpk t).fdiv (2 ^ (10 * i))) 1023 := by
  obtain ⟨a, b, c⟩ := t
  have ha := a.isLt; have hb := b.isLt; have hc := c.isLt
  have go : ∀ x : Nat, Builtin.bitAnd (x : Int) 1023 = ((x % 1024 : Nat) : Int) := fun x => by
    rw [PyProof.Rows.bitAnd_pp (Int.natCast_nonneg _) (by decide), Int.toNat_natCast]
    rw [show (1023 : Int).toNat = 2 ^ 10 - 1 from rfl, Nat.and_two_pow_sub_one_eq_mod]
  have fd : ∀ k : Nat, (gpk (a, b, c)).fdiv (2 ^ k) = ((pkN a.toNat b.toNat c.toNat / 2 ^ k : Nat) : Int) := fun k => by
    unfold gpk
    rw [Int.fdiv_eq_ediv_of_nonneg _ (Int.le_of_lt (Int.pow_pos (by decide)))]
    norm_cast
  by_cases i0 : i = 0
  · subst i0
    rw [if_pos rfl, fd, go]
    unfold gval pkN
    dsimp only
    omega
  · rw [if_neg i0]
    by_cases i1 : i = 1
    · subst i1
      rw [if_pos rfl, fd, go]
      unfold gval pkN
      dsimp only
      omega
    · rw [if_neg i1]
      by_cases i2 : i = 2
      · subst i2
        rw [if_pos rfl, fd, go]
        unfold gval pkN
        dsimp only
        omega
      · rw [if_neg i2]
theorem MC {cs : Array UInt8} {W : List Int} (hW : ∀ x ∈ W, Wd x) : sums (octs cs ++ W ++ [chk cs W 2, chk cs W 1, chk cs W 0]) = (1, 1, 1) ∧ Wd (chk cs W 2) ∧ Wd (chk cs W 1) ∧ Wd (chk cs W 0) := by
  have eA : ((octs cs ++ W).map ofI).map gval = octs cs ++ W := lift_wd (wd_app wd_octs hW)
  generalize (octs cs ++ W).map ofI = As at eA
  have eP : Builtin.bitXor (polymod (octs cs ++ W ++ [0, 0, 0])) 1 = gpk (txor (pmT (As ++ [0#10, 0#10, 0#10])) (0#10, 0#10, 1#10)) := by
    rw [← gpk_xor, ← gval_polymod, List.map_append, eA]; rfl
  have q := ev_pmT (As ++ [0#10, 0#10, 0#10])
  generalize pmT (As ++ [0#10, 0#10, 0#10]) = t at eP q
  have c2 : chk cs W 2 = gval t.1 := by
    unfold chk; rw [eP, pk_part]
    show gval (t.1 ^^^ 0#10) = gval t.1
    rw [BitVec.xor_zero]
  have c1 : chk cs W 1 = gval t.2.1 := by
    unfold chk; rw [eP, pk_part]
    show gval (t.2.1 ^^^ 0#10) = gval t.2.1
    rw [BitVec.xor_zero]
  have c0 : chk cs W 0 = gval (t.2.2 ^^^ 1#10) := by
    unfold chk; rw [eP, pk_part]; rfl
  refine ⟨?_, by rw [c2]; exact val_wd _, by rw [c1]; exact val_wd _, by rw [c0]; exact val_wd _⟩
  rw [c2, c1, c0, ← eA, show [gval t.1, gval t.2.1, gval (t.2.2 ^^^ 1#10)] = [t.1, t.2.1, t.2.2 ^^^ 1#10].map gval from rfl, ← List.map_append, gval_sums1]
  have go : ∀ b : GV, ev b t = fsum b 1#10 (As ++ [0#10, 0#10, 0#10]) → fsum b 1#10 (As ++ [t.1, t.2.1, t.2.2 ^^^ 1#10]) = 1#10 := by
    intro b h
    rw [fsum_app] at h ⊢
    exact @ends GF frg fch b (fsum b 1#10 As) t.1 t.2.1 t.2.2 h.symm
  rw [go _ q.1, go _ q.2.1, go _ q.2.2]
  rfl
theorem MCw {cs : Array UInt8} {W : List Int} (hW : ∀ x ∈ W, Wd x) : (∀ x ∈ octs cs ++ W ++ [chk cs W 2, chk cs W 1, chk cs W 0], Wd x) ∧ sums (octs cs ++ W ++ [chk cs W 2, chk cs W 1, chk cs W 0]) = (1, 1, 1) := by
  have m := MC (cs := cs) hW
  refine ⟨wd_app (wd_app wd_octs hW) ?_, m.1⟩
  intro x hx
  simp only [List.mem_cons, List.not_mem_nil, or_false] at hx
  rcases hx with rfl | rfl | rfl
  · exact m.2.1
  · exact m.2.2.1
  · exact m.2.2.2
theorem wd_take {R : List Int} {k : Nat} (h : ∀ x ∈ R, Wd x) : ∀ x ∈ R.take k, Wd x := fun x hx => h x (List.mem_of_mem_take hx)
end Mine
end
section
namespace Mine
theorem wd_getD {X : List Int} {i : Nat} (h : ∀ x ∈ X, Wd x) : Wd (X.getD i 0) := by
  rw [List.getD_eq_getElem?_getD]
  by_cases hi : i < X.length
  · rw [List.getElem?_eq_getElem hi]; exact h _ (List.getElem_mem hi)
  · rw [List.getElem?_eq_none (by omega)]; exact Wd.zero
theorem wd_xorAt {X : List Int} {p d : Int} (h : ∀ x ∈ X, Wd x) (hd : Wd d) : ∀ x ∈ xorAt X p d, Wd x := wd_set h ((wd_getD h).xor hd)
theorem xorAt_zero {X : List Int} {p : Int} (h : ∀ x ∈ X, Wd x) : xorAt X p 0 = X := by
  unfold xorAt
  have e : ∀ x : Int, 0 ≤ x → Builtin.bitXor x 0 = x := fun x hx => by
    rw [bx_toNat hx (by decide), show (0 : Int).toNat = 0 from rfl, Nat.xor_zero]; omega
  rw [e _ (wd_getD h).1]
  by_cases hi : p.toNat < X.length
  · rw [List.getD_eq_getElem?_getD, List.getElem?_eq_getElem hi]
    exact List.set_getElem_self hi
  · exact List.set_eq_of_length_le (by omega)
def turned (u : Int) : Int := 1 + u.fmod 1023
theorem turned_wd (u : Int) : Wd (turned u) := by
  unfold turned Wd
  rw [Int.fmod_eq_emod_of_nonneg u (by omega)]; omega
theorem turned_ne (u : Int) : turned u ≠ 0 := by
  unfold turned
  rw [Int.fmod_eq_emod_of_nonneg u (by omega)]; omega
theorem told_core {cs : Array UInt8} {R : List Int} {p0 p1 p2 d0 d1 d2 mk : Int} (hM : M11P cs R p0 p1 p2) (hW : ∀ x ∈ R, Wd x) (w0 : Wd d0) (w1 : Wd d1) (w2 : Wd d2) (h : (d0 = 0 ∧ d1 = 0 ∧ d2 = 0) ↔ mk = 0) :
    (polymod (octs cs ++ xorAt (xorAt (xorAt R p0 d0) p1 d1) p2 d2) == 1) = (mk == 0) := by
  by_cases hz : mk = 0
  · obtain ⟨z0, z1, z2⟩ := h.mpr hz
    rw [z0, z1, z2, xorAt_zero hW, xorAt_zero hW, xorAt_zero hW, hM.1, hz]; rfl
  · have q : polymod (octs cs ++ xorAt (xorAt (xorAt R p0 d0) p1 d1) p2 d2) ≠ 1 := fun e => hz (h.mp (hM.2 d0 d1 d2 w0 w1 w2 e))
    rw [beq_eq_false_iff_ne.mpr q, beq_eq_false_iff_ne.mpr hz]
theorem fm8 (m : Int) : 0 ≤ m.fmod 8 ∧ m.fmod 8 < 8 := by
  rw [Int.fmod_eq_emod_of_nonneg m (by omega)]; omega
theorem bitof0 (m : Int) : (m.fdiv (2 ^ (0 + ((0 : Nat) : Int)).toNat)).fmod 2 = m % 2 := by
  show (m.fdiv (2 ^ 0)).fmod 2 = m % 2
  rw [Int.fmod_eq_emod_of_nonneg _ (by decide), Int.fdiv_eq_ediv_of_nonneg _ (by decide)]; omega
theorem bitof1 (m : Int) : (m.fdiv (2 ^ (0 + ((0 + 1 : Nat) : Int)).toNat)).fmod 2 = m / 2 % 2 := by
  show (m.fdiv (2 ^ 1)).fmod 2 = m / 2 % 2
  rw [Int.fmod_eq_emod_of_nonneg _ (by decide), Int.fdiv_eq_ediv_of_nonneg _ (by decide)]; omega
theorem bitof2 (m : Int) : (m.fdiv (2 ^ (0 + ((0 + 1 + 1 : Nat) : Int)).toNat)).fmod 2 = m / 4 % 2 := by
  show (m.fdiv (2 ^ 2)).fmod 2 = m / 4 % 2
  rw [Int.fmod_eq_emod_of_nonneg _ (by decide), Int.fdiv_eq_ediv_of_nonneg _ (by decide)]; omega
theorem fr_pick3 {h₀ h : Heap} {L : Addr} {m : Str → Option Value} {a b c : Str} {va vb vc : Value} (F : Fr h₀ L h m) (ha : m a = some va) (hb : m b = some vb) (hc : m c = some vc) :
    Fr h₀ L h (fun y => if y = a then some va else if y = b then some vb else if y = c then some vc else m y) := by
  have e : (fun y => if y = a then some va else if y = b then some vb else if y = c then some vc else m y) = m := by
    funext y
    by_cases h1 : y = a
    · rw [if_pos h1, h1, ha]
    · rw [if_neg h1]
      by_cases h2 : y = b
      · rw [if_pos h2, h2, hb]
      · rw [if_neg h2]
        by_cases h3 : y = c
        · rw [if_pos h3, h3, hc]
        · rw [if_neg h3]
  rw [e]; exact F
theorem told_iff {d0 d1 d2 m : Int} (r : 0 ≤ m ∧ m < 8) (h0 : d0 = 0 ↔ m % 2 = 0) (h1 : d1 = 0 ↔ m / 2 % 2 = 0) (h2 : d2 = 0 ↔ m / 4 % 2 = 0) : (d0 = 0 ∧ d1 = 0 ∧ d2 = 0) ↔ m = 0 := by
  rw [h0, h1, h2]; omega
theorem told000 {cs : Array UInt8} {R : List Int} {p0 p1 p2 m  : Int} (hM : M11P cs R p0 p1 p2) (hW : ∀ x ∈ R, Wd x) (f0 : ((m.fmod 8).fdiv (2 ^ (0 + ((0 : Nat) : Int)).toNat)).fmod 2 = 0) (f1 : ((m.fmod 8).fdiv (2 ^ (0 + ((0 + 1 : Nat) : Int)).toNat)).fmod 2 = 0) (f2 : ((m.fmod 8).fdiv (2 ^ (0 + ((0 + 1 + 1 : Nat) : Int)).toNat)).fmod 2 = 0) :
    (polymod (octs cs ++ R) == 1) = (m.fmod 8 == 0) := by
  rw [bitof0] at f0
  rw [bitof1] at f1
  rw [bitof2] at f2
  have r := fm8 m
  have q := told_core (d0 := 0) (d1 := 0) (d2 := 0) (mk := m.fmod 8) hM hW Wd.zero Wd.zero Wd.zero (told_iff r (iff_of_true rfl f0) (iff_of_true rfl f1) (iff_of_true rfl f2))
  rw [xorAt_zero hW, xorAt_zero hW, xorAt_zero hW] at q
  exact q
theorem told100 {cs : Array UInt8} {R : List Int} {p0 p1 p2 m u0 : Int} (hM : M11P cs R p0 p1 p2) (hW : ∀ x ∈ R, Wd x) (f0 : ((m.fmod 8).fdiv (2 ^ (0 + ((0 : Nat) : Int)).toNat)).fmod 2 ≠ 0) (f1 : ((m.fmod 8).fdiv (2 ^ (0 + ((0 + 1 : Nat) : Int)).toNat)).fmod 2 = 0) (f2 : ((m.fmod 8).fdiv (2 ^ (0 + ((0 + 1 + 1 : Nat) : Int)).toNat)).fmod 2 = 0) :
    (polymod (octs cs ++ (R.set p0.toNat (Builtin.bitXor (R.getD p0.toNat 0) (1 + u0.fmod 1023)))) == 1) = (m.fmod 8 == 0) := by
  rw [bitof0] at f0
  rw [bitof1] at f1
  rw [bitof2] at f2
  have r := fm8 m
  have q := told_core (d0 := (turned u0)) (d1 := 0) (d2 := 0) (mk := m.fmod 8) hM hW (turned_wd u0) Wd.zero Wd.zero (told_iff r (iff_of_false (turned_ne u0) f0) (iff_of_true rfl f1) (iff_of_true rfl f2))
  rw [xorAt_zero (wd_xorAt hW (turned_wd u0)), xorAt_zero (wd_xorAt hW (turned_wd u0))] at q
  exact q
theorem told010 {cs : Array UInt8} {R : List Int} {p0 p1 p2 m u1 : Int} (hM : M11P cs R p0 p1 p2) (hW : ∀ x ∈ R, Wd x) (f0 : ((m.fmod 8).fdiv (2 ^ (0 + ((0 : Nat) : Int)).toNat)).fmod 2 = 0) (f1 : ((m.fmod 8).fdiv (2 ^ (0 + ((0 + 1 : Nat) : Int)).toNat)).fmod 2 ≠ 0) (f2 : ((m.fmod 8).fdiv (2 ^ (0 + ((0 + 1 + 1 : Nat) : Int)).toNat)).fmod 2 = 0) :
    (polymod (octs cs ++ (R.set p1.toNat (Builtin.bitXor (R.getD p1.toNat 0) (1 + u1.fmod 1023)))) == 1) = (m.fmod 8 == 0) := by
  rw [bitof0] at f0
  rw [bitof1] at f1
  rw [bitof2] at f2
  have r := fm8 m
  have q := told_core (d0 := 0) (d1 := (turned u1)) (d2 := 0) (mk := m.fmod 8) hM hW Wd.zero (turned_wd u1) Wd.zero (told_iff r (iff_of_true rfl f0) (iff_of_false (turned_ne u1) f1) (iff_of_true rfl f2))
  rw [xorAt_zero hW, xorAt_zero (wd_xorAt hW (turned_wd u1))] at q
  exact q
theorem told110 {cs : Array UInt8} {R : List Int} {p0 p1 p2 m u0 u1 : Int} (hM : M11P cs R p0 p1 p2) (hW : ∀ x ∈ R, Wd x) (f0 : ((m.fmod 8).fdiv (2 ^ (0 + ((0 : Nat) : Int)).toNat)).fmod 2 ≠ 0) (f1 : ((m.fmod 8).fdiv (2 ^ (0 + ((0 + 1 : Nat) : Int)).toNat)).fmod 2 ≠ 0) (f2 : ((m.fmod 8).fdiv (2 ^ (0 + ((0 + 1 + 1 : Nat) : Int)).toNat)).fmod 2 = 0) :
    (polymod (octs cs ++ ((R.set p0.toNat (Builtin.bitXor (R.getD p0.toNat 0) (1 + u0.fmod 1023))).set p1.toNat (Builtin.bitXor ((R.set p0.toNat (Builtin.bitXor (R.getD p0.toNat 0) (1 + u0.fmod 1023))).getD p1.toNat 0) (1 + u1.fmod 1023)))) == 1) = (m.fmod 8 == 0) := by
  rw [bitof0] at f0
  rw [bitof1] at f1
  rw [bitof2] at f2
  have r := fm8 m
  have q := told_core (d0 := (turned u0)) (d1 := (turned u1)) (d2 := 0) (mk := m.fmod 8) hM hW (turned_wd u0) (turned_wd u1) Wd.zero (told_iff r (iff_of_false (turned_ne u0) f0) (iff_of_false (turned_ne u1) f1) (iff_of_true rfl f2))
  rw [xorAt_zero (wd_xorAt (wd_xorAt hW (turned_wd u0)) (turned_wd u1))] at q
  exact q
theorem told001 {cs : Array UInt8} {R : List Int} {p0 p1 p2 m u2 : Int} (hM : M11P cs R p0 p1 p2) (hW : ∀ x ∈ R, Wd x) (f0 : ((m.fmod 8).fdiv (2 ^ (0 + ((0 : Nat) : Int)).toNat)).fmod 2 = 0) (f1 : ((m.fmod 8).fdiv (2 ^ (0 + ((0 + 1 : Nat) : Int)).toNat)).fmod 2 = 0) (f2 : ((m.fmod 8).fdiv (2 ^ (0 + ((0 + 1 + 1 : Nat) : Int)).toNat)).fmod 2 ≠ 0) :
    (polymod (octs cs ++ (R.set p2.toNat (Builtin.bitXor (R.getD p2.toNat 0) (1 + u2.fmod 1023)))) == 1) = (m.fmod 8 == 0) := by
  rw [bitof0] at f0
  rw [bitof1] at f1
  rw [bitof2] at f2
  have r := fm8 m
  have q := told_core (d0 := 0) (d1 := 0) (d2 := (turned u2)) (mk := m.fmod 8) hM hW Wd.zero Wd.zero (turned_wd u2) (told_iff r (iff_of_true rfl f0) (iff_of_true rfl f1) (iff_of_false (turned_ne u2) f2))
  rw [xorAt_zero hW, xorAt_zero hW] at q
  exact q
theorem told101 {cs : Array UInt8} {R : List Int} {p0 p1 p2 m u0 u2 : Int} (hM : M11P cs R p0 p1 p2) (hW : ∀ x ∈ R, Wd x) (f0 : ((m.fmod 8).fdiv (2 ^ (0 + ((0 : Nat) : Int)).toNat)).fmod 2 ≠ 0) (f1 : ((m.fmod 8).fdiv (2 ^ (0 + ((0 + 1 : Nat) : Int)).toNat)).fmod 2 = 0) (f2 : ((m.fmod 8).fdiv (2 ^ (0 + ((0 + 1 + 1 : Nat) : Int)).toNat)).fmod 2 ≠ 0) :
    (polymod (octs cs ++ ((R.set p0.toNat (Builtin.bitXor (R.getD p0.toNat 0) (1 + u0.fmod 1023))).set p2.toNat (Builtin.bitXor ((R.set p0.toNat (Builtin.bitXor (R.getD p0.toNat 0) (1 + u0.fmod 1023))).getD p2.toNat 0) (1 + u2.fmod 1023)))) == 1) = (m.fmod 8 == 0) := by
  rw [bitof0] at f0
  rw [bitof1] at f1
  rw [bitof2] at f2
  have r := fm8 m
  have q := told_core (d0 := (turned u0)) (d1 := 0) (d2 := (turned u2)) (mk := m.fmod 8) hM hW (turned_wd u0) Wd.zero (turned_wd u2) (told_iff r (iff_of_false (turned_ne u0) f0) (iff_of_true rfl f1) (iff_of_false (turned_ne u2) f2))
  rw [xorAt_zero (wd_xorAt hW (turned_wd u0))] at q
  exact q
theorem told011 {cs : Array UInt8} {R : List Int} {p0 p1 p2 m u1 u2 : Int} (hM : M11P cs R p0 p1 p2) (hW : ∀ x ∈ R, Wd x) (f0 : ((m.fmod 8).fdiv (2 ^ (0 + ((0 : Nat) : Int)).toNat)).fmod 2 = 0) (f1 : ((m.fmod 8).fdiv (2 ^ (0 + ((0 + 1 : Nat) : Int)).toNat)).fmod 2 ≠ 0) (f2 : ((m.fmod 8).fdiv (2 ^ (0 + ((0 + 1 + 1 : Nat) : Int)).toNat)).fmod 2 ≠ 0) :
    (polymod (octs cs ++ ((R.set p1.toNat (Builtin.bitXor (R.getD p1.toNat 0) (1 + u1.fmod 1023))).set p2.toNat (Builtin.bitXor ((R.set p1.toNat (Builtin.bitXor (R.getD p1.toNat 0) (1 + u1.fmod 1023))).getD p2.toNat 0) (1 + u2.fmod 1023)))) == 1) = (m.fmod 8 == 0) := by
  rw [bitof0] at f0
  rw [bitof1] at f1
  rw [bitof2] at f2
  have r := fm8 m
  have q := told_core (d0 := 0) (d1 := (turned u1)) (d2 := (turned u2)) (mk := m.fmod 8) hM hW Wd.zero (turned_wd u1) (turned_wd u2) (told_iff r (iff_of_true rfl f0) (iff_of_false (turned_ne u1) f1) (iff_of_false (turned_ne u2) f2))
  rw [xorAt_zero hW] at q
  exact q
theorem told111 {cs : Array UInt8} {R : List Int} {p0 p1 p2 m u0 u1 u2 : Int} (hM : M11P cs R p0 p1 p2) (hW : ∀ x ∈ R, Wd x) (f0 : ((m.fmod 8).fdiv (2 ^ (0 + ((0 : Nat) : Int)).toNat)).fmod 2 ≠ 0) (f1 : ((m.fmod 8).fdiv (2 ^ (0 + ((0 + 1 : Nat) : Int)).toNat)).fmod 2 ≠ 0) (f2 : ((m.fmod 8).fdiv (2 ^ (0 + ((0 + 1 + 1 : Nat) : Int)).toNat)).fmod 2 ≠ 0) :
    (polymod (octs cs ++ (((R.set p0.toNat (Builtin.bitXor (R.getD p0.toNat 0) (1 + u0.fmod 1023))).set p1.toNat (Builtin.bitXor ((R.set p0.toNat (Builtin.bitXor (R.getD p0.toNat 0) (1 + u0.fmod 1023))).getD p1.toNat 0) (1 + u1.fmod 1023))).set p2.toNat (Builtin.bitXor (((R.set p0.toNat (Builtin.bitXor (R.getD p0.toNat 0) (1 + u0.fmod 1023))).set p1.toNat (Builtin.bitXor ((R.set p0.toNat (Builtin.bitXor (R.getD p0.toNat 0) (1 + u0.fmod 1023))).getD p1.toNat 0) (1 + u1.fmod 1023))).getD p2.toNat 0) (1 + u2.fmod 1023)))) == 1) = (m.fmod 8 == 0) := by
  rw [bitof0] at f0
  rw [bitof1] at f1
  rw [bitof2] at f2
  have r := fm8 m
  have q := told_core (d0 := (turned u0)) (d1 := (turned u1)) (d2 := (turned u2)) (mk := m.fmod 8) hM hW (turned_wd u0) (turned_wd u1) (turned_wd u2) (told_iff r (iff_of_false (turned_ne u0) f0) (iff_of_false (turned_ne u1) f1) (iff_of_false (turned_ne u2) f2))
  exact q
end Mine
end
section
open PySem PySem.W PyProof.Rows PySem.Spec PySem.Calls PyProof.Rows.LCg
namespace Mine
section
variable {prog : Program} {w : World} {A : Around} {E : Value → Shared → Prop} {s : Shared} {h₀ : Heap} {L : Addr} {m : Str → Option Value} {env : Env}
theorem go_tupleiter {elts : List PySem.Expr} {x1} {pos : Pos} {I l T : Addr} {i : Nat} {Q : Unit → Shared → Prop} (hit : s.heap.IsTupleIter I l i) (hQ : Q () s) :
    wpAny (model prog w) A (letOwnedTupleGo (.Tuple elts x1 pos) (.ref I) (.ref T)) Q E s := by
  obtain ⟨o, ho, hc, hd⟩ := hit
  unfold letOwnedTupleGo
  refine wpAny_bind (wpAny_load ho ?_)
  rw [hc, hd]
  show wpAny _ A (if (["enumerate", "zip", "dict_itemiterator", "dict_reverseitemiterator", "odict_iterator", "itertools.zip_longest", "itertools.pairwise"].contains "tuple_iterator" && _) = true then _ else _) Q E s
  rw [if_neg (by
    intro h
    rw [show (["enumerate", "zip", "dict_itemiterator", "dict_reverseitemiterator", "odict_iterator", "itertools.zip_longest", "itertools.pairwise"].contains "tuple_iterator") = false from by decide, Bool.false_and] at h
    cases h)]
  exact wpAny_pure hQ

/-- the source: a tuple of the ledger's, its items pairs of the ledger's -/
def TupSrc (prog : Program) (w : World) (A : Around) (h₀ : Heap) (L : Addr) (m : Str → Option Value) (env : Env) (elt : PySem.Expr) (x x₂ : Str) (scope : Scope) (cl : List (Str × Addr)) (Fin : Shared → List Value → List (Addr × Obj) → Prop) (xv : Value) (s₁ : Shared) : Prop :=
  ∃ ax its n news, xv = .ref ax ∧ A.handled = none ∧ Fr h₀ L s₁.heap m ∧ News h₀ L s₁.heap news ∧ (ax, ({ cls := .type "tuple", data := .seq its n } : Obj)) ∈ news ∧ its.size ≤ sizeLine ∧
    ∀ s₂ : Shared, (∃ h, s₂ = { s₁ with heap := h }) → LCp.CompRestP prog w A h₀ L m env elt x x₂ scope cl s₂ (fun nw => (ax, ({ cls := .type "tuple", data := .seq its n } : Obj)) ∈ nw) (fun i v => its[i]? = some v) (Fin s₂) its.size 0 [] news
theorem TupSrc.ledger {elt : PySem.Expr} {x x₂ : Str} {scope : Scope} {cl : List (Str × Addr)} {Fin : Shared → List Value → List (Addr × Obj) → Prop} {ax : Addr} {its : Array Value} {k : Nat} {news : List (Addr × Obj)} {s₁ : Shared}
    (hh : A.handled = none) (F : Fr h₀ L s₁.heap m) (N : News h₀ L s₁.heap news) (hm : (ax, ({ cls := .type "tuple", data := .seq its k } : Obj)) ∈ news) (hsz : its.size ≤ sizeLine)
    (h : ∀ g, LCp.CompRestP prog w A h₀ L m env elt x x₂ scope cl { s₁ with heap := g } (fun nw => (ax, ({ cls := .type "tuple", data := .seq its k } : Obj)) ∈ nw) (fun i v => its[i]? = some v) (Fin { s₁ with heap := g }) its.size 0 [] news) :
    TupSrc prog w A h₀ L m env elt x x₂ scope cl Fin (.ref ax) s₁ := ⟨ax, its, k, news, rfl, hh, F, N, hm, hsz, fun _ ⟨g, e⟩ => e ▸ h g⟩

theorem blockT {elt iter : PySem.Expr} {x x₂ : Str} {px px₂ tp : Pos} {tk} {scope : Scope} {cl : List (Str × Addr)} {pos : Pos} {s₂ : Shared} {I ax : Addr} {its : Array Value} {nt₀ : Nat} {news : List (Addr × Obj)}
    {Fin : List Value → List (Addr × Obj) → Prop} {RR : Value → Addr → Result → Shared → Prop}
    (hne : ax ≠ I) (hsz : its.size ≤ sizeLine) (hcell : ∀ y ∈ scope.names, y.2 ≠ .cell) (hkind : scope.kind = .function) (hx : scope.names.lookup x = some .local) (hx₂ : scope.names.lookup x₂ = some .local) (hxx : x ≠ x₂) (hh : A.handled = none)
    (hst : s₂.heap.IsTupleIter I ax 0) (hlt : I < s₂.heap.objs.size)
    (F : Fr h₀ L s₂.heap m) (N : News h₀ L s₂.heap news) (hIL : L ≠ I) (hI₀ : h₀.get? I = none) (off : ∀ p ∈ news, p.1 ≠ I) (hS : (ax, ({ cls := .type "tuple", data := .seq its nt₀ } : Obj)) ∈ news)
    (R : LCp.CompRestP prog w A h₀ L m env elt x x₂ scope cl s₂ (fun nw => (ax, ({ cls := .type "tuple", data := .seq its nt₀ } : Obj)) ∈ nw) (fun i v => its[i]? = some v) Fin its.size 0 [] news)
    (hRR : ∀ D C h tk m' ys news', Fr h₀ L h m → News h₀ L h ((D, lst ys) :: news') → Off1 D news' → h.Ns C m' → h₀.get? C = none → h₀.get? D = none → C ≠ L → D ≠ L → C ≠ D → (∀ p ∈ news', p.1 ≠ C) → Fin ys news' → RR (.ref D) C (.ok .next) { s₂ with heap := h, toks := tk }) :
    wpAny (model prog w) A (newList []) (fun acc s₃ => wpAny (model prog w) A (newFunctionEnv scope env.globals cl [] env.qual none .none (some env)) (fun cenv s₄ =>
      codeAny (model prog w) A (.compStart (.ListComp elt [⟨.Tuple [.Name x px, .Name x₂ px₂] tk tp, iter, [], 0⟩] scope pos) 0 (.ref I) acc { cenv with scope := relabel scope env }) (RR acc cenv.locals) s₄) E s₃) E s₂ := by
  have W := Walks.tuple (prog := prog) (w := w) (A := A) hh I ax hne its
  refine wpAny_newObj_type (wpAny_newFunctionEnv hcell (by intro y hy; simp at hy) (fun h₁ hns₁ hsb₁ => ?_) hkind)
  dsimp only at hns₁ hsb₁ ⊢
  generalize hH : s₂.heap.push { cls := .type "list", dict := none, data := .seq ([] : List Value).toArray } = H at hns₁ hsb₁ ⊢
  have hC : H.objs.size = s₂.heap.objs.size + 1 := by rw [← hH, Heap.size_push]
  have dlt : ∀ b o, s₂.heap.get? b = some o → b < s₂.heap.objs.size := fun b o e => Heap.lt_size e
  have old : ∀ b o, s₂.heap.get? b = some o → h₁.get? b = some o := fun b o e =>
    hsb₁.extBut b o (by rw [hC]; exact Nat.ne_of_lt (Nat.lt_succ_of_lt (dlt b o e))) (Heap.get?_push_of_some _ (hH ▸ Heap.get?_push_of_some _ e))
  have hDC : s₂.heap.objs.size ≠ H.objs.size := by rw [hC]; exact Nat.ne_of_lt (Nat.lt_succ_self _)
  have hIC : I ≠ H.objs.size := by rw [hC]; exact Nat.ne_of_lt (Nat.lt_succ_of_lt hlt)
  have hID : I ≠ s₂.heap.objs.size := Nat.ne_of_lt hlt
  have hD1 : h₁.get? s₂.heap.objs.size = some (lst []) := hsb₁.extBut _ _ hDC (Heap.get?_push_of_some _ (hH ▸ Heap.get?_push_size _ rfl))
  have none₂ : ∀ a, s₂.heap.objs.size ≤ a → h₀.get? a = none := fun a ha => by
    cases e : h₀.get? a with
    | none => rfl
    | some o => exact absurd (Nat.lt_of_lt_of_le (dlt a o (F.keep a o e)) ha) (Nat.lt_irrefl _)
  have hD₀ : h₀.get? s₂.heap.objs.size = none := none₂ s₂.heap.objs.size (Nat.le_refl _)
  have hC₀ : h₀.get? H.objs.size = none := none₂ H.objs.size (by rw [hC]; exact Nat.le_succ _)
  have hLD : L < s₂.heap.objs.size := F.ns.lt
  have hDL : s₂.heap.objs.size ≠ L := Nat.ne_of_gt hLD
  have hCL : H.objs.size ≠ L := by rw [hC]; exact Nat.ne_of_gt (Nat.lt_succ_of_lt hLD)
  have nlt : ∀ p ∈ news, p.1 < s₂.heap.objs.size := fun p hp => dlt _ _ (N p hp).1
  have off₀ : Off3 I H.objs.size s₂.heap.objs.size news := Off3.of fun p hp => ⟨off p hp, by rw [hC]; exact Nat.ne_of_lt (Nat.lt_succ_of_lt (nlt p hp)), Nat.ne_of_lt (nlt p hp)⟩
  have tupOf : ∀ {h : Heap} {nw : List (Addr × Obj)}, News h₀ L h nw → (ax, ({ cls := .type "tuple", data := .seq its nt₀ } : Obj)) ∈ nw → h.IsTuple ax its := fun N' hm => ⟨_, (N' _ hm).1, rfl, _, rfl⟩
  have loop : ∀ s₃ : Shared, s₃ = { s₂ with heap := h₁, toks := s₂.toks + ([] : List (Str × Value)).length } →
      codeAny (model prog w) A (.compLoop (.ListComp elt [⟨.Tuple [.Name x px, .Name x₂ px₂] tk tp, iter, [], 0⟩] scope pos) 0 (.ref I) (.ref s₂.heap.objs.size) (compEnvC scope cl H.objs.size env)) (RR (.ref s₂.heap.objs.size) H.objs.size) s₃ := by
    rintro s₃ rfl
    refine LCp.codeAny_compLoop_pair
      (fun k s' => ∃ h' tk i ys m' nw, s' = { s₂ with heap := h', toks := tk } ∧ i ≤ its.size ∧ k = its.size + 1 - i ∧ ys.length = i ∧ h'.IsTupleIter I ax i ∧ Fr h₀ L h' m ∧ h'.Ns H.objs.size m' ∧ News h₀ L h' ((s₂.heap.objs.size, lst ys) :: nw) ∧
        Off3 I H.objs.size s₂.heap.objs.size nw ∧ (ax, ({ cls := .type "tuple", data := .seq its nt₀ } : Obj)) ∈ nw ∧ LCp.CompRestP prog w A h₀ L m env elt x x₂ scope cl s₂ (fun nw => (ax, ({ cls := .type "tuple", data := .seq its nt₀ } : Obj)) ∈ nw) (fun i v => its[i]? = some v) Fin (its.size - i) i ys nw) ?_ (its.size + 1)
      ⟨h₁, _, 0, [], _, news, rfl, Nat.zero_le _, rfl, rfl, hst.at (fun o e => old _ o e), F.keeps old, hns₁, ?_, off₀, hS, R⟩
    rotate_left
    · intro p hp
      rcases List.mem_cons.mp hp with rfl | hp
      · exact ⟨hD1, hDL, hD₀⟩
      · exact ⟨old _ _ (N p hp).1, (N p hp).2⟩
    rintro k s' ⟨h', tk', i, ys, m', nw, rfl, hi, rfl, hyl, hst', F', hn', N', off', hS', R'⟩
    have o3 := off'.mem
    have offI : ∀ p ∈ (s₂.heap.objs.size, lst ys) :: nw, p.1 ≠ I := fun p hp => by
      rcases List.mem_cons.mp hp with rfl | hp
      · exact Ne.symm hID
      · exact (o3 p hp).1
    have tup' := tupOf N' (List.mem_cons_of_mem _ hS')
    by_cases hi' : i < its.size
    · obtain ⟨j, hj⟩ : ∃ j, its.size - i = j + 1 := ⟨its.size - i - 1, by omega⟩
      rw [hj] at R'
      refine W.item i _ _ _ hi' ⟨hst', tup'⟩ fun v h₂ tk₂ hv hst₂ hk₂ => ?_
      obtain ⟨t, ot, v₁, v₂, nt, rfl, hmt, hct, hdt, R''⟩ := R' v hv
      have N₂ : News h₀ L h₂ ((s₂.heap.objs.size, lst ys) :: nw) := news_but N' hk₂ offI
      have ht : IsTup h₂ t #[v₁, v₂] := ⟨ot, (N₂ _ (List.mem_cons_of_mem _ hmt)).1, hct, nt, hdt⟩
      refine go_tupleiter hst₂.1 ?_
      refine assign_Tuple_tuple hh ht rfl rfl fun h₅ he => ?_
      have he' : ∀ b o, h₂.get? b = some o → h₅.get? b = some o := fun b o e => he b o (Nat.ne_of_lt (Heap.lt_size e)) e
      refine assignInOrder_cons (wpAny_assign_Name (wpAny_storeName_local (lookup_relabel_local hx) ((hn'.at' fun o e => hk₂ _ o (by simpa using Ne.symm hIC) e).at' fun o e => he' _ o e) (fun h₆ hn₆ hs₆ => ?_) (by simp [compEnvC, relabel, hkind])))
      refine assignInOrder_cons (wpAny_assign_Name (wpAny_storeName_local (lookup_relabel_local hx₂) hn₆ (fun h₃ hn₃ hs₃ => ?_) (by simp [compEnvC, relabel, hkind])))
      refine assignInOrder_nil ?_
      have old3 : ∀ b o, b ≠ H.objs.size → h₂.get? b = some o → h₃.get? b = some o := fun b o hb e => hs₃.extBut b o hb (hs₆.extBut b o hb (he' b o e))
      have hst₃ : h₃.IsTupleIter I ax (i + 1) := hst₂.1.at fun o e => old3 _ o hIC e
      obtain ⟨oI, heI, hcI⟩ := id hst₃
      obtain ⟨oC, heC, hoC⟩ := ns_obj hn₃
      have F₃ : Fr h₀ L h₃ m := (((fr_but F' hk₂ hIL hI₀).keeps he').change hs₆ hCL hC₀).change hs₃ hCL hC₀
      have N₃ : News h₀ L h₃ ((I, oI) :: (H.objs.size, oC) :: (s₂.heap.objs.size, lst ys) :: nw) := fun p hp => by
        rcases List.mem_cons.mp hp with rfl | hp
        · exact ⟨heI, Ne.symm hIL, hI₀⟩
        rcases List.mem_cons.mp hp with rfl | hp
        · exact ⟨heC, hCL, hC₀⟩
        have hpC : p.1 ≠ H.objs.size := by
          rcases List.mem_cons.mp hp with rfl | hp
          · exact hDC
          · exact (o3 p hp).2.1
        exact ⟨old3 _ _ hpC (N₂ p hp).1, (N₂ p hp).2⟩
      refine wpAny_mono (R'' I oI H.objs.size oC s₂.heap.objs.size _ h₃ _ _ hoC (by simp [hxx]) (by simp) F₃ N₃ off' ⟨hIC, hID, Ne.symm hDC⟩) (fun y s₄ h₄ => ?_) fun _ _ e => e
      obtain ⟨h₄, tk₄, nw₄, rfl, F₄, N₄, off₄, hS₄, R₄⟩ := h₄
      have zI := (N₄ (I, oI) List.mem_cons_self).1
      have zC := (N₄ (H.objs.size, oC) (List.mem_cons_of_mem _ List.mem_cons_self)).1
      have zD := (N₄ (s₂.heap.objs.size, lst ys) (List.mem_cons_of_mem _ (List.mem_cons_of_mem _ List.mem_cons_self))).1
      have N₄' : News h₀ L h₄ nw₄ := fun p hp => N₄ p (List.mem_cons_of_mem _ (List.mem_cons_of_mem _ (List.mem_cons_of_mem _ hp)))
      refine append_at (hsz := by show ys.toArray.size ≤ sizeLine; rw [List.size_toArray, hyl]; omega) zD fun h₅ hs₅ hD₅ => ?_
      have o4 := off₄.mem
      refine ⟨its.size + 1 - (i + 1), by omega, h₅, tk₄, i + 1, ys ++ [y], _, nw₄, rfl, hi', rfl, by rw [List.length_append, List.length_singleton, hyl],
        ⟨oI, hs₅.extBut _ _ hID zI, hcI⟩, F₄.change hs₅ hDL hD₀, (hoC.ns zC).sameBut hs₅ (Ne.symm hDC), fun p hp => ?_, off₄, hS₄, ?_⟩
      · rcases List.mem_cons.mp hp with rfl | hp
        · exact ⟨hD₅.trans (congrArg some (lst_snoc ys y)), hDL, hD₀⟩
        · exact ⟨hs₅.extBut _ _ (o4 p hp).2.2 (N₄' p hp).1, (N₄' p hp).2⟩
      · rw [show its.size - (i + 1) = j by omega]
        exact R₄
    · obtain rfl : i = its.size := by omega
      rw [Nat.sub_self] at R'
      refine W.done _ _ _ ⟨hst', tup'⟩ fun h₂ tk₂ hk₂ => ?_
      exact hRR _ _ h₂ tk₂ _ ys nw (fr_but F' hk₂ hIL hI₀) (news_but N' hk₂ offI) off'.one (hn'.at' fun o e => hk₂ _ o (by simpa using Ne.symm hIC) e) hC₀ hD₀ hCL hDL (Ne.symm hDC) (fun p hp => (o3 p hp).2.1) R'
  exact codeAny_compStart_list (loop _ rfl) (W.self 0 _ _ _ ⟨hst.at (fun o e => old _ o e), (tupOf N hS).at fun o e => old _ o e⟩ (loop _ rfl))
theorem Assign_tup {elt iter : PySem.Expr} {x x₂ y : Str} {px px₂ tp py : Pos} {tk} {scope : Scope} {cl : List (Str × Addr)} {pos spos : Pos} {Q : Flow → Shared → Prop} (_F₀ : Fr h₀ L s.heap m) (hLe : env.locals = L)
    (hsw : swapsWith (.ListComp elt [⟨.Tuple [.Name x px, .Name x₂ px₂] tk tp, iter, [], 0⟩] scope pos) (some (.Name y py)) spos.line env = pure true)
    (hclos : closureFor scope env = pure cl) (hcell : ∀ z ∈ scope.names, z.2 ≠ .cell) (hkind : scope.kind = .function)
    (hnames : ∀ z ∈ scope.names, z.2 = .local → scope.names.lookup z.1 = some .local) (hx : scope.names.lookup x = some .local) (hx₂ : scope.names.lookup x₂ = some .local) (hxx : x ≠ x₂)
    (hy : env.kindOf y = some .local) (hp : (env.scope.kind == .class || (env.scope.kind == .module && env.locals != env.globals)) = false)
    (h : wpAny (model prog w) A (eval iter env) (TupSrc prog w A h₀ L m env elt x x₂ scope cl (fun s₂ => FinA h₀ L m s₂ y Q)) E s)
    (hs : ∀ x, foldedSetIterable iter env x = pure x := by intro _; rfl) :
    wpAny (model prog w) A (exec (.Assign [.Name y py] (.ListComp elt [⟨.Tuple [.Name x px, .Name x₂ px₂] tk tp, iter, [], 0⟩] scope pos) spos) env) Q E s := by
  subst hLe
  rw [exec_Assign_Name_used _ _ _ _ hsw]
  refine wpAny_bind (wpAny_standAt (wpAny_bind ?_))
  show wpAny _ A (do let _ ← comprehension (.ListComp elt [⟨.Tuple [.Name x px, .Name x₂ px₂] tk tp, iter, [], 0⟩] scope pos) scope env _ (newList []) false (eval iter env) (some (assign (.Name y py) env))) _ _ s
  refine wpAny_bind (wpAny_mono (wpAny_comprehension_free (use := some (assign (.Name y py) env)) (Q := fun _ s' => Q .next s') rfl hs hclos hkind hnames
    (wpAny_mono h (fun xv s₁ h₁ => ?_) fun _ _ e => e)) (fun _ s' hq => wpAny_pure (wpAny_pure hq)) fun _ _ e => e)
  obtain ⟨ax, its, n, news, rfl, hh, F, N, hm, hsz, R⟩ := h₁
  have hax := (N _ hm).1
  have hlt : ax < s₁.heap.objs.size := Heap.lt_size hax
  refine wpAny_pyIter_tuple (items := its) ⟨_, hax, rfl, n, rfl⟩ ?_
  have up : ∀ b o, s₁.heap.get? b = some o → (s₁.heap.push { cls := .type "tuple_iterator", data := .fields #[.ref ax, .int 0 0] }).get? b = some o := fun b o e => Heap.get?_push_of_some _ e
  refine blockT (Nat.ne_of_lt hlt) hsz hcell hkind hx hx₂ hxx hh ⟨_, Heap.get?_push_size _ rfl, rfl, rfl⟩ (by show _ < (s₁.heap.push _).objs.size; rw [Heap.size_push]; exact Nat.lt_succ_self _)
    (F.keeps up) (N.grown up) (Nat.ne_of_lt F.ns.lt) (next_is_new F) (fun p hp => Nat.ne_of_lt (Heap.lt_size (N p hp).1)) hm (R _ ⟨_, rfl⟩) ?_
  intro D C h' tk m' ys news' F' N' o1 hn hC₀ hD₀ hCL hDL hCD offC fin
  show wpAny _ A (assign (.Name y py) env (.ref D)) _ _ _
  refine wpAny_assign_Name (wpAny_storeName_local hy F'.ns (fun h₂ hn₂ hs₂ => ?_) hp)
  have hL₀ : h₀.get? env.locals = none := Heap.get?_none_of_le F'.above
  have F₂ : Fr h₀ env.locals h₂ (fun z => if z = y then some (.ref D) else m z) := ⟨hn₂, fun b o e => hs₂.extBut b o (fun q => by rw [q, hL₀] at e; cases e) (F'.keep b o e), F'.above⟩
  refine ⟨m', hn.sameBut hs₂ hCL, fun h'' hs'' => fin D h'' _ (F₂.change hs'' hCL hC₀) (fun p hp => ?_) o1⟩
  have z : h₂.get? p.1 = some p.2 := hs₂.extBut _ _ (N' p hp).2.1 (N' p hp).1
  refine ⟨hs''.extBut _ _ ?_ z, (N' p hp).2⟩
  rcases List.mem_cons.mp hp with rfl | hp
  · exact Ne.symm hCD
  · exact offC p hp
end
end Mine
end
section
open PySem PySem.W PyProof.Rows PySem.Spec PySem.Calls
namespace Mine
theorem ints_erase : ∀ {us : List Value} {l : List Int} (i : Nat), IntsAre us l → IntsAre (us.eraseIdx i) (l.eraseIdx i)
  | _, _, _, .nil => by simpa using IntsAre.nil
  | _, _, 0, .cons n t h => by simpa using h
  | _, _, i + 1, .cons n t h => by
    rw [List.eraseIdx_cons_succ, List.eraseIdx_cons_succ]
    exact .cons n t (ints_erase i h)
section
variable {prog : Program} {w : World} {A : Around} {E : Value → Shared → Prop} {s : Shared} {h₀ : Heap} {L D : Addr} {m : Str → Option Value} {news news' : List (Addr × Obj)} {n : Nat}
theorem pop_any {us : List Value} {l : List Int} {k : Int} {u : Tok} {Q : Value → Shared → Prop} (F : Fr h₀ L s.heap m) (N : News h₀ L s.heap news) (hi : IntsAre us l) (h0 : 0 ≤ k) (h1 : k < (l.length : Int)) (hz : l.length ≤ 1000)
    (U : Upd D (listOf us.toArray n) (listOf (us.eraseIdx k.toNat).toArray (n + 1)) news news')
    (h : ∀ h' t, Fr h₀ L h' m → News h₀ L h' news' → IntsAre (us.eraseIdx k.toNat) (l.eraseIdx k.toNat) → Q (.int (l.getD k.toNat 0) t) { s with heap := h' }) :
    wpAny (model prog w) A (call (.builtin "list.pop") [.ref D, .int k u]) Q E s := by
  obtain ⟨pre, post, rfl, rfl, a, b⟩ := U.split
  have z := N (D, listOf us.toArray n) (List.mem_append.mpr (.inr (.head _)))
  have hlen := hi.length
  have hkl : k.toNat < l.length := by omega
  obtain ⟨t, ht⟩ := hi.get k.toNat l[k.toNat] (by simp [hkl])
  have hy : us.toArray[k.toNat]? = some (.int l[k.toNat] t) := by simpa using ht
  have hg : l.getD k.toNat 0 = l[k.toNat] := by simp [hkl]
  have hk : seqIndex? k us.toArray.size = some k.toNat := by
    unfold seqIndex?
    rw [List.size_toArray]
    simp
    omega
  have hf : Builtin.List.listFitsIndex k = true := by
    unfold Builtin.List.listFitsIndex
    simp
    omega
  refine call_meets PySem.F.slot_list_pop ⟨_, z.1, rfl⟩ PySem.F.entry_list_pop (PySem.F.args_list_pop_2 _ _) (PySem.MeetsSeq.list_pop_at D _ n k u _ (.int l[k.toNat] t) hf hk hy (by rw [List.size_toArray, sizeLine_eq]; omega)) ⟨z.1, ?_⟩
  rw [hg] at h
  refine h _ t (F.change (Heap.SameBut.update ..) z.2.1 z.2.2) (kl_turn _ N a b ?_ ?_) (ints_erase _ hi)
  · simp
  · rw [List.size_toArray, List.size_toArray, List.length_eraseIdx]
    rw [if_pos (by omega)]
    omega
end
end Mine
end
section
namespace Mine
theorem c_create' (w : World) (mean : ExcName → Option Value) (mg mb : Str → Option Value) (news : List (Addr × Obj)) (l : Addr) (n : Nat) (lv : List Value) (ns : List Int) (cs : Array UInt8) (t : Tok) (x y z : Int) :
    CbN w mean mg mb 26 2 news l n lv ns ((cs.size ≤ 3 ∧ ns.length ≤ 1000) ∧ chk cs ns 2 = x ∧ chk cs ns 1 = y ∧ chk cs ns 0 = z) [.ref l, .bytes cs t] x y z := by
  intro dp un gd cn cs' a ccd cl outer A₀ base h₀ L m s Q E B F X N T hk hpre hd hu hL hI hlen hret
  obtain ⟨hp, rfl, rfl, rfl⟩ := hpre
  exact c_create w mean mg mb news l n lv ns cs t dp un gd cn cs' a ccd cl outer A₀ base h₀ L m s Q E B F X N T hk hp hd hu hL hI hlen hret
theorem c_sums' (w : World) (mean : ExcName → Option Value) (mg mb : Str → Option Value) (news : List (Addr × Obj)) (l : Addr) (n : Nat) (lv : List Value) (ns : List Int) (R : Int × Int × Int) :
    CbS w mean mg mb 75 2 news l n lv ns ((∀ x ∈ ns, Wd x) ∧ sums ns = R) [.ref l] R := by
  intro dp un gd cn cs' a ccd cl outer A₀ base h₀ L m s Q E B F X N T hk hpre hd hu hL hI hlen hret
  obtain ⟨hp, rfl⟩ := hpre
  exact c_sums w mean mg mb news l n lv ns dp un gd cn cs' a ccd cl outer A₀ base h₀ L m s Q E B F X N T hk hp hd hu hL hI hlen hret
theorem seg17 (w : World) (mean : ExcName → Option Value) (mg mb : Str → Option Value) (base : Heap) (L fa c : Addr) (s : Shared) (Q : Flow → Shared → Prop) (E : Value → Shared → Prop)
    (B : Below callerA base [] base) (X : (hd.heap_39 w.params).In base) (T : Top hd.view_39 (looseW hd.view_39 []) mean mg mb base) (m₀ : Str → Option Value) (ls : Nat) (lv : List Value) (ns : List Int)
    (hL : base.IsList ls lv.toArray) (hI : IntsAre lv ns) (hns : ns.length ≤ 63)
    (hE : PassesOwn (model PySem.Challenge.rw_jb0036_01.row.prog w) (callerA.deeper (lawEnv L fa (.ref c))) (lawEnv L fa (.ref c)) E)
    (hQ : ∀ (h' : Heap) (tk' : Nat) (m' : Str → Option Value), Fr base L h' m' → Q (.ret (.bool true)) { s with heap := h', toks := tk' })
    (aw nw : Nat) (cs : Array UInt8) (tc : Tok) (wv : List Value) (W : List Int)
    (F : Fr base L s.heap (fun y => if y = Str.ofString "words" then some (.ref aw) else if y = Str.ofString "custom" then some (.bytes cs tc) else m₀ y))
    (N : News base L s.heap [(aw, listOf wv.toArray nw)])
    (hz : cs.size ≤ 3) (hR : IntsAre wv W) (hW : ∀ x ∈ W, Wd x) (h12 : W.length ≤ 12) :
    wpAny (model PySem.Challenge.rw_jb0036_01.row.prog w) (callerA.deeper (lawEnv L fa (.ref c))) (execs (lawBody.drop 17) (lawEnv L fa (.ref c))) Q E s := by
  w_top off
  k_with_none
  k_with "my call type:list" => (k_here; (with_reducible show wpAny _ _ (call (Value.type "list") [Value.bytes _ _]) _ _ _); k_dflt (refine' list_octs ?k1 ?k2 ?k3 ?k4 ?_; (case k1 => rfl); (case k2 => k_asm); (case k3 => k_asm); (case k4 => first | assumption | omega); k_whole); intro D' vs' c' h' tk' F' N' l1 hI'; (try k_lt l1); (try k_sweep))
  k_with "my size_fits" => (rw [sizeLine_eq]; (try simp only [KBw.ints_length, List.length_append, List.length_cons, List.length_nil, List.length_map]); omega)
  k_with "my CompSrc" => (k_here; k_dflt (refine PyProof.Rows.LCg.CompSrc.ledger (by rfl) (by k_asm) (by k_asm) (by k_mem) (by exact Nat.le_of_ble_eq_true rfl) ?_; intro g'; lcg_lit))
  k_with "my CompRest" => (k_dflt (first | (refine PyProof.Rows.LCg.CompRest.succ ?_; intro v' I' oI' C' oC' D' m' h' tk' E' hv' hC' hx' F' N' off' ne'; clear ne'; lcg_open hv') | refine PyProof.Rows.LCg.CompRest.zero ?_))
  k_with "my CompEnd" => (k_dflt (refine PyProof.Rows.LCg.CompEnd.intro (by assumption) (by assumption) _ (fun _ hp => hp) (by assumption) (by first | lcg_src | k_mem) ?_))
  k_with "my FinE" => ((unfold PyProof.Rows.LCg.FinE); intro D' h' tk' F' N' o1'; (try simp only [List.nil_append, List.cons_append] at N'); (try dsimp only))
  k_with "my FinA" => ((unfold PyProof.Rows.LCg.FinA); intro D' h' tk' F' N' o1'; (try simp only [List.nil_append, List.cons_append] at N'); (try dsimp only))
  k_with "my k_ne" => (refine neN ?_; (try dsimp only); k_dflt (first | exact Ap.ne (by assumption) | exact Ne.symm (Ap.ne (by assumption)) | exact off1_ne' (by assumption) (by k_mem) | exact Ne.symm (off1_ne' (by assumption) (by k_mem)) | omega))
  k_with "my subscriptTail Name Constant ref int" => (k_here; (with_reducible show wpAny _ _ (subscriptTail _ _ (Value.ref _) (Value.int _ _)) _ _ _); k_dflt (refine' item_litK ?k1 ?k2 ?k3 ?k4 ?_ ?k6; (case k1 => is_list); (case k2 => decide); (case k3 => decide); (case k4 => rfl); (case k6 => with_unfolding_all rfl); k_whole))
  k_with "my subscriptTail Name Name ref int" => (k_here; (with_reducible show wpAny _ _ (subscriptTail _ _ (Value.ref _) (Value.int _ _)) _ _ _); k_dflt (refine' item_litK ?k1 ?k2 ?k3 ?k4 ?_ ?k6; (case k1 => is_list); (case k2 => decide); (case k3 => decide); (case k4 => rfl); (case k6 => with_unfolding_all rfl); k_whole))
  k_with "my passes_own" => assumption
  k_with "my call builtin:len" => (k_here; (with_reducible show wpAny _ _ (call (Value.builtin _) [Value.ref _]) _ _ _); k_dflt (refine' len_ints_fit ?k1 ?k2 ?k3 ?_; (case k1 => is_list); (case k2 => l_ints); (case k3 => first | l_fit | ((simp only [rangeKs_length, List.length_eraseIdx]); (repeat' split) <;> omega)); k_whole))
  k_with "my CompRestT" => (k_dflt (first | (refine PyProof.Rows.LCt.CompRestT.succ ?_; intro v' I' oI' C' oC' D' m' h' tk' E' hv' hC' hx' F' N' off' ne'; clear ne'; lcg_open hv') | refine PyProof.Rows.LCt.CompRestT.zero ?_))
  k_with "my call ref" => (k_here; k_dflt ((with_reducible show wpAny _ _ (call (Value.ref 26) [Value.ref _, Value.bytes _ _]) _ _ _); k_dflt (refine' c_create' _ _ _ _ _ _ _ _ _ _ _ _ _ _ _ _ _ _ _ _ _ _ _ _ _ _ _ _ _ _ _ ?k1 ?k2 ?k3 ?k4 ?k5 ?kK ?kp ?kd ?ku ?kl ?ki ?kn ?_); (case k1 => k_asm); (case k2 => k_asm); (case k3 => k_asm); (case k4 => k_asm); (case k5 => k_asm); (case kK => first | exact rfl | assumption); (case kl => k_mem); (case ki => assumption); (case kp => exact ⟨⟨by assumption, by omega⟩, by assumption, by assumption, by assumption⟩); (case kd => ktr_room); (case ku => ktr_units); (case kn => omega); intro t1' t2' t3' l9 h9 tk9 F9 N9 l1; (try dsimp only); (try k_fold)))
  k_with "my call ref" => (k_here; k_dflt ((with_reducible show wpAny _ _ (call (Value.ref 75) [Value.ref _]) _ _ _); k_dflt (refine' c_sums' _ _ _ _ _ _ _ _ _ _ _ _ _ _ _ _ _ _ _ _ _ _ _ _ _ _ _ ?k1 ?k2 ?k3 ?k4 ?k5 ?kK ?kp ?kd ?ku ?kl ?ki ?kn ?_); (case k1 => k_asm); (case k2 => k_asm); (case k3 => k_asm); (case k4 => k_asm); (case k5 => k_asm); (case kK => first | exact rfl | assumption); (case kl => k_mem); (case ki => l_ints); (case kp => assumption); (case kd => ktr_room); (case ku => ktr_units); (case kn => ((simp only [KBw.ints_length, List.length_append, List.length_cons, List.length_nil]); omega)); intro t1' t2' t3' l9 h9 tk9 F9 N9 l1; (try k_lt l1); (try dsimp only); (try k_fold)))
  conv in (List.drop _ _) => whnf
  dsimp only [lawEnv]
  dsimp only [lawEnv] at hE
  conv in (occs := *) lawScope => all_goals whnf
  conv at hE in (occs := *) lawScope => all_goals whnf
  revert X
  k_fill
  intro X
  try k_fold
  obtain ⟨hM, m2, m1, m0⟩ := MC (cs := cs) hW
  obtain ⟨c2, e2⟩ : ∃ x, chk cs W 2 = x := ⟨_, rfl⟩
  obtain ⟨c1, e1⟩ : ∃ x, chk cs W 1 = x := ⟨_, rfl⟩
  obtain ⟨c0, e0⟩ : ∃ x, chk cs W 0 = x := ⟨_, rfl⟩
  rw [e2, e1, e0] at hM
  rw [e2] at m2
  rw [e1] at m1
  rw [e0] at m0
  have hMw : (∀ x ∈ octs cs ++ W ++ [c2, c1, c0], Wd x) ∧ sums (octs cs ++ W ++ [c2, c1, c0]) = (1, 1, 1) := ⟨wd_app (wd_app wd_octs hW) (by intro x hx; simp only [List.mem_cons, List.not_mem_nil, or_false] at hx; rcases hx with rfl | rfl | rfl <;> assumption), hM⟩
  obtain ⟨l2, r2⟩ := m2
  obtain ⟨l1', r1'⟩ := m1
  obtain ⟨l0, r0⟩ := m0
  clear hM
  k_steps
  all_goals first | exact absurd rfl (by assumption) | exact hQ _ _ _ (by assumption)
end Mine
end
section
namespace Mine
theorem c_verify' (w : World) (mean : ExcName → Option Value) (mg mb : Str → Option Value) (news : List (Addr × Obj)) (l : Addr) (n : Nat) (lv : List Value) (ns : List Int) (cs : Array UInt8) (t : Tok) (b : Bool) :
    CbP w mean mg mb 33 2 news l n lv ns ((cs.size ≤ 3 ∧ ns.length ≤ 1000) ∧ (polymod (octs cs ++ ns) == 1) = b) [.ref l, .bytes cs t] (fun _ => .bool b) := by
  intro dp un gd cn cs' a ccd cl outer A₀ base h₀ L m s Q E B F X N T hk hpre hd hu hL hI hlen hret
  obtain ⟨hp, rfl⟩ := hpre
  exact c_verify w mean mg mb news l n lv ns cs t dp un gd cn cs' a ccd cl outer A₀ base h₀ L m s Q E B F X N T hk hp hd hu hL hI hlen hret
theorem seg14 (w : World) (mean : ExcName → Option Value) (mg mb : Str → Option Value) (base : Heap) (L fa c : Addr) (s : Shared) (Q : Flow → Shared → Prop) (E : Value → Shared → Prop)
    (B : Below callerA base [] base) (X : (hd.heap_39 w.params).In base) (T : Top hd.view_39 (looseW hd.view_39 []) mean mg mb base) (m₀ : Str → Option Value) (ls : Nat) (lv : List Value) (ns : List Int)
    (hL : base.IsList ls lv.toArray) (hI : IntsAre lv ns) (hns : ns.length ≤ 63)
    (hE : PassesOwn (model PySem.Challenge.rw_jb0036_01.row.prog w) (callerA.deeper (lawEnv L fa (.ref c))) (lawEnv L fa (.ref c)) E)
    (hQ : ∀ (h' : Heap) (tk' : Nat) (m' : Str → Option Value), Fr base L h' m' → Q (.ret (.bool true)) { s with heap := h', toks := tk' })
    (ao ar no nr : Nat) (cs : Array UInt8) (tc tm : Tok) (mk : Int) (ov rv : List Value) (O R : List Int) (oscr orow : Obj)
    (F : Fr base L s.heap (fun y => if y = Str.ofString "mask" then some (.int mk tm) else if y = Str.ofString "other" then some (.ref ao) else if y = Str.ofString "custom" then some (.bytes cs tc) else m₀ y))
    (N : News base L s.heap [(ao, listOf ov.toArray no), (ar, listOf rv.toArray nr), (L + 2, orow), (L + 1, oscr)])
    (d1 : oscr.data = .cell (some (.ref ls))) (d2 : orow.data = .cell (some (.ref ar)))
    (hz : cs.size ≤ 3) (hR : IntsAre rv R) (hO : IntsAre ov O) (hW : ∀ x ∈ R, Wd x) (h3 : 3 ≤ R.length) (h12 : R.length ≤ 12) (hO12 : O.length ≤ 12)
    (hV : (polymod (octs cs ++ R) == 1) = true) (hB : (polymod (octs cs ++ O) == 1) = (mk == 0)) :
    wpAny (model PySem.Challenge.rw_jb0036_01.row.prog w) (callerA.deeper (lawEnv L fa (.ref c))) (execs (lawBody.drop 14) (lawEnv L fa (.ref c))) Q E s := by
  w_top off
  k_with_none
  k_with "my size_fits" => (rw [sizeLine_eq]; (try simp only [KBw.ints_length, List.length_append, List.length_cons, List.length_nil, List.length_map]); omega)
  k_with "my CompSrc" => (k_here; k_dflt (refine PyProof.Rows.LCg.CompSrc.ledger (by rfl) (by k_asm) (by k_asm) (by k_mem) (by exact Nat.le_of_ble_eq_true rfl) ?_; intro g'; lcg_lit))
  k_with "my CompRest" => (k_dflt (first | (refine PyProof.Rows.LCg.CompRest.succ ?_; intro v' I' oI' C' oC' D' m' h' tk' E' hv' hC' hx' F' N' off' ne'; clear ne'; lcg_open hv') | refine PyProof.Rows.LCg.CompRest.zero ?_))
  k_with "my CompEnd" => (k_dflt (refine PyProof.Rows.LCg.CompEnd.intro (by assumption) (by assumption) _ (fun _ hp => hp) (by assumption) (by first | lcg_src | k_mem) ?_))
  k_with "my FinE" => ((unfold PyProof.Rows.LCg.FinE); intro D' h' tk' F' N' o1'; (try simp only [List.nil_append, List.cons_append] at N'); (try dsimp only))
  k_with "my FinA" => ((unfold PyProof.Rows.LCg.FinA); intro D' h' tk' F' N' o1'; (try simp only [List.nil_append, List.cons_append] at N'); (try dsimp only))
  k_with "my k_ne" => (refine neN ?_; (try dsimp only); k_dflt (first | exact Ap.ne (by assumption) | exact Ne.symm (Ap.ne (by assumption)) | exact off1_ne' (by assumption) (by k_mem) | exact Ne.symm (off1_ne' (by assumption) (by k_mem)) | omega))
  k_with "my subscriptTail Name Constant ref int" => (k_here; (with_reducible show wpAny _ _ (subscriptTail _ _ (Value.ref _) (Value.int _ _)) _ _ _); k_dflt (refine' item_litK ?k1 ?k2 ?k3 ?k4 ?_ ?k6; (case k1 => is_list); (case k2 => decide); (case k3 => decide); (case k4 => rfl); (case k6 => with_unfolding_all rfl); k_whole))
  k_with "my subscriptTail Name Name ref int" => (k_here; (with_reducible show wpAny _ _ (subscriptTail _ _ (Value.ref _) (Value.int _ _)) _ _ _); k_dflt (refine' item_litK ?k1 ?k2 ?k3 ?k4 ?_ ?k6; (case k1 => is_list); (case k2 => decide); (case k3 => decide); (case k4 => rfl); (case k6 => with_unfolding_all rfl); k_whole))
  k_with "my passes_own" => assumption
  k_with "my call builtin:len" => (k_here; (with_reducible show wpAny _ _ (call (Value.builtin _) [Value.ref _]) _ _ _); k_dflt (refine' len_ints_fit ?k1 ?k2 ?k3 ?_; (case k1 => is_list); (case k2 => l_ints); (case k3 => first | l_fit | ((simp only [rangeKs_length, List.length_eraseIdx]); (repeat' split) <;> omega)); k_whole))
  k_with "my CompRestT" => (k_dflt (first | (refine PyProof.Rows.LCt.CompRestT.succ ?_; intro v' I' oI' C' oC' D' m' h' tk' E' hv' hC' hx' F' N' off' ne'; clear ne'; lcg_open hv') | refine PyProof.Rows.LCt.CompRestT.zero ?_))
  k_with "my call ref" => (k_here; k_dflt ((with_reducible show wpAny _ _ (call (Value.ref 33) [Value.ref _, Value.bytes _ _]) _ _ _); k_dflt (refine' c_verify' _ _ _ _ _ _ _ _ _ _ _ _ _ _ _ _ _ _ _ _ _ _ _ _ _ _ _ _ _ ?k1 ?k2 ?k3 ?k4 ?k5 ?kK ?kp ?kd ?ku ?kl ?ki ?kn ?_); (case k1 => k_asm); (case k2 => k_asm); (case k3 => k_asm); (case k4 => k_asm); (case k5 => k_asm); (case kK => first | exact rfl | assumption); (case kl => k_mem); (case ki => assumption); (case kp => exact ⟨⟨by assumption, by omega⟩, by assumption⟩); (case kd => ktr_room); (case ku => ktr_units); (case kn => omega); intro t9 h9 tk9 F9 N9; (try dsimp only); (try k_fold)))
  k_with "my execs cons" => (k_here; (with_reducible show wpAny _ _ (execs (List.cons (PySem.Stmt.Assign (List.cons (PySem.Expr.Name (PySem.Str.ofString "check") _) _) _ _) _) _) _ _ _); k_dflt (refine Stop.out ?_))
  conv in (List.drop _ _) => whnf
  dsimp only [lawEnv]
  dsimp only [lawEnv] at hE
  conv in (occs := *) lawScope => all_goals whnf
  conv at hE in (occs := *) lawScope => all_goals whnf
  revert X
  k_fill
  intro X
  try k_fold
  k_steps
  refine Stop.mk ?_
  refine' seg17 _ _ _ _ _ _ _ _ _ _ _ ?B ?X ?T _ _ _ _ ?hL ?hI ?hns ?hE ?hQ _ _ _ _ _ _ ?F ?N ?hz ?hR ?hW ?h12
  (case B => exact B)
  (case X => exact X)
  (case T => exact T)
  (case hL => exact hL)
  (case hI => exact hI)
  (case hns => exact hns)
  (case hE => exact hE)
  (case hQ => exact hQ)
  (case hz => exact hz)
  (case F => exact fr_pick2 (by assumption) (by exact rfl) (by exact rfl))
  (case N => (refine news_sub (by assumption) ?_; (repeat' first | exact List.forall_mem_nil _ | refine List.forall_mem_cons.mpr ⟨by k_mem, ?_⟩)))
  (case hR => assumption)
  (case hW => exact wd_take hW)
  (case h12 => (simp only [List.length_take]; omega))
end Mine
end
section
namespace Mine
theorem seg11 (w : World) (mean : ExcName → Option Value) (mg mb : Str → Option Value) (base : Heap) (L fa c : Addr) (s : Shared) (Q : Flow → Shared → Prop) (E : Value → Shared → Prop)
    (B : Below callerA base [] base) (X : (hd.heap_39 w.params).In base) (T : Top hd.view_39 (looseW hd.view_39 []) mean mg mb base) (m₀ : Str → Option Value) (ls : Nat) (lv : List Value) (ns : List Int)
    (hL : base.IsList ls lv.toArray) (hI : IntsAre lv ns) (hns : ns.length ≤ 63)
    (hE : PassesOwn (model PySem.Challenge.rw_jb0036_01.row.prog w) (callerA.deeper (lawEnv L fa (.ref c))) (lawEnv L fa (.ref c)) E)
    (hQ : ∀ (h' : Heap) (tk' : Nat) (m' : Str → Option Value), Fr base L h' m' → Q (.ret (.bool true)) { s with heap := h', toks := tk' })
    (al ar na nr : Nat) (cs : Array UInt8) (tc t0 t1 t2 : Tok) (p0 p1 p2 : Int) (rv : List Value) (R : List Int) (oscr orow : Obj)
    (F : Fr base L s.heap (fun y => if y = Str.ofString "lost" then some (.ref al) else if y = Str.ofString "custom" then some (.bytes cs tc) else m₀ y))
    (N : News base L s.heap [(al, listOf #[.int p0 t0, .int p1 t1, .int p2 t2] na), (ar, listOf rv.toArray nr), (L + 2, orow), (L + 1, oscr)])
    (d1 : oscr.data = .cell (some (.ref ls))) (d2 : orow.data = .cell (some (.ref ar)))
    (hz : cs.size ≤ 3) (hR : IntsAre rv R) (hW : ∀ x ∈ R, Wd x) (h3 : 3 ≤ R.length) (h12 : R.length ≤ 12)
    (h0 : 0 ≤ p0 ∧ p0 < R.length) (h1 : 0 ≤ p1 ∧ p1 < R.length) (h2 : 0 ≤ p2 ∧ p2 < R.length)
    (hM : M11P cs R p0 p1 p2) :
    wpAny (model PySem.Challenge.rw_jb0036_01.row.prog w) (callerA.deeper (lawEnv L fa (.ref c))) (execs (lawBody.drop 11) (lawEnv L fa (.ref c))) Q E s := by
  w_top off
  k_with_none
  k_with "my call ref" => (k_here; k_dflt ((with_reducible show wpAny _ _ (call (Value.ref 40) [Value.ref _, Value.int _ _]) _ _ _); k_dflt (refine' c_number _ _ _ _ _ _ _ _ _ _ _ _ _ _ _ _ _ _ _ _ _ _ _ _ _ _ _ ?k1 ?k2 ?k3 ?k4 ?k5 ?kK ?kp ?kd ?ku ?kl ?ki ?kn ?_); (case k1 => k_asm); (case k2 => k_asm); (case k3 => k_asm); (case k4 => k_asm); (case k5 => k_asm); (case kK => first | exact rfl | assumption); (case kl => assumption); (case ki => l_ints); (case kp => first | decide | (constructor <;> omega)); (case kd => ktr_room); (case ku => ktr_units); (case kn => omega); intro t9 h9 tk9 F9 N9; (try dsimp only); (try k_fold)))
  k_with "my call ref" => (k_here; k_dflt ((with_reducible show wpAny _ _ (call (Value.ref 54) [Value.int _ _, Value.int _ _]) _ _ _); k_dflt (refine' c_times _ _ _ _ _ _ _ _ _ _ _ _ _ _ _ _ _ _ _ _ _ _ _ _ _ _ ?k1 ?k2 ?k3 ?k4 ?k5 ?kK ?kp ?kd ?ku ?_); (case k1 => k_asm); (case k2 => k_asm); (case k3 => k_asm); (case k4 => k_asm); (case k5 => k_asm); (case kK => first | exact rfl | assumption); (case kp => with_reducible (repeat' (first | assumption | exact Wd.power | exact Wd.mod | exact Wd.zero | exact Wd.one | apply And.intro | apply Wd.xor | apply Wd.times | apply Wd.dbl | apply Wd.inverse))); (case kd => ktr_room); (case ku => ktr_units); intro t9 h9 tk9 F9 N9; (try dsimp only); (try k_fold)))
  k_with "my call ref" => (k_here; k_dflt ((with_reducible show wpAny _ _ (call (Value.ref 61) [Value.int _ _]) _ _ _); k_dflt (refine' c_power _ _ _ _ _ _ _ _ _ _ _ _ _ _ _ _ _ _ _ _ _ _ _ _ ?k1 ?k2 ?k3 ?k4 ?k5 ?kK ?kp ?kd ?ku ?_); (case k1 => k_asm); (case k2 => k_asm); (case k3 => k_asm); (case k4 => k_asm); (case k5 => k_asm); (case kK => first | exact rfl | assumption); (case kp => constructor <;> omega); (case kd => ktr_room); (case ku => ktr_units); intro t9 h9 tk9 F9 N9; (try dsimp only); (try k_fold)))
  k_with "my call ref" => (k_here; k_dflt ((with_reducible show wpAny _ _ (call (Value.ref 68) [Value.int _ _]) _ _ _); k_dflt (refine' c_inverse _ _ _ _ _ _ _ _ _ _ _ _ _ _ _ _ _ _ _ _ _ _ _ _ ?k1 ?k2 ?k3 ?k4 ?k5 ?kK ?kp ?kd ?ku ?_); (case k1 => k_asm); (case k2 => k_asm); (case k3 => k_asm); (case k4 => k_asm); (case k5 => k_asm); (case kK => first | exact rfl | assumption); (case kp => with_reducible (repeat' (first | assumption | exact Wd.power | exact Wd.mod | exact Wd.zero | exact Wd.one | apply And.intro | apply Wd.xor | apply Wd.times | apply Wd.dbl | apply Wd.inverse))); (case kd => ktr_room); (case ku => ktr_units); intro t9 h9 tk9 F9 N9; (try dsimp only); (try k_fold)))
  k_with "my call ref" => (k_here; k_dflt ((with_reducible show wpAny _ _ (call (Value.ref 75) [Value.ref _]) _ _ _); k_dflt (refine' c_sums _ _ _ _ _ _ _ _ _ _ _ _ _ _ _ _ _ _ _ _ _ _ _ _ _ _ ?k1 ?k2 ?k3 ?k4 ?k5 ?kK ?kp ?kd ?ku ?kl ?ki ?kn ?_); (case k1 => k_asm); (case k2 => k_asm); (case k3 => k_asm); (case k4 => k_asm); (case k5 => k_asm); (case kK => first | exact rfl | assumption); (case kl => k_mem); (case ki => l_ints); (case kp => apply_rules [wd_app, wd_octs]); (case kd => ktr_room); (case ku => ktr_units); (case kn => first | assumption | ((simp only [KBw.ints_length, List.length_append, List.length_cons, List.length_nil, List.length_map]); omega)); intro t1' t2' t3' l9 h9 tk9 F9 N9 l1; (try k_lt l1); (try dsimp only); (try k_fold)))
  k_with "my call type:list" => (k_here; (with_reducible show wpAny _ _ (call (Value.type "list") [Value.bytes _ _]) _ _ _); k_dflt (refine' list_octs ?k1 ?k2 ?k3 ?k4 ?_; (case k1 => rfl); (case k2 => k_asm); (case k3 => k_asm); (case k4 => first | assumption | omega); k_whole); intro D' vs' c' h' tk' F' N' l1 hI'; (try k_lt l1); (try k_sweep))
  k_with "my size_fits" => (rw [sizeLine_eq]; (try simp only [KBw.ints_length, List.length_append, List.length_cons, List.length_nil, List.length_map]); omega)
  k_with "my CompSrc" => (k_here; k_dflt (refine PyProof.Rows.LCg.CompSrc.ledger (by rfl) (by k_asm) (by k_asm) (by k_mem) (by exact Nat.le_of_ble_eq_true rfl) ?_; intro g'; lcg_lit))
  k_with "my CompRest" => (k_dflt (first | (refine PyProof.Rows.LCg.CompRest.succ ?_; intro v' I' oI' C' oC' D' m' h' tk' E' hv' hC' hx' F' N' off' ne'; clear ne'; lcg_open hv') | refine PyProof.Rows.LCg.CompRest.zero ?_))
  k_with "my CompEnd" => (k_dflt (refine PyProof.Rows.LCg.CompEnd.intro (by assumption) (by assumption) _ (fun _ hp => hp) (by assumption) (by first | lcg_src | k_mem) ?_))
  k_with "my FinE" => ((unfold PyProof.Rows.LCg.FinE); intro D' h' tk' F' N' o1'; (try simp only [List.nil_append, List.cons_append] at N'); (try dsimp only))
  k_with "my FinA" => ((unfold PyProof.Rows.LCg.FinA); intro D' h' tk' F' N' o1'; (try simp only [List.nil_append, List.cons_append] at N'); (try dsimp only))
  k_with "my k_ne" => (refine neN ?_; (try dsimp only); k_dflt (first | exact Ap.ne (by assumption) | exact Ne.symm (Ap.ne (by assumption)) | exact off1_ne' (by assumption) (by k_mem) | exact Ne.symm (off1_ne' (by assumption) (by k_mem)) | omega))
  k_with "my exec Assign cons ListComp" => (k_here; (with_reducible show wpAny _ _ (exec (PySem.Stmt.Assign _ (PySem.Expr.ListComp _ (List.cons (PySem.Comprehension.mk (PySem.Expr.Tuple _ _ _) _ _ _) _) _ _) _) _) _ _ _); k_dflt (refine Assign_tup (_F₀ := by k_asm) (by rfl) (by with_unfolding_all rfl) (by with_unfolding_all rfl) (by decide) (by rfl) (by decide) (by rfl) (by rfl) (by decide) (by rfl) (by rfl) ?_))
  k_with "my TupSrc" => (k_here; k_dflt (refine TupSrc.ledger (by rfl) (by k_asm) (by k_asm) (by k_mem) (by exact Nat.le_of_ble_eq_true rfl) ?_; intro g'; lcp_lit))
  k_with "my CompRestP" => (k_dflt (first | (refine PyProof.Rows.LCp.CompRestP.succ ?_; intro v' hv'; lcg_open hv'; refine ⟨_, _, _, _, _, rfl, by k_mem, rfl, rfl, ?_⟩; intro I' oI' C' oC' D' m' h' tk' E' hC' hx' hy' F' N' off' ne'; clear ne') | refine PyProof.Rows.LCp.CompRestP.zero ?_))
  k_with "my exec For Tuple Tuple cons nil" => (k_here; (rename Fr _ _ _ _ => lF'); k_dflt (refine' For_turns lF' ?_ (hE := by assumption); k_whole))
  k_with "my subscriptTail Name Constant ref int" => (k_here; (with_reducible show wpAny _ _ (subscriptTail _ _ (Value.ref _) (Value.int _ _)) _ _ _); k_dflt (refine' item_litK ?k1 ?k2 ?k3 ?k4 ?_ ?k6; (case k1 => is_list); (case k2 => decide); (case k3 => decide); (case k4 => rfl); (case k6 => with_unfolding_all rfl); k_whole))
  k_with "my subscriptTail Name Name ref int" => (k_here; (with_reducible show wpAny _ _ (subscriptTail _ _ (Value.ref _) (Value.int _ _)) _ _ _); k_dflt (refine' item_litK ?k1 ?k2 ?k3 ?k4 ?_ ?k6; (case k1 => is_list); (case k2 => decide); (case k3 => decide); (case k4 => rfl); (case k6 => with_unfolding_all rfl); k_whole))
  k_with "my passes_own" => assumption
  k_with "my execs cons" => (k_here; (with_reducible show wpAny _ _ (execs (List.cons (PySem.Stmt.Assign (List.cons (PySem.Expr.Name (PySem.Str.ofString "told") _) _) _ _) _) _) _ _ _); k_dflt (refine Stop.out ?_))
  conv in (List.drop _ _) => whnf
  dsimp only [lawEnv]
  dsimp only [lawEnv] at hE
  conv in (occs := *) lawScope => all_goals whnf
  conv at hE in (occs := *) lawScope => all_goals whnf
  revert X
  k_fill
  intro X
  try k_fold
  obtain ⟨a0, b0⟩ := h0
  obtain ⟨a1, b1⟩ := h1
  obtain ⟨a2, b2⟩ := h2
  k_steps
  all_goals (refine Stop.mk ?_; refine' seg14 _ _ _ _ _ _ _ _ _ _ _ ?B ?X ?T _ _ _ _ ?hL ?hI ?hns ?hE ?hQ _ _ _ _ _ _ _ _ _ _ _ _ _ _ ?F ?N ?d1 ?d2 ?hz ?hR ?hO ?hW ?h3 ?h12 ?hO12 ?hV ?hB; (case B => exact B); (case X => exact X); (case T => exact T); (case d1 => exact d1); (case d2 => exact d2); (case hR => exact hR); (case F => exact fr_pick3 (by assumption) (by exact rfl) (by exact rfl) (by exact rfl)); (case N => (refine news_sub (by assumption) ?_; (repeat' first | exact List.forall_mem_nil _ | refine List.forall_mem_cons.mpr ⟨by k_mem, ?_⟩))); (case hL => exact hL); (case hI => exact hI); (case hns => exact hns); (case hE => exact hE); (case hQ => exact hQ); (case hz => exact hz); (case hO => assumption); (case hW => exact hW); (case h3 => exact h3); (case h12 => exact h12); (case hO12 => first | exact h12 | (simp only [List.length_set]; exact h12)); (case hV => exact beq_iff_eq.mpr hM.1); (case hB => first | exact told000 hM hW (by assumption) (by assumption) (by assumption) | exact told100 hM hW (by assumption) (by assumption) (by assumption) | exact told010 hM hW (by assumption) (by assumption) (by assumption) | exact told110 hM hW (by assumption) (by assumption) (by assumption) | exact told001 hM hW (by assumption) (by assumption) (by assumption) | exact told101 hM hW (by assumption) (by assumption) (by assumption) | exact told011 hM hW (by assumption) (by assumption) (by assumption) | exact told111 hM hW (by assumption) (by assumption) (by assumption)))
end Mine
end
section
namespace Mine
theorem seg10 (w : World) (mean : ExcName → Option Value) (mg mb : Str → Option Value) (base : Heap) (L fa c : Addr) (s : Shared) (Q : Flow → Shared → Prop) (E : Value → Shared → Prop)
    (B : Below callerA base [] base) (X : (hd.heap_39 w.params).In base) (T : Top hd.view_39 (looseW hd.view_39 []) mean mg mb base) (m₀ : Str → Option Value) (ls : Nat) (lv : List Value) (ns : List Int)
    (hL : base.IsList ls lv.toArray) (hI : IntsAre lv ns) (hns : ns.length ≤ 63)
    (hE : PassesOwn (model PySem.Challenge.rw_jb0036_01.row.prog w) (callerA.deeper (lawEnv L fa (.ref c))) (lawEnv L fa (.ref c)) E)
    (hQ : ∀ (h' : Heap) (tk' : Nat) (m' : Str → Option Value), Fr base L h' m' → Q (.ret (.bool true)) { s with heap := h', toks := tk' })
    (ap af am al ar np nf nm na nr : Nat) (cs : Array UInt8) (tc tu t0 t1 t2 f0 f1 f2 g0 g1 g2 e0 e1 e2 : Tok) (p0 p1 p2 x0 x1 x2 y0 y1 y2 q0 q1 q2 u : Int) (rv : List Value) (R : List Int) (oscr orow ofar : Obj)
    (F : Fr base L s.heap (fun y => if y = Str.ofString "under" then some (.int u tu) else if y = Str.ofString "pairs" then some (.ref ap) else if y = Str.ofString "miss" then some (.ref am) else if y = Str.ofString "lost" then some (.ref al) else if y = Str.ofString "custom" then some (.bytes cs tc) else m₀ y))
    (N : News base L s.heap [(ap, listOf #[.int q0 e0, .int q1 e1, .int q2 e2] np), (af, listOf #[.int x0 f0, .int x1 f1, .int x2 f2] nf), (am, listOf #[.int y0 g0, .int y1 g1, .int y2 g2] nm), (al, listOf #[.int p0 t0, .int p1 t1, .int p2 t2] na), (ar, listOf rv.toArray nr), (L + 3, ofar), (L + 2, orow), (L + 1, oscr)])
    (d1 : oscr.data = .cell (some (.ref ls))) (d2 : orow.data = .cell (some (.ref ar))) (d3 : ofar.data = .cell (some (.ref af)))
    (n0 : Ap ap ar) (n1 : Ap af ar) (n2 : Ap am ar) (n3 : Ap al ar) (n5 : Ap ar (L + 1)) (n6 : Ap ar (L + 2)) (n7 : Ap ar (L + 3))
    (hz : cs.size ≤ 3) (hR : IntsAre rv R) (hW : ∀ x ∈ R, Wd x) (h3 : 3 ≤ R.length) (h12 : R.length ≤ 12)
    (h0 : 0 ≤ p0 ∧ p0 < R.length) (h1 : 0 ≤ p1 ∧ p1 < R.length) (h2 : 0 ≤ p2 ∧ p2 < R.length)
    (wx0 : Wd x0) (wx1 : Wd x1) (wx2 : Wd x2) (wy0 : Wd y0) (wy1 : Wd y1) (wy2 : Wd y2) (wq0 : Wd q0) (wq1 : Wd q1) (wq2 : Wd q2) (wu : Wd u) (hM : M10P cs R p0 p1 p2 x0 x1 x2 y0 y1 y2 q0 q1 q2 u) :
    wpAny (model PySem.Challenge.rw_jb0036_01.row.prog w) (callerA.deeper (lawEnv L fa (.ref c))) (execs (lawBody.drop 10) (lawEnv L fa (.ref c))) Q E s := by
  w_top off
  k_with_none
  k_with "my call ref" => (k_here; k_dflt ((with_reducible show wpAny _ _ (call (Value.ref 40) [Value.ref _, Value.int _ _]) _ _ _); k_dflt (refine' c_number _ _ _ _ _ _ _ _ _ _ _ _ _ _ _ _ _ _ _ _ _ _ _ _ _ _ _ ?k1 ?k2 ?k3 ?k4 ?k5 ?kK ?kp ?kd ?ku ?kl ?ki ?kn ?_); (case k1 => k_asm); (case k2 => k_asm); (case k3 => k_asm); (case k4 => k_asm); (case k5 => k_asm); (case kK => first | exact rfl | assumption); (case kl => assumption); (case ki => l_ints); (case kp => first | decide | (constructor <;> omega)); (case kd => ktr_room); (case ku => ktr_units); (case kn => omega); intro t9 h9 tk9 F9 N9; (try dsimp only); (try k_fold)))
  k_with "my call ref" => (k_here; k_dflt ((with_reducible show wpAny _ _ (call (Value.ref 54) [Value.int _ _, Value.int _ _]) _ _ _); k_dflt (refine' c_times _ _ _ _ _ _ _ _ _ _ _ _ _ _ _ _ _ _ _ _ _ _ _ _ _ _ ?k1 ?k2 ?k3 ?k4 ?k5 ?kK ?kp ?kd ?ku ?_); (case k1 => k_asm); (case k2 => k_asm); (case k3 => k_asm); (case k4 => k_asm); (case k5 => k_asm); (case kK => first | exact rfl | assumption); (case kp => with_reducible (repeat' (first | assumption | exact Wd.power | exact Wd.mod | exact Wd.zero | exact Wd.one | apply And.intro | apply Wd.xor | apply Wd.times | apply Wd.dbl | apply Wd.inverse))); (case kd => ktr_room); (case ku => ktr_units); intro t9 h9 tk9 F9 N9; (try dsimp only); (try k_fold)))
  k_with "my call ref" => (k_here; k_dflt ((with_reducible show wpAny _ _ (call (Value.ref 61) [Value.int _ _]) _ _ _); k_dflt (refine' c_power _ _ _ _ _ _ _ _ _ _ _ _ _ _ _ _ _ _ _ _ _ _ _ _ ?k1 ?k2 ?k3 ?k4 ?k5 ?kK ?kp ?kd ?ku ?_); (case k1 => k_asm); (case k2 => k_asm); (case k3 => k_asm); (case k4 => k_asm); (case k5 => k_asm); (case kK => first | exact rfl | assumption); (case kp => constructor <;> omega); (case kd => ktr_room); (case ku => ktr_units); intro t9 h9 tk9 F9 N9; (try dsimp only); (try k_fold)))
  k_with "my call ref" => (k_here; k_dflt ((with_reducible show wpAny _ _ (call (Value.ref 68) [Value.int _ _]) _ _ _); k_dflt (refine' c_inverse _ _ _ _ _ _ _ _ _ _ _ _ _ _ _ _ _ _ _ _ _ _ _ _ ?k1 ?k2 ?k3 ?k4 ?k5 ?kK ?kp ?kd ?ku ?_); (case k1 => k_asm); (case k2 => k_asm); (case k3 => k_asm); (case k4 => k_asm); (case k5 => k_asm); (case kK => first | exact rfl | assumption); (case kp => with_reducible (repeat' (first | assumption | exact Wd.power | exact Wd.mod | exact Wd.zero | exact Wd.one | apply And.intro | apply Wd.xor | apply Wd.times | apply Wd.dbl | apply Wd.inverse))); (case kd => ktr_room); (case ku => ktr_units); intro t9 h9 tk9 F9 N9; (try dsimp only); (try k_fold)))
  k_with "my call ref" => (k_here; k_dflt ((with_reducible show wpAny _ _ (call (Value.ref 75) [Value.ref _]) _ _ _); k_dflt (refine' c_sums _ _ _ _ _ _ _ _ _ _ _ _ _ _ _ _ _ _ _ _ _ _ _ _ _ _ ?k1 ?k2 ?k3 ?k4 ?k5 ?kK ?kp ?kd ?ku ?kl ?ki ?kn ?_); (case k1 => k_asm); (case k2 => k_asm); (case k3 => k_asm); (case k4 => k_asm); (case k5 => k_asm); (case kK => first | exact rfl | assumption); (case kl => k_mem); (case ki => l_ints); (case kp => apply_rules [wd_app, wd_octs]); (case kd => ktr_room); (case ku => ktr_units); (case kn => first | assumption | ((simp only [KBw.ints_length, List.length_append, List.length_cons, List.length_nil, List.length_map]); omega)); intro t1' t2' t3' l9 h9 tk9 F9 N9 l1; (try k_lt l1); (try dsimp only); (try k_fold)))
  k_with "my call type:list" => (k_here; (with_reducible show wpAny _ _ (call (Value.type "list") [Value.bytes _ _]) _ _ _); k_dflt (refine' list_octs ?k1 ?k2 ?k3 ?k4 ?_; (case k1 => rfl); (case k2 => k_asm); (case k3 => k_asm); (case k4 => first | assumption | omega); k_whole); intro D' vs' c' h' tk' F' N' l1 hI'; (try k_lt l1); (try k_sweep))
  k_with "my size_fits" => (rw [sizeLine_eq]; (try simp only [KBw.ints_length, List.length_append, List.length_cons, List.length_nil, List.length_map]); omega)
  k_with "my CompSrc" => (k_here; k_dflt (refine PyProof.Rows.LCg.CompSrc.ledger (by rfl) (by k_asm) (by k_asm) (by k_mem) (by exact Nat.le_of_ble_eq_true rfl) ?_; intro g'; lcg_lit))
  k_with "my CompRest" => (k_dflt (first | (refine PyProof.Rows.LCg.CompRest.succ ?_; intro v' I' oI' C' oC' D' m' h' tk' E' hv' hC' hx' F' N' off' ne'; clear ne'; lcg_open hv') | refine PyProof.Rows.LCg.CompRest.zero ?_))
  k_with "my CompEnd" => (k_dflt (refine PyProof.Rows.LCg.CompEnd.intro (by assumption) (by assumption) _ (fun _ hp => hp) (by assumption) (by first | lcg_src | k_mem) ?_))
  k_with "my FinE" => ((unfold PyProof.Rows.LCg.FinE); intro D' h' tk' F' N' o1'; (try simp only [List.nil_append, List.cons_append] at N'); (try dsimp only))
  k_with "my FinA" => ((unfold PyProof.Rows.LCg.FinA); intro D' h' tk' F' N' o1'; (try simp only [List.nil_append, List.cons_append] at N'); (try dsimp only))
  k_with "my k_ne" => (refine neN ?_; (try dsimp only); k_dflt (first | exact Ap.ne (by assumption) | exact Ne.symm (Ap.ne (by assumption)) | exact off1_ne' (by assumption) (by k_mem) | exact Ne.symm (off1_ne' (by assumption) (by k_mem)) | omega))
  k_with "my exec Assign cons ListComp" => (k_here; (with_reducible show wpAny _ _ (exec (PySem.Stmt.Assign _ (PySem.Expr.ListComp _ (List.cons (PySem.Comprehension.mk (PySem.Expr.Tuple _ _ _) _ _ _) _) _ _) _) _) _ _ _); k_dflt (refine Assign_tup (_F₀ := by k_asm) (by rfl) (by with_unfolding_all rfl) (by with_unfolding_all rfl) (by decide) (by rfl) (by decide) (by rfl) (by rfl) (by decide) (by rfl) (by rfl) ?_))
  k_with "my TupSrc" => (k_here; k_dflt (refine TupSrc.ledger (by rfl) (by k_asm) (by k_asm) (by k_mem) (by exact Nat.le_of_ble_eq_true rfl) ?_; intro g'; lcp_lit))
  k_with "my CompRestP" => (k_dflt (first | (refine PyProof.Rows.LCp.CompRestP.succ ?_; intro v' hv'; lcg_open hv'; refine ⟨_, _, _, _, _, rfl, by k_mem, rfl, rfl, ?_⟩; intro I' oI' C' oC' D' m' h' tk' E' hC' hx' hy' F' N' off' ne'; clear ne') | refine PyProof.Rows.LCp.CompRestP.zero ?_))
  k_with "my exec For Tuple Tuple cons nil" => (k_here; (rename Fr _ _ _ _ => lF'); k_dflt (refine' For_turns lF' ?_ (hE := by assumption); k_whole))
  k_with "my subscriptTail Name Constant ref int" => (k_here; (with_reducible show wpAny _ _ (subscriptTail _ _ (Value.ref _) (Value.int _ _)) _ _ _); k_dflt (refine' item_litK ?k1 ?k2 ?k3 ?k4 ?_ ?k6; (case k1 => is_list); (case k2 => decide); (case k3 => decide); (case k4 => rfl); (case k6 => with_unfolding_all rfl); k_whole))
  k_with "my subscriptTail Name Name ref int" => (k_here; (with_reducible show wpAny _ _ (subscriptTail _ _ (Value.ref _) (Value.int _ _)) _ _ _); k_dflt (refine' item_litK ?k1 ?k2 ?k3 ?k4 ?_ ?k6; (case k1 => is_list); (case k2 => decide); (case k3 => decide); (case k4 => rfl); (case k6 => with_unfolding_all rfl); k_whole))
  k_with "my execs cons" => (k_here; (with_reducible show wpAny _ _ (execs (List.cons (PySem.Stmt.Assign (List.cons (PySem.Expr.Name (PySem.Str.ofString "mask") _) _) _ _) _) _) _ _ _); k_dflt (refine Stop.out ?_))
  conv in (List.drop _ _) => whnf
  dsimp only [lawEnv]
  dsimp only [lawEnv] at hE
  conv in (occs := *) lawScope => all_goals whnf
  conv at hE in (occs := *) lawScope => all_goals whnf
  revert X
  k_fill
  intro X
  try k_fold
  obtain ⟨a0, b0⟩ := h0
  obtain ⟨a1, b1⟩ := h1
  obtain ⟨a2, b2⟩ := h2
  k_steps
  refine Stop.mk ?_
  refine' seg11 _ _ _ _ _ _ _ _ _ _ _ ?B ?X ?T _ _ _ _ ?hL ?hI ?hns ?hE ?hQ _ _ _ _ _ _ _ _ _ _ _ _ _ _ _ _ ?F ?N ?d1 ?d2 ?hz ?hR ?hW ?h3 ?h12 ?h0 ?h1 ?h2 ?hM
  (case B => exact B)
  (case X => exact X)
  (case T => exact T)
  (case F => exact fr_pick2 (by assumption) (by exact rfl) (by exact rfl))
  (case d1 => exact d1)
  (case d2 => exact d2)
  (case N => (refine news_sub (by assumption) ?_; (repeat' first | exact List.forall_mem_nil _ | refine List.forall_mem_cons.mpr ⟨by k_mem, ?_⟩)))
  (case hL => exact hL)
  (case hI => exact hI)
  (case hns => exact hns)
  (case hE => exact hE)
  (case hQ => exact hQ)
  (case hz => exact hz)
  (case hR => assumption)
  (case hW => refine wd_set (wd_set (wd_set hW ?_) ?_) ?_ <;> with_reducible (repeat' (first | assumption | exact Wd.power | exact Wd.mod | exact Wd.zero | exact Wd.one | apply Wd.xor | apply Wd.times | apply Wd.dbl | apply Wd.inverse)))
  (case h3 => (first | (simp only [List.length_set]; assumption) | (simp only [List.length_set]; exact ⟨by assumption, by assumption⟩)))
  (case h12 => (first | (simp only [List.length_set]; assumption) | (simp only [List.length_set]; exact ⟨by assumption, by assumption⟩)))
  (case h0 => (first | (simp only [List.length_set]; assumption) | (simp only [List.length_set]; exact ⟨by assumption, by assumption⟩)))
  (case h1 => (first | (simp only [List.length_set]; assumption) | (simp only [List.length_set]; exact ⟨by assumption, by assumption⟩)))
  (case h2 => (first | (simp only [List.length_set]; assumption) | (simp only [List.length_set]; exact ⟨by assumption, by assumption⟩)))
  (case hM => exact M10 hM hW h12 a0 b0 a1 b1 a2 b2)
end Mine
end
section
namespace Mine
theorem seg8 (w : World) (mean : ExcName → Option Value) (mg mb : Str → Option Value) (base : Heap) (L fa c : Addr) (s : Shared) (Q : Flow → Shared → Prop) (E : Value → Shared → Prop)
    (B : Below callerA base [] base) (X : (hd.heap_39 w.params).In base) (T : Top hd.view_39 (looseW hd.view_39 []) mean mg mb base) (m₀ : Str → Option Value) (ls : Nat) (lv : List Value) (ns : List Int)
    (hL : base.IsList ls lv.toArray) (hI : IntsAre lv ns) (hns : ns.length ≤ 63)
    (hE : PassesOwn (model PySem.Challenge.rw_jb0036_01.row.prog w) (callerA.deeper (lawEnv L fa (.ref c))) (lawEnv L fa (.ref c)) E)
    (hQ : ∀ (h' : Heap) (tk' : Nat) (m' : Str → Option Value), Fr base L h' m' → Q (.ret (.bool true)) { s with heap := h', toks := tk' })
    (af am al ar nf nm na nr : Nat) (cs : Array UInt8) (tc t0 t1 t2 f0 f1 f2 g0 g1 g2 : Tok) (p0 p1 p2 x0 x1 x2 y0 y1 y2 : Int) (rv : List Value) (R : List Int) (oscr orow ofar : Obj)
    (F : Fr base L s.heap (fun y => if y = Str.ofString "miss" then some (.ref am) else if y = Str.ofString "lost" then some (.ref al) else if y = Str.ofString "custom" then some (.bytes cs tc) else m₀ y))
    (N : News base L s.heap [(af, listOf #[.int x0 f0, .int x1 f1, .int x2 f2] nf), (am, listOf #[.int y0 g0, .int y1 g1, .int y2 g2] nm), (al, listOf #[.int p0 t0, .int p1 t1, .int p2 t2] na), (ar, listOf rv.toArray nr), (L + 3, ofar), (L + 2, orow), (L + 1, oscr)])
    (d1 : oscr.data = .cell (some (.ref ls))) (d2 : orow.data = .cell (some (.ref ar))) (d3 : ofar.data = .cell (some (.ref af)))
    (n1 : Ap af ar) (n2 : Ap am ar) (n3 : Ap al ar) (n5 : Ap ar (L + 1)) (n6 : Ap ar (L + 2)) (n7 : Ap ar (L + 3))
    (hz : cs.size ≤ 3) (hR : IntsAre rv R) (hW : ∀ x ∈ R, Wd x) (h3 : 3 ≤ R.length) (h12 : R.length ≤ 12)
    (h0 : 0 ≤ p0 ∧ p0 < R.length) (h1 : 0 ≤ p1 ∧ p1 < R.length) (h2 : 0 ≤ p2 ∧ p2 < R.length)
    (wx0 : Wd x0) (wx1 : Wd x1) (wx2 : Wd x2) (wy0 : Wd y0) (wy1 : Wd y1) (wy2 : Wd y2) (hM : M8P cs R p0 p1 p2 x0 x1 x2 y0 y1 y2) :
    wpAny (model PySem.Challenge.rw_jb0036_01.row.prog w) (callerA.deeper (lawEnv L fa (.ref c))) (execs (lawBody.drop 8) (lawEnv L fa (.ref c))) Q E s := by
  w_top off
  k_with_none
  k_with "my call ref" => (k_here; k_dflt ((with_reducible show wpAny _ _ (call (Value.ref 40) [Value.ref _, Value.int _ _]) _ _ _); k_dflt (refine' c_number _ _ _ _ _ _ _ _ _ _ _ _ _ _ _ _ _ _ _ _ _ _ _ _ _ _ _ ?k1 ?k2 ?k3 ?k4 ?k5 ?kK ?kp ?kd ?ku ?kl ?ki ?kn ?_); (case k1 => k_asm); (case k2 => k_asm); (case k3 => k_asm); (case k4 => k_asm); (case k5 => k_asm); (case kK => first | exact rfl | assumption); (case kl => assumption); (case ki => l_ints); (case kp => first | decide | (constructor <;> omega)); (case kd => ktr_room); (case ku => ktr_units); (case kn => omega); intro t9 h9 tk9 F9 N9; (try dsimp only); (try k_fold)))
  k_with "my call ref" => (k_here; k_dflt ((with_reducible show wpAny _ _ (call (Value.ref 54) [Value.int _ _, Value.int _ _]) _ _ _); k_dflt (refine' c_times _ _ _ _ _ _ _ _ _ _ _ _ _ _ _ _ _ _ _ _ _ _ _ _ _ _ ?k1 ?k2 ?k3 ?k4 ?k5 ?kK ?kp ?kd ?ku ?_); (case k1 => k_asm); (case k2 => k_asm); (case k3 => k_asm); (case k4 => k_asm); (case k5 => k_asm); (case kK => first | exact rfl | assumption); (case kp => with_reducible (repeat' (first | assumption | exact Wd.power | exact Wd.mod | exact Wd.zero | exact Wd.one | apply And.intro | apply Wd.xor | apply Wd.times | apply Wd.dbl | apply Wd.inverse))); (case kd => ktr_room); (case ku => ktr_units); intro t9 h9 tk9 F9 N9; (try dsimp only); (try k_fold)))
  k_with "my call ref" => (k_here; k_dflt ((with_reducible show wpAny _ _ (call (Value.ref 61) [Value.int _ _]) _ _ _); k_dflt (refine' c_power _ _ _ _ _ _ _ _ _ _ _ _ _ _ _ _ _ _ _ _ _ _ _ _ ?k1 ?k2 ?k3 ?k4 ?k5 ?kK ?kp ?kd ?ku ?_); (case k1 => k_asm); (case k2 => k_asm); (case k3 => k_asm); (case k4 => k_asm); (case k5 => k_asm); (case kK => first | exact rfl | assumption); (case kp => constructor <;> omega); (case kd => ktr_room); (case ku => ktr_units); intro t9 h9 tk9 F9 N9; (try dsimp only); (try k_fold)))
  k_with "my call ref" => (k_here; k_dflt ((with_reducible show wpAny _ _ (call (Value.ref 68) [Value.int _ _]) _ _ _); k_dflt (refine' c_inverse _ _ _ _ _ _ _ _ _ _ _ _ _ _ _ _ _ _ _ _ _ _ _ _ ?k1 ?k2 ?k3 ?k4 ?k5 ?kK ?kp ?kd ?ku ?_); (case k1 => k_asm); (case k2 => k_asm); (case k3 => k_asm); (case k4 => k_asm); (case k5 => k_asm); (case kK => first | exact rfl | assumption); (case kp => with_reducible (repeat' (first | assumption | exact Wd.power | exact Wd.mod | exact Wd.zero | exact Wd.one | apply And.intro | apply Wd.xor | apply Wd.times | apply Wd.dbl | apply Wd.inverse))); (case kd => ktr_room); (case ku => ktr_units); intro t9 h9 tk9 F9 N9; (try dsimp only); (try k_fold)))
  k_with "my call ref" => (k_here; k_dflt ((with_reducible show wpAny _ _ (call (Value.ref 75) [Value.ref _]) _ _ _); k_dflt (refine' c_sums _ _ _ _ _ _ _ _ _ _ _ _ _ _ _ _ _ _ _ _ _ _ _ _ _ _ ?k1 ?k2 ?k3 ?k4 ?k5 ?kK ?kp ?kd ?ku ?kl ?ki ?kn ?_); (case k1 => k_asm); (case k2 => k_asm); (case k3 => k_asm); (case k4 => k_asm); (case k5 => k_asm); (case kK => first | exact rfl | assumption); (case kl => k_mem); (case ki => l_ints); (case kp => apply_rules [wd_app, wd_octs]); (case kd => ktr_room); (case ku => ktr_units); (case kn => first | assumption | ((simp only [KBw.ints_length, List.length_append, List.length_cons, List.length_nil, List.length_map]); omega)); intro t1' t2' t3' l9 h9 tk9 F9 N9 l1; (try k_lt l1); (try dsimp only); (try k_fold)))
  k_with "my call type:list" => (k_here; (with_reducible show wpAny _ _ (call (Value.type "list") [Value.bytes _ _]) _ _ _); k_dflt (refine' list_octs ?k1 ?k2 ?k3 ?k4 ?_; (case k1 => rfl); (case k2 => k_asm); (case k3 => k_asm); (case k4 => first | assumption | omega); k_whole); intro D' vs' c' h' tk' F' N' l1 hI'; (try k_lt l1); (try k_sweep))
  k_with "my size_fits" => (rw [sizeLine_eq]; (try simp only [KBw.ints_length, List.length_append, List.length_cons, List.length_nil, List.length_map]); omega)
  k_with "my CompSrc" => (k_here; k_dflt (refine PyProof.Rows.LCg.CompSrc.ledger (by rfl) (by k_asm) (by k_asm) (by k_mem) (by exact Nat.le_of_ble_eq_true rfl) ?_; intro g'; lcg_lit))
  k_with "my CompRest" => (k_dflt (first | (refine PyProof.Rows.LCg.CompRest.succ ?_; intro v' I' oI' C' oC' D' m' h' tk' E' hv' hC' hx' F' N' off' ne'; clear ne'; lcg_open hv') | refine PyProof.Rows.LCg.CompRest.zero ?_))
  k_with "my CompEnd" => (k_dflt (refine PyProof.Rows.LCg.CompEnd.intro (by assumption) (by assumption) _ (fun _ hp => hp) (by assumption) (by first | lcg_src | k_mem) ?_))
  k_with "my FinE" => ((unfold PyProof.Rows.LCg.FinE); intro D' h' tk' F' N' o1'; (try simp only [List.nil_append, List.cons_append] at N'); (try dsimp only))
  k_with "my FinA" => ((unfold PyProof.Rows.LCg.FinA); intro D' h' tk' F' N' o1'; (try simp only [List.nil_append, List.cons_append] at N'); (try dsimp only))
  k_with "my k_ne" => (refine neN ?_; (try dsimp only); k_dflt (first | exact Ap.ne (by assumption) | exact Ne.symm (Ap.ne (by assumption)) | exact off1_ne' (by assumption) (by k_mem) | exact Ne.symm (off1_ne' (by assumption) (by k_mem)) | omega))
  k_with "my exec Assign cons ListComp" => (k_here; (with_reducible show wpAny _ _ (exec (PySem.Stmt.Assign _ (PySem.Expr.ListComp _ (List.cons (PySem.Comprehension.mk (PySem.Expr.Tuple _ _ _) _ _ _) _) _ _) _) _) _ _ _); k_dflt (refine Assign_tup (_F₀ := by k_asm) (by rfl) (by with_unfolding_all rfl) (by with_unfolding_all rfl) (by decide) (by rfl) (by decide) (by rfl) (by rfl) (by decide) (by rfl) (by rfl) ?_))
  k_with "my TupSrc" => (k_here; k_dflt (refine TupSrc.ledger (by rfl) (by k_asm) (by k_asm) (by k_mem) (by exact Nat.le_of_ble_eq_true rfl) ?_; intro g'; lcp_lit))
  k_with "my CompRestP" => (k_dflt (first | (refine PyProof.Rows.LCp.CompRestP.succ ?_; intro v' hv'; lcg_open hv'; refine ⟨_, _, _, _, _, rfl, by k_mem, rfl, rfl, ?_⟩; intro I' oI' C' oC' D' m' h' tk' E' hC' hx' hy' F' N' off' ne'; clear ne') | refine PyProof.Rows.LCp.CompRestP.zero ?_))
  k_with "my exec For Tuple Tuple cons nil" => (k_here; (rename Fr _ _ _ _ => lF'); k_dflt (refine' For_turns lF' ?_ (hE := by assumption); k_whole))
  k_with "my subscriptTail Name Constant ref int" => (k_here; (with_reducible show wpAny _ _ (subscriptTail _ _ (Value.ref _) (Value.int _ _)) _ _ _); k_dflt (refine' item_litK ?k1 ?k2 ?k3 ?k4 ?_ ?k6; (case k1 => is_list); (case k2 => decide); (case k3 => decide); (case k4 => rfl); (case k6 => with_unfolding_all rfl); k_whole))
  k_with "my subscriptTail Name Name ref int" => (k_here; (with_reducible show wpAny _ _ (subscriptTail _ _ (Value.ref _) (Value.int _ _)) _ _ _); k_dflt (refine' item_litK ?k1 ?k2 ?k3 ?k4 ?_ ?k6; (case k1 => is_list); (case k2 => decide); (case k3 => decide); (case k4 => rfl); (case k6 => with_unfolding_all rfl); k_whole))
  k_with "my execs cons" => (k_here; (with_reducible show wpAny _ _ (execs (List.cons (PySem.Stmt.For (PySem.Expr.Tuple _ _ _) _ _ _ _) _) _) _ _ _); k_dflt (refine Stop.out ?_))
  conv in (List.drop _ _) => whnf
  dsimp only [lawEnv]
  dsimp only [lawEnv] at hE
  conv in (occs := *) lawScope => all_goals whnf
  conv at hE in (occs := *) lawScope => all_goals whnf
  revert X
  k_fill
  intro X
  try k_fold
  k_steps
  refine Stop.mk ?_
  refine' seg10 _ _ _ _ _ _ _ _ _ _ _ ?B ?X ?T _ _ _ _ ?hL ?hI ?hns ?hE ?hQ _ _ _ _ _ _ _ _ _ _ _ _ _ _ _ _ _ _ _ _ _ _ _ _ _ _ _ _ _ _ _ _ _ _ _ _ _ _ _ _ _ _ _ ?F ?N ?d1 ?d2 ?d3 ?n0 ?n1 ?n2 ?n3 ?n5 ?n6 ?n7 ?hz ?hR ?hW ?h3 ?h12 ?h0 ?h1 ?h2 ?wx0 ?wx1 ?wx2 ?wy0 ?wy1 ?wy2 ?wq0 ?wq1 ?wq2 ?wu ?hM
  (case B => exact B)
  (case X => exact X)
  (case T => exact T)
  (case F => assumption)
  (case d1 => exact d1)
  (case d2 => exact d2)
  (case d3 => exact d3)
  (case N => (refine news_sub (by assumption) ?_; (repeat' first | exact List.forall_mem_nil _ | refine List.forall_mem_cons.mpr ⟨by k_mem, ?_⟩)))
  (case n0 => first | assumption | exact (off1_ne' (by assumption) (by k_mem)) | exact (off1_ne' (by assumption) (by k_mem)).symm)
  (case n1 => first | assumption | exact (off1_ne' (by assumption) (by k_mem)) | exact (off1_ne' (by assumption) (by k_mem)).symm)
  (case n2 => first | assumption | exact (off1_ne' (by assumption) (by k_mem)) | exact (off1_ne' (by assumption) (by k_mem)).symm)
  (case n3 => first | assumption | exact (off1_ne' (by assumption) (by k_mem)) | exact (off1_ne' (by assumption) (by k_mem)).symm)
  (case n5 => first | assumption | exact (off1_ne' (by assumption) (by k_mem)) | exact (off1_ne' (by assumption) (by k_mem)).symm)
  (case n6 => first | assumption | exact (off1_ne' (by assumption) (by k_mem)) | exact (off1_ne' (by assumption) (by k_mem)).symm)
  (case n7 => first | assumption | exact (off1_ne' (by assumption) (by k_mem)) | exact (off1_ne' (by assumption) (by k_mem)).symm)
  (case hL => exact hL)
  (case hI => exact hI)
  (case hns => exact hns)
  (case hE => exact hE)
  (case hQ => exact hQ)
  (case hz => exact hz)
  (case hR => exact hR)
  (case hW => exact hW)
  (case h3 => exact h3)
  (case h12 => exact h12)
  (case h0 => exact h0)
  (case h1 => exact h1)
  (case h2 => exact h2)
  (case wx0 => with_reducible (repeat' (first | assumption | exact Wd.power | exact Wd.mod | exact Wd.zero | exact Wd.one | apply Wd.xor | apply Wd.times | apply Wd.dbl | apply Wd.inverse)))
  (case wx1 => with_reducible (repeat' (first | assumption | exact Wd.power | exact Wd.mod | exact Wd.zero | exact Wd.one | apply Wd.xor | apply Wd.times | apply Wd.dbl | apply Wd.inverse)))
  (case wx2 => with_reducible (repeat' (first | assumption | exact Wd.power | exact Wd.mod | exact Wd.zero | exact Wd.one | apply Wd.xor | apply Wd.times | apply Wd.dbl | apply Wd.inverse)))
  (case wy0 => with_reducible (repeat' (first | assumption | exact Wd.power | exact Wd.mod | exact Wd.zero | exact Wd.one | apply Wd.xor | apply Wd.times | apply Wd.dbl | apply Wd.inverse)))
  (case wy1 => with_reducible (repeat' (first | assumption | exact Wd.power | exact Wd.mod | exact Wd.zero | exact Wd.one | apply Wd.xor | apply Wd.times | apply Wd.dbl | apply Wd.inverse)))
  (case wy2 => with_reducible (repeat' (first | assumption | exact Wd.power | exact Wd.mod | exact Wd.zero | exact Wd.one | apply Wd.xor | apply Wd.times | apply Wd.dbl | apply Wd.inverse)))
  (case wq0 => with_reducible (repeat' (first | assumption | exact Wd.power | exact Wd.mod | exact Wd.zero | exact Wd.one | apply Wd.xor | apply Wd.times | apply Wd.dbl | apply Wd.inverse)))
  (case wq1 => with_reducible (repeat' (first | assumption | exact Wd.power | exact Wd.mod | exact Wd.zero | exact Wd.one | apply Wd.xor | apply Wd.times | apply Wd.dbl | apply Wd.inverse)))
  (case wq2 => with_reducible (repeat' (first | assumption | exact Wd.power | exact Wd.mod | exact Wd.zero | exact Wd.one | apply Wd.xor | apply Wd.times | apply Wd.dbl | apply Wd.inverse)))
  (case wu => with_reducible (repeat' (first | assumption | exact Wd.power | exact Wd.mod | exact Wd.zero | exact Wd.one | apply Wd.xor | apply Wd.times | apply Wd.dbl | apply Wd.inverse)))
  (case hM => exact ⟨hM, rfl, rfl, rfl, rfl⟩)
end Mine
end
section
namespace Mine
theorem wd_sums {row : List Int} (h : ∀ x ∈ row, Wd x) : Wd (sums row).1 ∧ Wd (sums row).2.1 ∧ Wd (sums row).2.2 := by
  have gen : ∀ (l : List Int) (s : Int × Int × Int), (∀ x ∈ l, Wd x) → Wd s.1 ∧ Wd s.2.1 ∧ Wd s.2.2 → Wd (l.foldl sumsStep s).1 ∧ Wd (l.foldl sumsStep s).2.1 ∧ Wd (l.foldl sumsStep s).2.2 := by
    intro l
    induction l with
    | nil => intro s _ hs; exact hs
    | cons a r ih =>
      intro s hl hs
      rw [List.foldl_cons]
      have ha := hl a (.head _)
      exact ih _ (fun x hx => hl x (.tail _ hx)) ⟨hs.1.dbl.xor ha, hs.2.1.dbl.dbl.xor ha, hs.2.2.dbl.dbl.dbl.xor ha⟩
  exact gen row _ h ⟨Wd.one, Wd.one, Wd.one⟩
theorem seg6 (w : World) (mean : ExcName → Option Value) (mg mb : Str → Option Value) (base : Heap) (L fa c : Addr) (s : Shared) (Q : Flow → Shared → Prop) (E : Value → Shared → Prop)
    (B : Below callerA base [] base) (X : (hd.heap_39 w.params).In base) (T : Top hd.view_39 (looseW hd.view_39 []) mean mg mb base) (m₀ : Str → Option Value) (ls : Nat) (lv : List Value) (ns : List Int)
    (hL : base.IsList ls lv.toArray) (hI : IntsAre lv ns) (hns : ns.length ≤ 63)
    (hE : PassesOwn (model PySem.Challenge.rw_jb0036_01.row.prog w) (callerA.deeper (lawEnv L fa (.ref c))) (lawEnv L fa (.ref c)) E)
    (hQ : ∀ (h' : Heap) (tk' : Nat) (m' : Str → Option Value), Fr base L h' m' → Q (.ret (.bool true)) { s with heap := h', toks := tk' })
    (al ar na nr : Nat) (cs : Array UInt8) (tc t0 t1 t2 : Tok) (p0 p1 p2 : Int) (rv : List Value) (R : List Int) (oscr orow ofar : Obj) (v₀ : Option Value)
    (F : Fr base L s.heap (fun y => if y = Str.ofString "lost" then some (.ref al) else if y = Str.ofString "custom" then some (.bytes cs tc) else m₀ y))
    (N : News base L s.heap [(al, listOf #[.int p0 t0, .int p1 t1, .int p2 t2] na), (ar, listOf rv.toArray nr), (L + 3, ofar), (L + 2, orow), (L + 1, oscr)])
    (d1 : oscr.data = .cell (some (.ref ls))) (d2 : orow.data = .cell (some (.ref ar))) (d3 : ofar.data = .cell v₀)
    (n1 : Ap al ar) (n2 : Ap al (L + 1)) (n3 : Ap al (L + 2)) (n4 : Ap al (L + 3)) (n5 : Ap ar (L + 1)) (n6 : Ap ar (L + 2)) (n7 : Ap ar (L + 3))
    (hz : cs.size ≤ 3) (hR : IntsAre rv R) (hW : ∀ x ∈ R, Wd x) (h3 : 3 ≤ R.length) (h12 : R.length ≤ 12)
    (h0 : 0 ≤ p0 ∧ p0 < R.length) (h1 : 0 ≤ p1 ∧ p1 < R.length) (h2 : 0 ≤ p2 ∧ p2 < R.length) (hM : M6P R p0 p1 p2) :
    wpAny (model PySem.Challenge.rw_jb0036_01.row.prog w) (callerA.deeper (lawEnv L fa (.ref c))) (execs (lawBody.drop 6) (lawEnv L fa (.ref c))) Q E s := by
  w_top off
  k_with_none
  k_with "my call ref" => (k_here; k_dflt ((with_reducible show wpAny _ _ (call (Value.ref 40) [Value.ref _, Value.int _ _]) _ _ _); k_dflt (refine' c_number _ _ _ _ _ _ _ _ _ _ _ _ _ _ _ _ _ _ _ _ _ _ _ _ _ _ _ ?k1 ?k2 ?k3 ?k4 ?k5 ?kK ?kp ?kd ?ku ?kl ?ki ?kn ?_); (case k1 => k_asm); (case k2 => k_asm); (case k3 => k_asm); (case k4 => k_asm); (case k5 => k_asm); (case kK => first | exact rfl | assumption); (case kl => assumption); (case ki => l_ints); (case kp => first | decide | (constructor <;> omega)); (case kd => ktr_room); (case ku => ktr_units); (case kn => omega); intro t9 h9 tk9 F9 N9; (try dsimp only); (try k_fold)))
  k_with "my call ref" => (k_here; k_dflt ((with_reducible show wpAny _ _ (call (Value.ref 54) [Value.int _ _, Value.int _ _]) _ _ _); k_dflt (refine' c_times _ _ _ _ _ _ _ _ _ _ _ _ _ _ _ _ _ _ _ _ _ _ _ _ _ _ ?k1 ?k2 ?k3 ?k4 ?k5 ?kK ?kp ?kd ?ku ?_); (case k1 => k_asm); (case k2 => k_asm); (case k3 => k_asm); (case k4 => k_asm); (case k5 => k_asm); (case kK => first | exact rfl | assumption); (case kp => with_reducible (repeat' (first | assumption | exact Wd.power | exact Wd.mod | exact Wd.zero | exact Wd.one | apply And.intro | apply Wd.xor | apply Wd.times | apply Wd.dbl | apply Wd.inverse))); (case kd => ktr_room); (case ku => ktr_units); intro t9 h9 tk9 F9 N9; (try dsimp only); (try k_fold)))
  k_with "my call ref" => (k_here; k_dflt ((with_reducible show wpAny _ _ (call (Value.ref 61) [Value.int _ _]) _ _ _); k_dflt (refine' c_power _ _ _ _ _ _ _ _ _ _ _ _ _ _ _ _ _ _ _ _ _ _ _ _ ?k1 ?k2 ?k3 ?k4 ?k5 ?kK ?kp ?kd ?ku ?_); (case k1 => k_asm); (case k2 => k_asm); (case k3 => k_asm); (case k4 => k_asm); (case k5 => k_asm); (case kK => first | exact rfl | assumption); (case kp => constructor <;> omega); (case kd => ktr_room); (case ku => ktr_units); intro t9 h9 tk9 F9 N9; (try dsimp only); (try k_fold)))
  k_with "my call ref" => (k_here; k_dflt ((with_reducible show wpAny _ _ (call (Value.ref 68) [Value.int _ _]) _ _ _); k_dflt (refine' c_inverse _ _ _ _ _ _ _ _ _ _ _ _ _ _ _ _ _ _ _ _ _ _ _ _ ?k1 ?k2 ?k3 ?k4 ?k5 ?kK ?kp ?kd ?ku ?_); (case k1 => k_asm); (case k2 => k_asm); (case k3 => k_asm); (case k4 => k_asm); (case k5 => k_asm); (case kK => first | exact rfl | assumption); (case kp => with_reducible (repeat' (first | assumption | exact Wd.power | exact Wd.mod | exact Wd.zero | exact Wd.one | apply And.intro | apply Wd.xor | apply Wd.times | apply Wd.dbl | apply Wd.inverse))); (case kd => ktr_room); (case ku => ktr_units); intro t9 h9 tk9 F9 N9; (try dsimp only); (try k_fold)))
  k_with "my call ref" => (k_here; k_dflt ((with_reducible show wpAny _ _ (call (Value.ref 75) [Value.ref _]) _ _ _); k_dflt (refine' c_sums _ _ _ _ _ _ _ _ _ _ _ _ _ _ _ _ _ _ _ _ _ _ _ _ _ _ ?k1 ?k2 ?k3 ?k4 ?k5 ?kK ?kp ?kd ?ku ?kl ?ki ?kn ?_); (case k1 => k_asm); (case k2 => k_asm); (case k3 => k_asm); (case k4 => k_asm); (case k5 => k_asm); (case kK => first | exact rfl | assumption); (case kl => k_mem); (case ki => l_ints); (case kp => apply_rules [wd_app, wd_octs]); (case kd => ktr_room); (case ku => ktr_units); (case kn => first | assumption | ((simp only [KBw.ints_length, List.length_append, List.length_cons, List.length_nil, List.length_map]); omega)); intro t1' t2' t3' l9 h9 tk9 F9 N9 l1; (try k_lt l1); (try dsimp only); (try k_fold)))
  k_with "my call type:list" => (k_here; (with_reducible show wpAny _ _ (call (Value.type "list") [Value.bytes _ _]) _ _ _); k_dflt (refine' list_octs ?k1 ?k2 ?k3 ?k4 ?_; (case k1 => rfl); (case k2 => k_asm); (case k3 => k_asm); (case k4 => first | assumption | omega); k_whole); intro D' vs' c' h' tk' F' N' l1 hI'; (try k_lt l1); (try k_sweep))
  k_with "my size_fits" => (rw [sizeLine_eq]; (try simp only [KBw.ints_length, List.length_append, List.length_cons, List.length_nil, List.length_map]); omega)
  k_with "my CompSrc" => (k_here; k_dflt (refine PyProof.Rows.LCg.CompSrc.ledger (by rfl) (by k_asm) (by k_asm) (by k_mem) (by exact Nat.le_of_ble_eq_true rfl) ?_; intro g'; lcg_lit))
  k_with "my CompRest" => (k_dflt (first | (refine PyProof.Rows.LCg.CompRest.succ ?_; intro v' I' oI' C' oC' D' m' h' tk' E' hv' hC' hx' F' N' off' ne'; clear ne'; lcg_open hv') | refine PyProof.Rows.LCg.CompRest.zero ?_))
  k_with "my CompEnd" => (k_dflt (refine PyProof.Rows.LCg.CompEnd.intro (by assumption) (by assumption) _ (fun _ hp => hp) (by assumption) (by first | lcg_src | k_mem) ?_))
  k_with "my FinE" => ((unfold PyProof.Rows.LCg.FinE); intro D' h' tk' F' N' o1'; (try simp only [List.nil_append, List.cons_append] at N'); (try dsimp only))
  k_with "my FinA" => ((unfold PyProof.Rows.LCg.FinA); intro D' h' tk' F' N' o1'; (try simp only [List.nil_append, List.cons_append] at N'); (try dsimp only))
  k_with "my k_ne" => (refine neN ?_; (try dsimp only); k_dflt (first | exact Ap.ne (by assumption) | exact Ne.symm (Ap.ne (by assumption)) | exact off1_ne' (by assumption) (by k_mem) | exact Ne.symm (off1_ne' (by assumption) (by k_mem)) | omega))
  k_with "my exec Assign cons ListComp" => (k_here; (with_reducible show wpAny _ _ (exec (PySem.Stmt.Assign _ (PySem.Expr.ListComp _ (List.cons (PySem.Comprehension.mk (PySem.Expr.Tuple _ _ _) _ _ _) _) _ _) _) _) _ _ _); k_dflt (refine Assign_tup (_F₀ := by k_asm) (by rfl) (by with_unfolding_all rfl) (by with_unfolding_all rfl) (by decide) (by rfl) (by decide) (by rfl) (by rfl) (by decide) (by rfl) (by rfl) ?_))
  k_with "my TupSrc" => (k_here; k_dflt (refine TupSrc.ledger (by rfl) (by k_asm) (by k_asm) (by k_mem) (by exact Nat.le_of_ble_eq_true rfl) ?_; intro g'; lcp_lit))
  k_with "my CompRestP" => (k_dflt (first | (refine PyProof.Rows.LCp.CompRestP.succ ?_; intro v' hv'; lcg_open hv'; refine ⟨_, _, _, _, _, rfl, by k_mem, rfl, rfl, ?_⟩; intro I' oI' C' oC' D' m' h' tk' E' hC' hx' hy' F' N' off' ne'; clear ne') | refine PyProof.Rows.LCp.CompRestP.zero ?_))
  k_with "my exec For Tuple Tuple cons nil" => (k_here; (rename Fr _ _ _ _ => lF'); k_dflt (refine' For_turns lF' ?_ (hE := by assumption); k_whole))
  k_with "my subscriptTail Name Constant ref int" => (k_here; (with_reducible show wpAny _ _ (subscriptTail _ _ (Value.ref _) (Value.int _ _)) _ _ _); k_dflt (refine' item_litK ?k1 ?k2 ?k3 ?k4 ?_ ?k6; (case k1 => is_list); (case k2 => decide); (case k3 => decide); (case k4 => rfl); (case k6 => with_unfolding_all rfl); k_whole))
  k_with "my subscriptTail Name Name ref int" => (k_here; (with_reducible show wpAny _ _ (subscriptTail _ _ (Value.ref _) (Value.int _ _)) _ _ _); k_dflt (refine' item_litK ?k1 ?k2 ?k3 ?k4 ?_ ?k6; (case k1 => is_list); (case k2 => decide); (case k3 => decide); (case k4 => rfl); (case k6 => with_unfolding_all rfl); k_whole))
  k_with "my execs cons" => (k_here; (with_reducible show wpAny _ _ (execs (List.cons (PySem.Stmt.Assign (List.cons (PySem.Expr.Name (PySem.Str.ofString "pairs") _) _) _ _) _) _) _ _ _); k_dflt (refine Stop.out ?_))
  conv in (List.drop _ _) => whnf
  dsimp only [lawEnv]
  dsimp only [lawEnv] at hE
  conv in (occs := *) lawScope => all_goals whnf
  conv at hE in (occs := *) lawScope => all_goals whnf
  revert X
  k_fill
  intro X
  try k_fold
  obtain ⟨a0, b0⟩ := h0
  obtain ⟨a1, b1⟩ := h1
  obtain ⟨a2, b2⟩ := h2
  k_steps
  have h0 := And.intro a0 b0
  have h1 := And.intro a1 b1
  have h2 := And.intro a2 b2
  refine Stop.mk ?_
  refine' seg8 _ _ _ _ _ _ _ _ _ _ _ ?B ?X ?T _ _ _ _ ?hL ?hI ?hns ?hE ?hQ _ _ _ _ _ _ _ _ _ _ _ _ _ _ _ _ _ _ _ _ _ _ _ _ _ _ _ _ _ _ _ _ _ ?F ?N ?d1 ?d2 ?d3 ?n1 ?n2 ?n3 ?n5 ?n6 ?n7 ?hz ?hR ?hW ?h3 ?h12 ?h0 ?h1 ?h2 ?wx0 ?wx1 ?wx2 ?wy0 ?wy1 ?wy2 ?hM
  (case B => exact B)
  (case X => exact X)
  (case T => exact T)
  (case F => assumption)
  (case d1 => exact d1)
  (case d2 => exact d2)
  (case d3 => assumption)
  (case N => (refine news_sub (by assumption) ?_; (repeat' first | exact List.forall_mem_nil _ | refine List.forall_mem_cons.mpr ⟨by k_mem, ?_⟩)))
  (case n1 => first | assumption | exact (off1_ne' (by assumption) (by k_mem)) | exact (off1_ne' (by assumption) (by k_mem)).symm)
  (case n2 => first | assumption | exact (off1_ne' (by assumption) (by k_mem)) | exact (off1_ne' (by assumption) (by k_mem)).symm)
  (case n3 => first | assumption | exact (off1_ne' (by assumption) (by k_mem)) | exact (off1_ne' (by assumption) (by k_mem)).symm)
  (case n5 => first | assumption | exact (off1_ne' (by assumption) (by k_mem)) | exact (off1_ne' (by assumption) (by k_mem)).symm)
  (case n6 => first | assumption | exact (off1_ne' (by assumption) (by k_mem)) | exact (off1_ne' (by assumption) (by k_mem)).symm)
  (case n7 => first | assumption | exact (off1_ne' (by assumption) (by k_mem)) | exact (off1_ne' (by assumption) (by k_mem)).symm)
  (case hL => exact hL)
  (case hI => exact hI)
  (case hns => exact hns)
  (case hE => exact hE)
  (case hQ => exact hQ)
  (case hz => exact hz)
  (case hR => exact hR)
  (case hW => exact hW)
  (case h3 => exact h3)
  (case h12 => exact h12)
  (case h0 => exact h0)
  (case h1 => exact h1)
  (case h2 => exact h2)
  (case wx0 => exact Wd.power)
  (case wx1 => exact Wd.power)
  (case wx2 => exact Wd.power)
  (case wy0 => exact (wd_sums (wd_app wd_octs hW)).1.xor Wd.one)
  (case wy1 => exact (wd_sums (wd_app wd_octs hW)).2.1.xor Wd.one)
  (case wy2 => exact (wd_sums (wd_app wd_octs hW)).2.2.xor Wd.one)
  (case hM => exact ⟨hM, ⟨rfl, rfl, rfl⟩, rfl, rfl, rfl⟩)
end Mine
end
section
namespace Mine
theorem seg5 (w : World) (mean : ExcName → Option Value) (mg mb : Str → Option Value) (base : Heap) (L fa c : Addr) (s : Shared) (Q : Flow → Shared → Prop) (E : Value → Shared → Prop)
    (B : Below callerA base [] base) (X : (hd.heap_39 w.params).In base) (T : Top hd.view_39 (looseW hd.view_39 []) mean mg mb base) (m₀ : Str → Option Value) (ls : Nat) (lv : List Value) (ns : List Int)
    (hL : base.IsList ls lv.toArray) (hI : IntsAre lv ns) (hns : ns.length ≤ 63)
    (hE : PassesOwn (model PySem.Challenge.rw_jb0036_01.row.prog w) (callerA.deeper (lawEnv L fa (.ref c))) (lawEnv L fa (.ref c)) E)
    (hQ : ∀ (h' : Heap) (tk' : Nat) (m' : Str → Option Value), Fr base L h' m' → Q (.ret (.bool true)) { s with heap := h', toks := tk' })
    (al ar na nr : Nat) (cs : Array UInt8) (tc t0 t1 t2 : Tok) (p0 p1 p2 : Int) (rv : List Value) (R : List Int) (oscr orow ofar : Obj) (v₀ : Option Value)
    (F : Fr base L s.heap (fun y => if y = Str.ofString "lost" then some (.ref al) else if y = Str.ofString "custom" then some (.bytes cs tc) else m₀ y))
    (N : News base L s.heap [(al, listOf #[.int p0 t0, .int p1 t1, .int p2 t2] na), (ar, listOf rv.toArray nr), (L + 3, ofar), (L + 2, orow), (L + 1, oscr)])
    (d1 : oscr.data = .cell (some (.ref ls))) (d2 : orow.data = .cell (some (.ref ar))) (d3 : ofar.data = .cell v₀)
    (n1 : Ap al ar) (n2 : Ap al (L + 1)) (n3 : Ap al (L + 2)) (n4 : Ap al (L + 3)) (n5 : Ap ar (L + 1)) (n6 : Ap ar (L + 2)) (n7 : Ap ar (L + 3))
    (hz : cs.size ≤ 3) (hR : IntsAre rv R) (hW : ∀ x ∈ R, Wd x) (h3 : 3 ≤ R.length) (h12 : R.length ≤ 12)
    (hP : Dis3 p0 p1 p2 ∧ (0 ≤ p0 ∧ p0 < (R.length : Int)) ∧ (0 ≤ p1 ∧ p1 < (R.length : Int)) ∧ (0 ≤ p2 ∧ p2 < (R.length : Int))) :
    wpAny (model PySem.Challenge.rw_jb0036_01.row.prog w) (callerA.deeper (lawEnv L fa (.ref c))) (execs (lawBody.drop 5) (lawEnv L fa (.ref c))) Q E s := by
  w_top off
  k_with_none
  k_with "my call ref" => (k_here; k_dflt ((with_reducible show wpAny _ _ (call (Value.ref 40) [Value.ref _, Value.int _ _]) _ _ _); k_dflt (refine' c_number _ _ _ _ _ _ _ _ _ _ _ _ _ _ _ _ _ _ _ _ _ _ _ _ _ _ _ ?k1 ?k2 ?k3 ?k4 ?k5 ?kK ?kp ?kd ?ku ?kl ?ki ?kn ?_); (case k1 => k_asm); (case k2 => k_asm); (case k3 => k_asm); (case k4 => k_asm); (case k5 => k_asm); (case kK => first | exact rfl | assumption); (case kl => assumption); (case ki => l_ints); (case kp => first | decide | (constructor <;> omega)); (case kd => ktr_room); (case ku => ktr_units); (case kn => omega); intro t9 h9 tk9 F9 N9; (try dsimp only); (try k_fold)))
  k_with "my call ref" => (k_here; k_dflt ((with_reducible show wpAny _ _ (call (Value.ref 54) [Value.int _ _, Value.int _ _]) _ _ _); k_dflt (refine' c_times _ _ _ _ _ _ _ _ _ _ _ _ _ _ _ _ _ _ _ _ _ _ _ _ _ _ ?k1 ?k2 ?k3 ?k4 ?k5 ?kK ?kp ?kd ?ku ?_); (case k1 => k_asm); (case k2 => k_asm); (case k3 => k_asm); (case k4 => k_asm); (case k5 => k_asm); (case kK => first | exact rfl | assumption); (case kp => with_reducible (repeat' (first | assumption | exact Wd.power | exact Wd.mod | exact Wd.zero | exact Wd.one | apply And.intro | apply Wd.xor | apply Wd.times | apply Wd.dbl | apply Wd.inverse))); (case kd => ktr_room); (case ku => ktr_units); intro t9 h9 tk9 F9 N9; (try dsimp only); (try k_fold)))
  k_with "my call ref" => (k_here; k_dflt ((with_reducible show wpAny _ _ (call (Value.ref 61) [Value.int _ _]) _ _ _); k_dflt (refine' c_power _ _ _ _ _ _ _ _ _ _ _ _ _ _ _ _ _ _ _ _ _ _ _ _ ?k1 ?k2 ?k3 ?k4 ?k5 ?kK ?kp ?kd ?ku ?_); (case k1 => k_asm); (case k2 => k_asm); (case k3 => k_asm); (case k4 => k_asm); (case k5 => k_asm); (case kK => first | exact rfl | assumption); (case kp => constructor <;> omega); (case kd => ktr_room); (case ku => ktr_units); intro t9 h9 tk9 F9 N9; (try dsimp only); (try k_fold)))
  k_with "my call ref" => (k_here; k_dflt ((with_reducible show wpAny _ _ (call (Value.ref 68) [Value.int _ _]) _ _ _); k_dflt (refine' c_inverse _ _ _ _ _ _ _ _ _ _ _ _ _ _ _ _ _ _ _ _ _ _ _ _ ?k1 ?k2 ?k3 ?k4 ?k5 ?kK ?kp ?kd ?ku ?_); (case k1 => k_asm); (case k2 => k_asm); (case k3 => k_asm); (case k4 => k_asm); (case k5 => k_asm); (case kK => first | exact rfl | assumption); (case kp => with_reducible (repeat' (first | assumption | exact Wd.power | exact Wd.mod | exact Wd.zero | exact Wd.one | apply And.intro | apply Wd.xor | apply Wd.times | apply Wd.dbl | apply Wd.inverse))); (case kd => ktr_room); (case ku => ktr_units); intro t9 h9 tk9 F9 N9; (try dsimp only); (try k_fold)))
  k_with "my call ref" => (k_here; k_dflt ((with_reducible show wpAny _ _ (call (Value.ref 75) [Value.ref _]) _ _ _); k_dflt (refine' c_sums _ _ _ _ _ _ _ _ _ _ _ _ _ _ _ _ _ _ _ _ _ _ _ _ _ _ ?k1 ?k2 ?k3 ?k4 ?k5 ?kK ?kp ?kd ?ku ?kl ?ki ?kn ?_); (case k1 => k_asm); (case k2 => k_asm); (case k3 => k_asm); (case k4 => k_asm); (case k5 => k_asm); (case kK => first | exact rfl | assumption); (case kl => k_mem); (case ki => l_ints); (case kp => apply_rules [wd_app, wd_octs]); (case kd => ktr_room); (case ku => ktr_units); (case kn => first | assumption | ((simp only [KBw.ints_length, List.length_append, List.length_cons, List.length_nil, List.length_map]); omega)); intro t1' t2' t3' l9 h9 tk9 F9 N9 l1; (try k_lt l1); (try dsimp only); (try k_fold)))
  k_with "my call type:list" => (k_here; (with_reducible show wpAny _ _ (call (Value.type "list") [Value.bytes _ _]) _ _ _); k_dflt (refine' list_octs ?k1 ?k2 ?k3 ?k4 ?_; (case k1 => rfl); (case k2 => k_asm); (case k3 => k_asm); (case k4 => first | assumption | omega); k_whole); intro D' vs' c' h' tk' F' N' l1 hI'; (try k_lt l1); (try k_sweep))
  k_with "my size_fits" => (rw [sizeLine_eq]; (try simp only [KBw.ints_length, List.length_append, List.length_cons, List.length_nil, List.length_map]); omega)
  k_with "my CompSrc" => (k_here; k_dflt (refine PyProof.Rows.LCg.CompSrc.ledger (by rfl) (by k_asm) (by k_asm) (by k_mem) (by exact Nat.le_of_ble_eq_true rfl) ?_; intro g'; lcg_lit))
  k_with "my CompRest" => (k_dflt (first | (refine PyProof.Rows.LCg.CompRest.succ ?_; intro v' I' oI' C' oC' D' m' h' tk' E' hv' hC' hx' F' N' off' ne'; clear ne'; lcg_open hv') | refine PyProof.Rows.LCg.CompRest.zero ?_))
  k_with "my CompEnd" => (k_dflt (refine PyProof.Rows.LCg.CompEnd.intro (by assumption) (by assumption) _ (fun _ hp => hp) (by assumption) (by first | lcg_src | k_mem) ?_))
  k_with "my FinE" => ((unfold PyProof.Rows.LCg.FinE); intro D' h' tk' F' N' o1'; (try simp only [List.nil_append, List.cons_append] at N'); (try dsimp only))
  k_with "my FinA" => ((unfold PyProof.Rows.LCg.FinA); intro D' h' tk' F' N' o1'; (try simp only [List.nil_append, List.cons_append] at N'); (try dsimp only))
  k_with "my k_ne" => (refine neN ?_; (try dsimp only); k_dflt (first | exact Ap.ne (by assumption) | exact Ne.symm (Ap.ne (by assumption)) | exact off1_ne' (by assumption) (by k_mem) | exact Ne.symm (off1_ne' (by assumption) (by k_mem)) | omega))
  k_with "my exec Assign cons ListComp" => (k_here; (with_reducible show wpAny _ _ (exec (PySem.Stmt.Assign _ (PySem.Expr.ListComp _ (List.cons (PySem.Comprehension.mk (PySem.Expr.Tuple _ _ _) _ _ _) _) _ _) _) _) _ _ _); k_dflt (refine Assign_tup (_F₀ := by k_asm) (by rfl) (by with_unfolding_all rfl) (by with_unfolding_all rfl) (by decide) (by rfl) (by decide) (by rfl) (by rfl) (by decide) (by rfl) (by rfl) ?_))
  k_with "my TupSrc" => (k_here; k_dflt (refine TupSrc.ledger (by rfl) (by k_asm) (by k_asm) (by k_mem) (by exact Nat.le_of_ble_eq_true rfl) ?_; intro g'; lcp_lit))
  k_with "my CompRestP" => (k_dflt (first | (refine PyProof.Rows.LCp.CompRestP.succ ?_; intro v' hv'; lcg_open hv'; refine ⟨_, _, _, _, _, rfl, by k_mem, rfl, rfl, ?_⟩; intro I' oI' C' oC' D' m' h' tk' E' hC' hx' hy' F' N' off' ne'; clear ne') | refine PyProof.Rows.LCp.CompRestP.zero ?_))
  k_with "my exec For Tuple Tuple cons nil" => (k_here; (rename Fr _ _ _ _ => lF'); k_dflt (refine' For_turns lF' ?_ (hE := by assumption); k_whole))
  k_with "my subscriptTail Name Constant ref int" => (k_here; (with_reducible show wpAny _ _ (subscriptTail _ _ (Value.ref _) (Value.int _ _)) _ _ _); k_dflt (refine' item_litK ?k1 ?k2 ?k3 ?k4 ?_ ?k6; (case k1 => is_list); (case k2 => decide); (case k3 => decide); (case k4 => rfl); (case k6 => with_unfolding_all rfl); k_whole))
  k_with "my subscriptTail Name Name ref int" => (k_here; (with_reducible show wpAny _ _ (subscriptTail _ _ (Value.ref _) (Value.int _ _)) _ _ _); k_dflt (refine' item_litK ?k1 ?k2 ?k3 ?k4 ?_ ?k6; (case k1 => is_list); (case k2 => decide); (case k3 => decide); (case k4 => rfl); (case k6 => with_unfolding_all rfl); k_whole))
  k_with "my passes_own" => assumption
  k_with "my binaryOp Mod int int" => (k_dflt (refine' PyProof.Rows.mod_int' ?k1 ?_; (case k1 => first | decide | omega | (simp only [rangeKs_length, List.length_eraseIdx]; omega) | (simp only [rangeKs_length, List.length_eraseIdx]; (repeat' split) <;> omega))))
  k_with "my call builtin:list.pop" => (k_here; (with_reducible show wpAny _ _ (call (Value.builtin _) [Value.ref _, Value.int _ _]) _ _ _); k_dflt (refine' pop_any ?F ?N ?i ?a ?b ?z ?U ?_; (case F => k_asm); (case N => k_asm); (case U => k_upd); (case i => assumption); (case a => exact fm0 (by ((simp only [rangeKs_length, List.length_eraseIdx]); (repeat' split) <;> omega))); (case b => exact fm1 (by ((simp only [rangeKs_length, List.length_eraseIdx]); (repeat' split) <;> omega))); (case z => ((simp only [rangeKs_length, List.length_eraseIdx]); (repeat' split) <;> omega)); k_whole); intro h' t' F' N' hI'; (try k_sweep))
  k_with "my call builtin:len" => (k_here; (with_reducible show wpAny _ _ (call (Value.builtin _) [Value.ref _]) _ _ _); k_dflt (refine' len_ints_fit ?k1 ?k2 ?k3 ?_; (case k1 => is_list); (case k2 => l_ints); (case k3 => first | l_fit | ((simp only [rangeKs_length, List.length_eraseIdx]); (repeat' split) <;> omega)); k_whole))
  k_with "my execs cons" => (k_here; (with_reducible show wpAny _ _ (execs (List.cons (PySem.Stmt.Assign (List.cons (PySem.Expr.Name (PySem.Str.ofString "miss") _) _) _ _) _) _) _ _ _); k_dflt (refine Stop.out ?_))
  conv in (List.drop _ _) => whnf
  dsimp only [lawEnv]
  dsimp only [lawEnv] at hE
  conv in (occs := *) lawScope => all_goals whnf
  conv at hE in (occs := *) lawScope => all_goals whnf
  revert X
  k_fill
  intro X
  try k_fold
  obtain ⟨hM, ⟨a0, b0⟩, ⟨a1, b1⟩, ⟨a2, b2⟩⟩ := hP
  k_steps
  refine Stop.mk ?_
  refine' seg6 _ _ _ _ _ _ _ _ _ _ _ ?B ?X ?T _ _ _ _ ?hL ?hI ?hns ?hE ?hQ _ _ _ _ _ _ _ _ _ _ _ _ _ _ _ _ _ _ ?F ?N ?d1 ?d2 ?d3 ?n1 ?n2 ?n3 ?n4 ?n5 ?n6 ?n7 ?hz ?hR ?hW ?h3 ?h12 ?h0 ?h1 ?h2 ?hM
  (case B => exact B)
  (case X => exact X)
  (case T => exact T)
  (case F => exact fr_pick2 (by assumption) (by exact rfl) (by exact rfl))
  (case d1 => exact d1)
  (case d2 => exact d2)
  (case d3 => exact d3)
  (case N => (refine news_sub (by assumption) ?_; (repeat' first | exact List.forall_mem_nil _ | refine List.forall_mem_cons.mpr ⟨by k_mem, ?_⟩)))
  (case n1 => assumption)
  (case n2 => assumption)
  (case n3 => assumption)
  (case n4 => assumption)
  (case n5 => assumption)
  (case n6 => assumption)
  (case n7 => assumption)
  (case hL => exact hL)
  (case hI => exact hI)
  (case hns => exact hns)
  (case hE => exact hE)
  (case hQ => exact hQ)
  (case hz => exact hz)
  (case hR => assumption)
  (case hW => exact wd_set (wd_set (wd_set hW Wd.zero) Wd.zero) Wd.zero)
  (case h3 => (first | (simp only [List.length_set]; assumption) | (simp only [List.length_set]; exact ⟨by assumption, by assumption⟩)))
  (case h12 => (first | (simp only [List.length_set]; assumption) | (simp only [List.length_set]; exact ⟨by assumption, by assumption⟩)))
  (case h0 => (first | (simp only [List.length_set]; assumption) | (simp only [List.length_set]; exact ⟨by assumption, by assumption⟩)))
  (case h1 => (first | (simp only [List.length_set]; assumption) | (simp only [List.length_set]; exact ⟨by assumption, by assumption⟩)))
  (case h2 => (first | (simp only [List.length_set]; assumption) | (simp only [List.length_set]; exact ⟨by assumption, by assumption⟩)))
  (case hM => exact M6of hM a0 b0 a1 b1 a2 b2)
end Mine
end
section
namespace Mine
theorem seg2 (w : World) (mean : ExcName → Option Value) (mg mb : Str → Option Value) (base : Heap) (L fa c : Addr) (s : Shared) (Q : Flow → Shared → Prop) (E : Value → Shared → Prop)
    (B : Below callerA base [] base) (X : (hd.heap_39 w.params).In base) (T : Top hd.view_39 (looseW hd.view_39 []) mean mg mb base) (m₀ : Str → Option Value) (ls : Nat) (lv : List Value) (ns : List Int)
    (hL : base.IsList ls lv.toArray) (hI : IntsAre lv ns) (hns : ns.length ≤ 63)
    (hE : PassesOwn (model PySem.Challenge.rw_jb0036_01.row.prog w) (callerA.deeper (lawEnv L fa (.ref c))) (lawEnv L fa (.ref c)) E)
    (hQ : ∀ (h' : Heap) (tk' : Nat) (m' : Str → Option Value), Fr base L h' m' → Q (.ret (.bool true)) { s with heap := h', toks := tk' })
    (ar nr : Nat) (cs : Array UInt8) (tc : Tok) (rv : List Value) (R : List Int) (oscr orow ofar : Obj) (v₀ : Option Value)
    (F : Fr base L s.heap (fun y => if y = Str.ofString "custom" then some (.bytes cs tc) else m₀ y))
    (N : News base L s.heap [(ar, listOf rv.toArray nr), (L + 3, ofar), (L + 2, orow), (L + 1, oscr)])
    (d1 : oscr.data = .cell (some (.ref ls))) (d2 : orow.data = .cell (some (.ref ar))) (d3 : ofar.data = .cell v₀)
    (n5 : Ap ar (L + 1)) (n6 : Ap ar (L + 2)) (n7 : Ap ar (L + 3))
    (hz : cs.size ≤ 3) (hR : IntsAre rv R) (hW : ∀ x ∈ R, Wd x) (h3 : 3 ≤ R.length) (h12 : R.length ≤ 12) :
    wpAny (model PySem.Challenge.rw_jb0036_01.row.prog w) (callerA.deeper (lawEnv L fa (.ref c))) (execs (lawBody.drop 2) (lawEnv L fa (.ref c))) Q E s := by
  w_top off
  k_with_none
  k_with "my call ref" => (k_here; k_dflt ((with_reducible show wpAny _ _ (call (Value.ref 40) [Value.ref _, Value.int _ _]) _ _ _); k_dflt (refine' c_number _ _ _ _ _ _ _ _ _ _ _ _ _ _ _ _ _ _ _ _ _ _ _ _ _ _ _ ?k1 ?k2 ?k3 ?k4 ?k5 ?kK ?kp ?kd ?ku ?kl ?ki ?kn ?_); (case k1 => k_asm); (case k2 => k_asm); (case k3 => k_asm); (case k4 => k_asm); (case k5 => k_asm); (case kK => first | exact rfl | assumption); (case kl => assumption); (case ki => l_ints); (case kp => first | decide | (constructor <;> omega)); (case kd => ktr_room); (case ku => ktr_units); (case kn => omega); intro t9 h9 tk9 F9 N9; (try dsimp only); (try k_fold)))
  k_with "my call ref" => (k_here; k_dflt ((with_reducible show wpAny _ _ (call (Value.ref 54) [Value.int _ _, Value.int _ _]) _ _ _); k_dflt (refine' c_times _ _ _ _ _ _ _ _ _ _ _ _ _ _ _ _ _ _ _ _ _ _ _ _ _ _ ?k1 ?k2 ?k3 ?k4 ?k5 ?kK ?kp ?kd ?ku ?_); (case k1 => k_asm); (case k2 => k_asm); (case k3 => k_asm); (case k4 => k_asm); (case k5 => k_asm); (case kK => first | exact rfl | assumption); (case kp => with_reducible (repeat' (first | assumption | exact Wd.power | exact Wd.mod | exact Wd.zero | exact Wd.one | apply And.intro | apply Wd.xor | apply Wd.times | apply Wd.dbl | apply Wd.inverse))); (case kd => ktr_room); (case ku => ktr_units); intro t9 h9 tk9 F9 N9; (try dsimp only); (try k_fold)))
  k_with "my call ref" => (k_here; k_dflt ((with_reducible show wpAny _ _ (call (Value.ref 61) [Value.int _ _]) _ _ _); k_dflt (refine' c_power _ _ _ _ _ _ _ _ _ _ _ _ _ _ _ _ _ _ _ _ _ _ _ _ ?k1 ?k2 ?k3 ?k4 ?k5 ?kK ?kp ?kd ?ku ?_); (case k1 => k_asm); (case k2 => k_asm); (case k3 => k_asm); (case k4 => k_asm); (case k5 => k_asm); (case kK => first | exact rfl | assumption); (case kp => constructor <;> omega); (case kd => ktr_room); (case ku => ktr_units); intro t9 h9 tk9 F9 N9; (try dsimp only); (try k_fold)))
  k_with "my call ref" => (k_here; k_dflt ((with_reducible show wpAny _ _ (call (Value.ref 68) [Value.int _ _]) _ _ _); k_dflt (refine' c_inverse _ _ _ _ _ _ _ _ _ _ _ _ _ _ _ _ _ _ _ _ _ _ _ _ ?k1 ?k2 ?k3 ?k4 ?k5 ?kK ?kp ?kd ?ku ?_); (case k1 => k_asm); (case k2 => k_asm); (case k3 => k_asm); (case k4 => k_asm); (case k5 => k_asm); (case kK => first | exact rfl | assumption); (case kp => with_reducible (repeat' (first | assumption | exact Wd.power | exact Wd.mod | exact Wd.zero | exact Wd.one | apply And.intro | apply Wd.xor | apply Wd.times | apply Wd.dbl | apply Wd.inverse))); (case kd => ktr_room); (case ku => ktr_units); intro t9 h9 tk9 F9 N9; (try dsimp only); (try k_fold)))
  k_with "my call ref" => (k_here; k_dflt ((with_reducible show wpAny _ _ (call (Value.ref 75) [Value.ref _]) _ _ _); k_dflt (refine' c_sums _ _ _ _ _ _ _ _ _ _ _ _ _ _ _ _ _ _ _ _ _ _ _ _ _ _ ?k1 ?k2 ?k3 ?k4 ?k5 ?kK ?kp ?kd ?ku ?kl ?ki ?kn ?_); (case k1 => k_asm); (case k2 => k_asm); (case k3 => k_asm); (case k4 => k_asm); (case k5 => k_asm); (case kK => first | exact rfl | assumption); (case kl => k_mem); (case ki => l_ints); (case kp => apply_rules [wd_app, wd_octs]); (case kd => ktr_room); (case ku => ktr_units); (case kn => first | assumption | ((simp only [KBw.ints_length, List.length_append, List.length_cons, List.length_nil, List.length_map]); omega)); intro t1' t2' t3' l9 h9 tk9 F9 N9 l1; (try k_lt l1); (try dsimp only); (try k_fold)))
  k_with "my call type:list" => (k_here; (with_reducible show wpAny _ _ (call (Value.type "list") [Value.bytes _ _]) _ _ _); k_dflt (refine' list_octs ?k1 ?k2 ?k3 ?k4 ?_; (case k1 => rfl); (case k2 => k_asm); (case k3 => k_asm); (case k4 => first | assumption | omega); k_whole); intro D' vs' c' h' tk' F' N' l1 hI'; (try k_lt l1); (try k_sweep))
  k_with "my size_fits" => (rw [sizeLine_eq]; (try simp only [KBw.ints_length, List.length_append, List.length_cons, List.length_nil, List.length_map]); omega)
  k_with "my CompSrc" => (k_here; k_dflt (refine PyProof.Rows.LCg.CompSrc.ledger (by rfl) (by k_asm) (by k_asm) (by k_mem) (by exact Nat.le_of_ble_eq_true rfl) ?_; intro g'; lcg_lit))
  k_with "my CompRest" => (k_dflt (first | (refine PyProof.Rows.LCg.CompRest.succ ?_; intro v' I' oI' C' oC' D' m' h' tk' E' hv' hC' hx' F' N' off' ne'; clear ne'; lcg_open hv') | refine PyProof.Rows.LCg.CompRest.zero ?_))
  k_with "my CompEnd" => (k_dflt (refine PyProof.Rows.LCg.CompEnd.intro (by assumption) (by assumption) _ (fun _ hp => hp) (by assumption) (by first | lcg_src | k_mem) ?_))
  k_with "my FinE" => ((unfold PyProof.Rows.LCg.FinE); intro D' h' tk' F' N' o1'; (try simp only [List.nil_append, List.cons_append] at N'); (try dsimp only))
  k_with "my FinA" => ((unfold PyProof.Rows.LCg.FinA); intro D' h' tk' F' N' o1'; (try simp only [List.nil_append, List.cons_append] at N'); (try dsimp only))
  k_with "my k_ne" => (refine neN ?_; (try dsimp only); k_dflt (first | exact Ap.ne (by assumption) | exact Ne.symm (Ap.ne (by assumption)) | exact off1_ne' (by assumption) (by k_mem) | exact Ne.symm (off1_ne' (by assumption) (by k_mem)) | omega))
  k_with "my exec Assign cons ListComp" => (k_here; (with_reducible show wpAny _ _ (exec (PySem.Stmt.Assign _ (PySem.Expr.ListComp _ (List.cons (PySem.Comprehension.mk (PySem.Expr.Tuple _ _ _) _ _ _) _) _ _) _) _) _ _ _); k_dflt (refine Assign_tup (_F₀ := by k_asm) (by rfl) (by with_unfolding_all rfl) (by with_unfolding_all rfl) (by decide) (by rfl) (by decide) (by rfl) (by rfl) (by decide) (by rfl) (by rfl) ?_))
  k_with "my TupSrc" => (k_here; k_dflt (refine TupSrc.ledger (by rfl) (by k_asm) (by k_asm) (by k_mem) (by exact Nat.le_of_ble_eq_true rfl) ?_; intro g'; lcp_lit))
  k_with "my CompRestP" => (k_dflt (first | (refine PyProof.Rows.LCp.CompRestP.succ ?_; intro v' hv'; lcg_open hv'; refine ⟨_, _, _, _, _, rfl, by k_mem, rfl, rfl, ?_⟩; intro I' oI' C' oC' D' m' h' tk' E' hC' hx' hy' F' N' off' ne'; clear ne') | refine PyProof.Rows.LCp.CompRestP.zero ?_))
  k_with "my exec For Tuple Tuple cons nil" => (k_here; (rename Fr _ _ _ _ => lF'); k_dflt (refine' For_turns lF' ?_ (hE := by assumption); k_whole))
  k_with "my subscriptTail Name Constant ref int" => (k_here; (with_reducible show wpAny _ _ (subscriptTail _ _ (Value.ref _) (Value.int _ _)) _ _ _); k_dflt (refine' item_litK ?k1 ?k2 ?k3 ?k4 ?_ ?k6; (case k1 => is_list); (case k2 => decide); (case k3 => decide); (case k4 => rfl); (case k6 => with_unfolding_all rfl); k_whole))
  k_with "my subscriptTail Name Name ref int" => (k_here; (with_reducible show wpAny _ _ (subscriptTail _ _ (Value.ref _) (Value.int _ _)) _ _ _); k_dflt (refine' item_litK ?k1 ?k2 ?k3 ?k4 ?_ ?k6; (case k1 => is_list); (case k2 => decide); (case k3 => decide); (case k4 => rfl); (case k6 => with_unfolding_all rfl); k_whole))
  k_with "my passes_own" => assumption
  k_with "my binaryOp Mod int int" => (k_dflt (refine' PyProof.Rows.mod_int' ?k1 ?_; (case k1 => first | decide | omega | (simp only [rangeKs_length, List.length_eraseIdx]; omega) | (simp only [rangeKs_length, List.length_eraseIdx]; (repeat' split) <;> omega))))
  k_with "my call builtin:list.pop" => (k_here; (with_reducible show wpAny _ _ (call (Value.builtin _) [Value.ref _, Value.int _ _]) _ _ _); k_dflt (refine' pop_any ?F ?N ?i ?a ?b ?z ?U ?_; (case F => k_asm); (case N => k_asm); (case U => k_upd); (case i => assumption); (case a => exact fm0 (by ((simp only [rangeKs_length, List.length_eraseIdx]); (repeat' split) <;> omega))); (case b => exact fm1 (by ((simp only [rangeKs_length, List.length_eraseIdx]); (repeat' split) <;> omega))); (case z => ((simp only [rangeKs_length, List.length_eraseIdx]); (repeat' split) <;> omega)); k_whole); intro h' t' F' N' hI'; (try k_sweep))
  k_with "my call builtin:len" => (k_here; (with_reducible show wpAny _ _ (call (Value.builtin _) [Value.ref _]) _ _ _); k_dflt (refine' len_ints_fit ?k1 ?k2 ?k3 ?_; (case k1 => is_list); (case k2 => l_ints); (case k3 => first | l_fit | ((simp only [rangeKs_length, List.length_eraseIdx]); (repeat' split) <;> omega)); k_whole))
  k_with "my execs cons" => (k_here; (with_reducible show wpAny _ _ (execs (List.cons (PySem.Stmt.For (PySem.Expr.Name (PySem.Str.ofString "place") _) _ _ _ _) _) _) _ _ _); k_dflt (refine Stop.out ?_))
  conv in (List.drop _ _) => whnf
  dsimp only [lawEnv]
  dsimp only [lawEnv] at hE
  conv in (occs := *) lawScope => all_goals whnf
  conv at hE in (occs := *) lawScope => all_goals whnf
  revert X
  k_fill
  intro X
  try k_fold
  k_steps
  refine Stop.mk ?_
  refine' seg5 _ _ _ _ _ _ _ _ _ _ _ ?B ?X ?T _ _ _ _ ?hL ?hI ?hns ?hE ?hQ _ _ _ _ _ _ _ _ _ _ _ _ _ _ _ _ _ _ ?F ?N ?d1 ?d2 ?d3 ?n1 ?n2 ?n3 ?n4 ?n5 ?n6 ?n7 ?hz ?hR ?hW ?h3 ?h12 ?hP
  (case B => exact B)
  (case X => exact X)
  (case T => exact T)
  (case F => exact fr_pick2 (by assumption) (by exact rfl) (by exact rfl))
  (case d1 => exact d1)
  (case d2 => exact d2)
  (case d3 => exact d3)
  (case N => (refine news_sub (by assumption) ?_; (repeat' first | exact List.forall_mem_nil _ | refine List.forall_mem_cons.mpr ⟨by k_mem, ?_⟩)))
  (case n1 => first | assumption | (refine Ap.of ?_; omega))
  (case n2 => first | assumption | (refine Ap.of ?_; omega))
  (case n3 => first | assumption | (refine Ap.of ?_; omega))
  (case n4 => first | assumption | (refine Ap.of ?_; omega))
  (case n5 => first | assumption | (refine Ap.of ?_; omega))
  (case n6 => first | assumption | (refine Ap.of ?_; omega))
  (case n7 => first | assumption | (refine Ap.of ?_; omega))
  (case hL => exact hL)
  (case hI => exact hI)
  (case hns => exact hns)
  (case hE => exact hE)
  (case hQ => exact hQ)
  (case hz => exact hz)
  (case hR => exact hR)
  (case hW => exact hW)
  (case h3 => exact h3)
  (case h12 => exact h12)
  (case hP => exact places h3 (by simp) rfl rfl rfl rfl rfl)
end Mine
end
section
namespace Mine
theorem slice_any {prog : Program} {w : World} {A : Around} {E : Value → Shared → Prop} {s : Shared} {value slice : PySem.Expr} {b : Array UInt8} {t : Tok} {h₀ : Heap} {L : Addr} {m : PySem.Str → Option Value} {news : List (Addr × Obj)} {l u : Value} {lo hi : Option Int} {Q : Value → Shared → Prop}
    (hF : Fr h₀ L s.heap m) (hN : News h₀ L s.heap news) (hl : IsPart l lo) (hu : IsPart u hi) (hz : b.size ≤ 3)
    (h : ∀ cs h' t' k, cs.size ≤ 3 → Fr h₀ L h' m → News h₀ L h' news → Q (.bytes cs t') { s with heap := h', toks := k })
    (hs : subscripted slice false (.bytes b t) (.ref s.heap.objs.size) = operate [.ref s.heap.objs.size, .bytes b t] (getItem (.bytes b t) (.ref s.heap.objs.size)) := by with_unfolding_all rfl)
    (ht : ∀ r, letTemporaryGo value (.bytes b t) r = pure () := by intro _; with_unfolding_all rfl) :
    wpAny (model prog w) A (subscriptTail value slice (.bytes b t) (.ref s.heap.objs.size)) Q E { s with heap := s.heap.push { cls := .type "slice", data := .fields #[l, u, .none] } } :=
  KBc.slice_K hF hN rfl hl hu (by rw [KBw.ints_length]; omega) (fun h' t' k F N _ => h _ h' t' k (Nat.le_trans (KBc.size_picked_le b lo hi) hz) F N) hs ht
theorem law_walk : PySem.Challenge.rw_jb0036_01.Holds := hd (by
  w_top off
  k_with_none
  k_with "my call ref" => (k_here; (with_reducible show wpAny _ _ (call (Value.ref 40) [Value.ref _, Value.int _ _]) _ _ _); k_dflt (refine' c_number _ _ _ _ _ _ _ _ _ _ _ _ _ _ _ _ _ _ _ _ _ _ _ _ _ _ _ ?k1 ?k2 ?k3 ?k4 ?k5 ?kK ?kp ?kd ?ku ?kl ?ki ?kn ?_); (case k1 => k_asm); (case k2 => k_asm); (case k3 => k_asm); (case k4 => k_asm); (case k5 => k_asm); (case kK => first | exact rfl | assumption); (case kl => assumption); (case ki => l_ints); (case kp => first | decide | (constructor <;> omega)); (case kd => ktr_room); (case ku => ktr_units); (case kn => omega); intro t9 h9 tk9 F9 N9; (try dsimp only); (try k_fold))
  k_with "my subscriptTail" => (k_here; (with_reducible show wpAny _ _ (subscriptTail _ (PySem.Expr.Slice _ _ none _) (Value.bytes _ _) (Value.ref _)) _ _ _); (with_reducible rename Fr _ _ _ _ => F'); (with_reducible rename News _ _ _ _ => N'); k_dflt (refine slice_any (s := ⟨_, _, _, _, _⟩) F' N' (by constructor) (by constructor) (by exact Nat.le_of_ble_eq_true rfl) ?_); intro cs' h' t' k' hz' F' N')
  k_with "my execs cons" => (k_here; (with_reducible show wpAny _ _ (execs (List.cons (PySem.Stmt.Assign (List.cons (PySem.Expr.Name (PySem.Str.ofString "free") _) _) _ _) _) _) _ _ _); k_dflt (refine Stop.out ?_))
  w_strict (k_go0; (all_goals try k_fold); k_steps)
  refine Stop.mk ?_
  refine' seg2 _ _ _ _ _ _ _ _ _ _ _ ?B ?X ?T _ _ _ _ ?hL ?hI ?hns ?hE ?hQ _ _ _ _ _ _ _ _ _ _ ?F ?N ?d1 ?d2 ?d3 ?n5 ?n6 ?n7 ?hz ?hR ?hW ?h3 ?h12
  (case F => assumption)
  (case B => assumption)
  (case X => assumption)
  (case T => assumption)
  (case hL => assumption)
  (case hI => assumption)
  (case hns => omega)
  (case d2 => assumption)
  (case N => (refine news_sub (by assumption) ?_; (repeat' first | exact List.forall_mem_nil _ | refine List.forall_mem_cons.mpr ⟨by k_mem, ?_⟩)))
  (case d1 => assumption)
  (case d3 => assumption)
  (case n5 => first | assumption | (refine Ap.of ?_; omega))
  (case n6 => first | assumption | (refine Ap.of ?_; omega))
  (case n7 => first | assumption | (refine Ap.of ?_; omega))
  (case hz => assumption)
  (case hR => assumption)
  (case hW => intro x hx; obtain ⟨a, _, rfl⟩ := List.mem_map.mp hx; exact Wd.mod)
  (case h3 => simp only [List.length_map, rangeKs_length]; omega)
  (case h12 => simp only [List.length_map, rangeKs_length]; omega)
  (case hE => passes_own)
  (case hQ => intro h' tk' m' F9; (try k_unfold); (try dsimp only); wrow_close)
)
end Mine
end
end
theorem PySem.Challenge.cw_jb0036_01_holds : PySem.Challenge.rw_jb0036_01.Holds :=
  Mine.law_walk
