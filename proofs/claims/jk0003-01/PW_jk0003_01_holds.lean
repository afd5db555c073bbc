import PyProof.Rows.All
import Wide.All
import OpenK.AllK
import Wide.FinOn
import PySem.Challenge.RW_jk0003_01
open PySem PySem.W PyProof.Rows
set_option Elab.async false
set_option maxRecDepth 100000
set_option maxHeartbeats 8000000
namespace Mine
open_top hd for PySem.Challenge.rw_jk0003_01
end Mine
-- part: Base
namespace Mine
open PySem PySem.W PyProof.Rows PySem.Calls

abbrev Ret := Heap → Addr → (Str → Option Value) → List (Addr × Obj) → Shared → (Value → Shared → Prop) → Prop
/-- a value that is no reference comes back; the ledger is what it was -/
def OutV (R : Tok → Value) : Ret := fun h₀ L m news s Q =>
  ∀ (t : Tok) (h' : Heap) (tk' : Nat), Fr h₀ L h' m → News h₀ L h' news → Q (R t) { s with heap := h', toks := tk' }
/-- a new tuple of two ints -/
def Out2 (x y : Int) : Ret := fun h₀ L m news s Q =>
  ∀ (D : Addr) (t u : Tok) (c : Nat) (h' : Heap) (tk' : Nat), Fr h₀ L h' m → News h₀ L h' ((D, ({ cls := .type "tuple", data := .seq #[.int x t, .int y u] c } : Obj)) :: news) → (∀ p ∈ news, p.1 < D) → Q (.ref D) { s with heap := h', toks := tk' }
/-- a new tuple of three ints -/
def Out3 (x y z : Int) : Ret := fun h₀ L m news s Q =>
  ∀ (D : Addr) (t u v : Tok) (c : Nat) (h' : Heap) (tk' : Nat), Fr h₀ L h' m → News h₀ L h' ((D, ({ cls := .type "tuple", data := .seq #[.int x t, .int y u, .int z v] c } : Obj)) :: news) → (∀ p ∈ news, p.1 < D) → Q (.ref D) { s with heap := h', toks := tk' }

def Tell (w : World) (mean : ExcName → Option Value) (mg mb : Str → Option Value) (f : Addr) (n : Nat) (vs : List Value) (Out : Ret) : Prop :=
  ∀ (dp un : Nat) (gd : Option (List Code)) (cn : Str) (cs : Scope) (a : Addr) (ccd : Value) (cl : List (Str × Addr)) (outer : List Env) (A₀ : Around) (base h₀ : Heap) (L : Addr) (m : Str → Option Value) (news : List (Addr × Obj)) (s : Shared) (Q E : Value → Shared → Prop),
    Below A₀ base outer h₀ → Fr h₀ L s.heap m → (hd.heap_39 w.params).In h₀ → News h₀ L s.heap news → Top hd.view_39 (looseW hd.view_39 []) mean mg mb h₀ → cs.kind = .function → dp + n < recursionLimit → un + 8 * n < cLine → Out h₀ L m news s Q →
      wpAny (model PySem.Challenge.rw_jk0003_01.row.prog w) (ktrTop dp un gd cn cs L a ccd cl outer) (call (.ref f) vs) Q E s

theorem tell_use {w : World} {mean : ExcName → Option Value} {mg mb : Str → Option Value} {f : Addr} {n : Nat} {vs : List Value} {Out : Ret} {dp un : Nat} {gd : Option (List Code)} {cn : Str} {cs : Scope} {a : Addr} {ccd : Value} {cl : List (Str × Addr)} {outer : List Env} {A₀ : Around} {base h₀ : Heap} {L : Addr} {m : Str → Option Value} {news : List (Addr × Obj)} {s : Shared} {Q E : Value → Shared → Prop}
    (B : Below A₀ base outer h₀) (F : Fr h₀ L s.heap m) (X : (hd.heap_39 w.params).In h₀) (N : News h₀ L s.heap news) (T : Top hd.view_39 (looseW hd.view_39 []) mean mg mb h₀) (hk : cs.kind = .function)
    (C : Tell w mean mg mb f n vs Out) (hd : dp + n < recursionLimit) (hu : un + 8 * n < cLine) (ret : Out h₀ L m news s Q) :
    wpAny (model PySem.Challenge.rw_jk0003_01.row.prog w) (ktrTop dp un gd cn cs L a ccd cl outer) (call (.ref f) vs) Q E s :=
  C _ _ _ _ _ _ _ _ _ _ _ _ _ _ _ _ _ _ B F X N T hk hd hu ret

section
variable {h₀ h' : Heap} {L : Addr} {m : Str → Option Value} {news : List (Addr × Obj)} {s : Shared} {Q : Value → Shared → Prop} {tk' : Nat}
theorem outI_end {x y : Int} {t : Tok} (hret : OutV (fun t => .int x t) h₀ L m news s Q) (e : y = x) (F : Fr h₀ L h' m) (N : News h₀ L h' news) : Q (.int y t) { s with heap := h', toks := tk' } := by
  subst e; exact hret _ _ _ F N
theorem outB_end {x y : Bool} (hret : OutV (fun _ => .bool x) h₀ L m news s Q) (e : y = x) (F : Fr h₀ L h' m) (N : News h₀ L h' news) : Q (.bool y) { s with heap := h', toks := tk' } := by
  subst e; exact hret 0 _ _ F N
end

local macro_rules | `(tactic| walk_at "binaryOp FloorDiv int int") => `(tactic| (k_here; (with_reducible refine floordiv_int (by decide) ?_); (try dsimp only)))
local macro_rules | `(tactic| walk_at "binaryOp Mod int int") => `(tactic| (k_here; (with_reducible refine mod_int' (by decide) ?_); (try dsimp only)))
local macro_rules | `(tactic| walk_at "eval Call") => `(tactic| (k_here; (with_reducible show wpAny _ _ (eval (Expr.Call (Expr.Name _ _) _ [] _) _) _ _ _); k_dflt (refine Call_ ?_)))
local macro_rules | `(tactic| walk_at "call ref") => `(tactic| (
    k_here
    k_dflt (refine' tell_use ?k1 ?k2 ?k3 ?k4 ?k5 ?kK ?kC ?kd ?ku ?_; (case k1 => k_asm); (case k2 => k_asm); (case k3 => k_asm); (case k4 => k_asm); (case k5 => k_asm); (case kC => ktr_rel); (case kK => first | exact rfl | assumption); (case kd => ktr_room); (case ku => ktr_units))
    first
      | (unfold OutV; intro t9 h9 tk9 F9 N9)
      | (unfold Out2; intro D9 t9 u9 c9 h9 tk9 F9 N9 l9; (try k_lt l9))
      | (unfold Out3; intro D9 t9 u9 v9 c9 h9 tk9 F9 N9 l9; (try k_lt l9))
    (try dsimp only)
    (try k_sweep)
    (try k_fold)))
local macro_rules | `(tactic| ktr_rel) => `(tactic| fail "no contract")

def delay1 (y : Int) : Int :=
  let months := (235 * y - 234).fdiv 19
  let day := months * 29 + (12084 + 13753 * months).fdiv 25920
  if (3 * (day + 1)).fmod 7 < 3 then day + 1 else day

theorem delay1_tells (w : World) (mean : ExcName → Option Value) (mg mb : Str → Option Value) (y : Int) (ty : Tok) :
    Tell w mean mg mb 42 1 [.int y ty] (OutV fun t => .int (delay1 y) t) := by
  unfold Tell; k_fill; intro dp un gd cn cs a ccd cl outer A₀ base h₀ L m news s Q E B F X N T hk hd hu hret
  refine wpAny_call ?_; k_dflt cell_enter; k_steps
  all_goals (refine outI_end hret ?_ (by assumption) (by assumption))
  all_goals (unfold delay1; dsimp only; (repeat' split) <;> first | rfl | omega | contradiction)
local macro_rules | `(tactic| ktr_rel) => `(tactic| exact delay1_tells _ _ _ _ _ _)

def delay2 (y : Int) : Int :=
  if delay1 (y + 1) - delay1 y = 356 then 2 else if delay1 y - delay1 (y - 1) = 382 then 1 else 0
theorem delay2_tells (w : World) (mean : ExcName → Option Value) (mg mb : Str → Option Value) (y : Int) (ty : Tok) :
    Tell w mean mg mb 49 2 [.int y ty] (OutV fun t => .int (delay2 y) t) := by
  unfold Tell; k_fill; intro dp un gd cn cs a ccd cl outer A₀ base h₀ L m news s Q E B F X N T hk hd hu hret
  refine wpAny_call ?_; k_dflt cell_enter; k_steps
  all_goals (refine outI_end hret ?_ (by assumption) (by assumption))
  all_goals (unfold delay2; (repeat' split) <;> first | rfl | omega | contradiction)
local macro_rules | `(tactic| ktr_rel) => `(tactic| exact delay2_tells _ _ _ _ _ _)

def leapB (y : Int) : Bool := decide ((y * 7 + 1).fmod 19 < 7)
theorem leap_tells (w : World) (mean : ExcName → Option Value) (mg mb : Str → Option Value) (y : Int) (ty : Tok) :
    Tell w mean mg mb 28 1 [.int y ty] (OutV fun _ => .bool (leapB y)) := by
  unfold Tell; k_fill; intro dp un gd cn cs a ccd cl outer A₀ base h₀ L m news s Q E B F X N T hk hd hu hret
  refine wpAny_call ?_; k_dflt cell_enter; k_steps
  all_goals (refine outB_end hret ?_ (by assumption) (by assumption))
  all_goals (unfold leapB; (repeat' split) <;> first | rfl | omega | contradiction)
local macro_rules | `(tactic| ktr_rel) => `(tactic| exact leap_tells _ _ _ _ _ _)

def yearMonths (y : Int) : Int := if leapB y then 13 else 12
theorem ym_t {y : Int} (h : leapB y = true) : 13 = yearMonths y := by unfold yearMonths; rw [if_pos h]
theorem ym_f {y : Int} (h : leapB y = false) : 12 = yearMonths y := by unfold yearMonths; rw [h]; rfl
theorem yearMonths_tells (w : World) (mean : ExcName → Option Value) (mg mb : Str → Option Value) (y : Int) (ty : Tok) :
    Tell w mean mg mb 35 2 [.int y ty] (OutV fun t => .int (yearMonths y) t) := by
  unfold Tell; k_fill; intro dp un gd cn cs a ccd cl outer A₀ base h₀ L m news s Q E B F X N T hk hd hu hret
  refine wpAny_call ?_; k_dflt cell_enter; k_steps
  all_goals (refine outI_end hret ?_ (by assumption) (by assumption))
  all_goals (first | exact ym_t (by assumption) | exact ym_f (by assumption))
local macro_rules | `(tactic| ktr_rel) => `(tactic| exact yearMonths_tells _ _ _ _ _ _)

def midnightZ (jd : Int) : Int := if jd > 0 then jd else jd + 1
theorem midnight_tells (w : World) (mean : ExcName → Option Value) (mg mb : Str → Option Value) (y : Int) (ty : Tok) :
    Tell w mean mg mb 21 1 [.int y ty] (OutV fun t => .int (midnightZ y) t) := by
  unfold Tell; k_fill; intro dp un gd cn cs a ccd cl outer A₀ base h₀ L m news s Q E B F X N T hk hd hu hret
  refine wpAny_call ?_; k_dflt cell_enter; k_steps
  all_goals (refine outI_end hret ?_ (by assumption) (by assumption))
  all_goals (unfold midnightZ; (repeat' split) <;> first | rfl | omega | contradiction)
local macro_rules | `(tactic| ktr_rel) => `(tactic| exact midnight_tells _ _ _ _ _ _)

def jd7 (y d : Int) : Int := midnightZ (347996 + delay1 y + delay2 y + d + 1)
theorem jd7_tells (w : World) (mean : ExcName → Option Value) (mg mb : Str → Option Value) (y d : Int) (ty tm td : Tok) :
    Tell w mean mg mb 77 3 [.int y ty, .int 7 tm, .int d td] (OutV fun t => .int (jd7 y d) t) := by
  unfold Tell; k_fill; intro dp un gd cn cs a ccd cl outer A₀ base h₀ L m news s Q E B F X N T hk hd hu hret
  refine wpAny_call ?_; k_dflt cell_enter; k_steps
  all_goals (refine outI_end hret ?_ (by assumption) (by assumption))
  all_goals (unfold jd7; (repeat' split) <;> first | rfl | omega | contradiction)
local macro_rules | `(tactic| ktr_rel) => `(tactic| exact jd7_tells _ _ _ _ _ _ _ _ _)

def yearDays (y : Int) : Int := jd7 (y + 1) 1 - jd7 y 1
theorem yearDays_tells (w : World) (mean : ExcName → Option Value) (mg mb : Str → Option Value) (y : Int) (ty : Tok) :
    Tell w mean mg mb 56 4 [.int y ty] (OutV fun t => .int (yearDays y) t) := by
  unfold Tell; k_fill; intro dp un gd cn cs a ccd cl outer A₀ base h₀ L m news s Q E B F X N T hk hd hu hret
  refine wpAny_call ?_; k_dflt cell_enter; k_steps
  all_goals (refine outI_end hret ?_ (by assumption) (by assumption))
  all_goals (unfold yearDays; (repeat' split) <;> first | rfl | omega | contradiction)
local macro_rules | `(tactic| ktr_rel) => `(tactic| exact yearDays_tells _ _ _ _ _ _)
end Mine
-- part: Mon
namespace Mine
open PySem PySem.W PyProof.Rows PySem.Calls
local macro_rules | `(tactic| walk_at "binaryOp FloorDiv int int") => `(tactic| (k_here; (with_reducible refine floordiv_int (by decide) ?_); (try dsimp only)))
local macro_rules | `(tactic| walk_at "binaryOp Mod int int") => `(tactic| (k_here; (with_reducible refine mod_int' (by decide) ?_); (try dsimp only)))
local macro_rules | `(tactic| walk_at "eval Call") => `(tactic| (k_here; (with_reducible show wpAny _ _ (eval (Expr.Call (Expr.Name _ _) _ [] _) _) _ _ _); k_dflt (refine Call_ ?_)))
local macro_rules | `(tactic| walk_at "call ref") => `(tactic| (
    k_here
    k_dflt (refine' tell_use ?k1 ?k2 ?k3 ?k4 ?k5 ?kK ?kC ?kd ?ku ?_; (case k1 => k_asm); (case k2 => k_asm); (case k3 => k_asm); (case k4 => k_asm); (case k5 => k_asm); (case kC => ktr_rel); (case kK => first | exact rfl | assumption); (case kd => ktr_room); (case ku => ktr_units))
    first
      | (unfold OutV; intro t9 h9 tk9 F9 N9)
      | (unfold Out2; intro D9 t9 u9 c9 h9 tk9 F9 N9 l9; (try k_lt l9))
      | (unfold Out3; intro D9 t9 u9 v9 c9 h9 tk9 F9 N9 l9; (try k_lt l9))
    (try dsimp only)
    (try k_sweep)
    (try k_fold)))
local macro_rules | `(tactic| ktr_rel) => `(tactic| fail "no contract")

local macro_rules | `(tactic| ktr_rel) => `(tactic| exact delay1_tells _ _ _ _ _ _)
local macro_rules | `(tactic| ktr_rel) => `(tactic| exact delay2_tells _ _ _ _ _ _)
local macro_rules | `(tactic| ktr_rel) => `(tactic| exact leap_tells _ _ _ _ _ _)
local macro_rules | `(tactic| ktr_rel) => `(tactic| exact yearMonths_tells _ _ _ _ _ _)
local macro_rules | `(tactic| ktr_rel) => `(tactic| exact midnight_tells _ _ _ _ _ _)
local macro_rules | `(tactic| ktr_rel) => `(tactic| exact jd7_tells _ _ _ _ _ _ _ _ _)
local macro_rules | `(tactic| ktr_rel) => `(tactic| exact yearDays_tells _ _ _ _ _ _)

def monthLen (y m : Int) : Int :=
  if m = 2 ∨ m = 4 ∨ m = 6 ∨ m = 10 ∨ m = 13 then 29
  else if m = 12 ∧ leapB y = false then 29
  else if m = 8 ∧ (yearDays y).fmod 10 ≠ 5 then 29
  else if m = 9 ∧ (yearDays y).fmod 10 = 3 then 29
  else 30
theorem news_tl {h₀ h : Heap} {L : Addr} {p : Addr × Obj} {news : List (Addr × Obj)} (N : News h₀ L h (p :: news)) : News h₀ L h news := fun q hq => N q (List.mem_cons_of_mem _ hq)
local macro_rules | `(tactic| tb_start) => `(tactic| first | assumption | exact news_tl (by assumption) | exact news_tl (news_tl (by assumption)) | exact news_tl (news_tl (news_tl (by assumption))))
theorem ml_any {k : Int} (h : ([2, 4, 6, 10, 13].any fun x => x == k) = true) : k = 2 ∨ k = 4 ∨ k = 6 ∨ k = 10 ∨ k = 13 := by
  simp only [List.any_cons, List.any_nil, Bool.or_false, Bool.or_eq_true, beq_iff_eq] at h; omega
theorem ml_none {k : Int} (h : ([2, 4, 6, 10, 13].any fun x => x == k) = false) : ¬ (k = 2 ∨ k = 4 ∨ k = 6 ∨ k = 10 ∨ k = 13) := by
  intro hc; rcases hc with rfl | rfl | rfl | rfl | rfl <;> simp at h
theorem ml_no {b : Bool} (h : b = true) (h' : b = false) : False := by subst h; cases h'
theorem monthLen_tells (w : World) (mean : ExcName → Option Value) (mg mb : Str → Option Value) (y k : Int) (ty tk : Tok) (hk : k ≤ 13) :
    Tell w mean mg mb 63 5 [.int y ty, .int k tk] (OutV fun t => .int (monthLen y k) t) := by
  unfold Tell; k_fill; intro dp un gd cn cs a ccd cl outer A₀ base h₀ L m news s Q E B F X N T hk hd hu hret
  refine wpAny_call ?_; k_dflt cell_enter; k_steps
  all_goals (refine outI_end hret ?_ (by assumption) (by tb_start))
  all_goals (first | have hA := ml_any (by assumption) | have hA := ml_none (by assumption))
  all_goals (clear hret; unfold monthLen; (first | (have hB : leapB y = true := by assumption) | (have hB : leapB y = false := by assumption) | skip); (try simp only [hB, reduceCtorEq, and_false, and_true, if_false]); (repeat' split) <;> first | rfl | omega)
local macro_rules | `(tactic| ktr_rel) => `(tactic| exact monthLen_tells _ _ _ _ _ _ _ _ (by omega))

theorem monthDays_tells (w : World) (mean : ExcName → Option Value) (mg mb : Str → Option Value) (y k : Int) (ty tk : Tok) (hk : k ≤ 13) :
    Tell w mean mg mb 70 6 [.int y ty, .int k tk] (OutV fun t => .int (monthLen y k) t) := by
  unfold Tell; k_fill; intro dp un gd cn cs a ccd cl outer A₀ base h₀ L m news s Q E B F X N T hk hd hu hret
  refine wpAny_call ?_; k_dflt cell_enter; k_steps
  all_goals (refine outI_end hret ?_ (by assumption) (by tb_start))
  all_goals rfl
local macro_rules | `(tactic| ktr_rel) => `(tactic| exact monthDays_tells _ _ _ _ _ _ _ _ (by omega))
end Mine
-- part: Low
namespace Mine
open PySem PySem.W PyProof.Rows PySem.Calls
local macro_rules | `(tactic| walk_at "binaryOp FloorDiv int int") => `(tactic| (k_here; (with_reducible refine floordiv_int (by decide) ?_); (try dsimp only)))
local macro_rules | `(tactic| walk_at "binaryOp Mod int int") => `(tactic| (k_here; (with_reducible refine mod_int' (by decide) ?_); (try dsimp only)))
local macro_rules | `(tactic| walk_at "eval Call") => `(tactic| (k_here; (with_reducible show wpAny _ _ (eval (Expr.Call (Expr.Name _ _) _ [] _) _) _ _ _); k_dflt (refine Call_ ?_)))
local macro_rules | `(tactic| walk_at "call ref") => `(tactic| (
    k_here
    k_dflt (refine' tell_use ?k1 ?k2 ?k3 ?k4 ?k5 ?kK ?kC ?kd ?ku ?_; (case k1 => k_asm); (case k2 => k_asm); (case k3 => k_asm); (case k4 => k_asm); (case k5 => k_asm); (case kC => ktr_rel); (case kK => first | exact rfl | assumption); (case kd => ktr_room); (case ku => ktr_units))
    first
      | (unfold OutV; intro t9 h9 tk9 F9 N9)
      | (unfold Out2; intro D9 t9 u9 c9 h9 tk9 F9 N9 l9; (try k_lt l9))
      | (unfold Out3; intro D9 t9 u9 v9 c9 h9 tk9 F9 N9 l9; (try k_lt l9))
    (try dsimp only)
    (try k_sweep)
    (try k_fold)))
local macro_rules | `(tactic| ktr_rel) => `(tactic| fail "no contract")

local macro_rules | `(tactic| ktr_rel) => `(tactic| exact delay1_tells _ _ _ _ _ _)
local macro_rules | `(tactic| ktr_rel) => `(tactic| exact delay2_tells _ _ _ _ _ _)
local macro_rules | `(tactic| ktr_rel) => `(tactic| exact leap_tells _ _ _ _ _ _)
local macro_rules | `(tactic| ktr_rel) => `(tactic| exact yearMonths_tells _ _ _ _ _ _)
local macro_rules | `(tactic| ktr_rel) => `(tactic| exact midnight_tells _ _ _ _ _ _)
local macro_rules | `(tactic| ktr_rel) => `(tactic| exact jd7_tells _ _ _ _ _ _ _ _ _)
local macro_rules | `(tactic| ktr_rel) => `(tactic| exact yearDays_tells _ _ _ _ _ _)
local macro_rules | `(tactic| tb_start) => `(tactic| first | assumption | exact news_tl (by assumption) | exact news_tl (news_tl (by assumption)) | exact news_tl (news_tl (news_tl (by assumption))))
local macro_rules | `(tactic| ktr_rel) => `(tactic| exact monthLen_tells _ _ _ _ _ _ _ _ (by omega))
local macro_rules | `(tactic| ktr_rel) => `(tactic| exact monthDays_tells _ _ _ _ _ _ _ _ (by omega))

theorem ym_cases (y : Int) : yearMonths y = 12 ∨ yearMonths y = 13 := by unfold yearMonths; split <;> simp
def sumL (y a : Int) (n : Nat) : Int := ((rangeKs a n).map (monthLen y)).sum
def jdLow (y k d : Int) : Int := midnightZ (347996 + delay1 y + delay2 y + d + 1 + sumL y 7 (yearMonths y + 1 - 7).toNat + sumL y 1 (k - 1).toNat)
theorem jdLow_eq {y k d a b : Int} (h1 : a = 347996 + delay1 y + delay2 y + d + 1 + ((rangeKs 7 (yearMonths y + 1 - 7).toNat).map (monthLen y)).sum) (h2 : b = a + ((rangeKs 1 (k - 1).toNat).map (monthLen y)).sum) :
    midnightZ b = jdLow y k d := by unfold jdLow sumL; rw [h2, h1]
theorem jdLow_tells (w : World) (mean : ExcName → Option Value) (mg mb : Str → Option Value) (y k d : Int) (ty tm td : Tok) (hk0 : 1 ≤ k) (hk : k ≤ 6) :
    Tell w mean mg mb 77 8 [.int y ty, .int k tm, .int d td] (OutV fun t => .int (jdLow y k d) t) := by
  unfold Tell; k_fill; intro dp un gd cn cs a ccd cl outer A₀ base h₀ L m news s Q E B F X N T hk hd hu hret
  have hym := ym_cases y
  (k_with "pyIter ref" => k_state_given ["jd!"] (fun j0 pre jd => jd = j0 + (pre.map (monthLen y)).sum) "jd")
  refine wpAny_call ?_; k_dflt cell_enter; k_steps
  all_goals (refine outI_end hret ?_ (by assumption) (by tb_start))
  all_goals exact jdLow_eq (by assumption) (by assumption)
local macro_rules | `(tactic| ktr_rel) => `(tactic| exact jdLow_tells _ _ _ _ _ _ _ _ _ _ (by omega) (by omega))
end Mine
-- part: From
namespace Mine
open PySem PySem.W PyProof.Rows PySem.Calls
local macro_rules | `(tactic| walk_at "binaryOp FloorDiv int int") => `(tactic| (k_here; (with_reducible refine floordiv_int (by decide) ?_); (try dsimp only)))
local macro_rules | `(tactic| walk_at "binaryOp Mod int int") => `(tactic| (k_here; (with_reducible refine mod_int' (by decide) ?_); (try dsimp only)))
local macro_rules | `(tactic| walk_at "eval Call") => `(tactic| (k_here; (with_reducible show wpAny _ _ (eval (Expr.Call (Expr.Name _ _) _ [] _) _) _ _ _); k_dflt (refine Call_ ?_)))
local macro_rules | `(tactic| walk_at "call ref") => `(tactic| (
    k_here
    k_dflt (refine' tell_use ?k1 ?k2 ?k3 ?k4 ?k5 ?kK ?kC ?kd ?ku ?_; (case k1 => k_asm); (case k2 => k_asm); (case k3 => k_asm); (case k4 => k_asm); (case k5 => k_asm); (case kC => ktr_rel); (case kK => first | exact rfl | assumption); (case kd => ktr_room); (case ku => ktr_units))
    first
      | (unfold OutV; intro t9 h9 tk9 F9 N9)
      | (unfold Out2; intro D9 t9 u9 c9 h9 tk9 F9 N9 l9; (try k_lt l9))
      | (unfold Out3; intro D9 t9 u9 v9 c9 h9 tk9 F9 N9 l9; (try k_lt l9))
    (try dsimp only)
    (try k_sweep)
    (try k_fold)))
local macro_rules | `(tactic| ktr_rel) => `(tactic| fail "no contract")

local macro_rules | `(tactic| ktr_rel) => `(tactic| exact delay1_tells _ _ _ _ _ _)
local macro_rules | `(tactic| ktr_rel) => `(tactic| exact delay2_tells _ _ _ _ _ _)
local macro_rules | `(tactic| ktr_rel) => `(tactic| exact leap_tells _ _ _ _ _ _)
local macro_rules | `(tactic| ktr_rel) => `(tactic| exact yearMonths_tells _ _ _ _ _ _)
local macro_rules | `(tactic| ktr_rel) => `(tactic| exact midnight_tells _ _ _ _ _ _)
local macro_rules | `(tactic| ktr_rel) => `(tactic| exact jd7_tells _ _ _ _ _ _ _ _ _)
local macro_rules | `(tactic| ktr_rel) => `(tactic| exact yearDays_tells _ _ _ _ _ _)
local macro_rules | `(tactic| tb_start) => `(tactic| first | assumption | exact news_tl (by assumption) | exact news_tl (news_tl (by assumption)) | exact news_tl (news_tl (news_tl (by assumption))))
local macro_rules | `(tactic| ktr_rel) => `(tactic| exact monthLen_tells _ _ _ _ _ _ _ _ (by omega))
local macro_rules | `(tactic| ktr_rel) => `(tactic| exact monthDays_tells _ _ _ _ _ _ _ _ (by omega))
local macro_rules | `(tactic| ktr_rel) => `(tactic| exact jdLow_tells _ _ _ _ _ _ _ _ _ _ (by omega) (by omega))

local macro_rules | `(tactic| walk_at "WhlIf") => `(tactic| first | refine WhlIf.yes (decide_eq_true (by omega)) ?_ | refine WhlIf.no (decide_eq_false (by omega)) ?_)
section
variable {Y i yr jd : Int}
theorem loop1_out (hP1 : yr = i - 1) (hP : i = Y - 2 ∨ i = Y - 1 ∨ i = Y ∨ i = Y + 1) (hx : ¬ jd7 i 1 ≤ jd) (h0 : jd7 (Y - 2) 1 ≤ jd) (h1 : jd7 (Y - 1) 1 ≤ jd) (h2 : jd7 Y 1 ≤ jd) : Y = yr := by
  obtain h' | h' | h' | h' := hP <;> subst h' <;> omega
theorem loop1_lt (hP : i = Y - 2 ∨ i = Y - 1 ∨ i = Y ∨ i = Y + 1) (hx : jd7 i 1 ≤ jd) (h3 : jd < jd7 (Y + 1) 1) : i ≤ Y := by
  obtain h' | h' | h' | h' := hP <;> subst h' <;> omega
theorem loop1_turn (hP1 : yr = i - 1) (hP : i = Y - 2 ∨ i = Y - 1 ∨ i = Y ∨ i = Y + 1) (hx : jd7 i 1 ≤ jd) (h3 : jd < jd7 (Y + 1) 1) :
    yr + 1 = i + 1 - 1 ∧ (i + 1 = Y - 2 ∨ i + 1 = Y - 1 ∨ i + 1 = Y ∨ i + 1 = Y + 1) := by
  have := loop1_lt hP hx h3; omega
theorem loop1_less (hP : i = Y - 2 ∨ i = Y - 1 ∨ i = Y ∨ i = Y + 1) (hx : jd7 i 1 ≤ jd) (h3 : jd < jd7 (Y + 1) 1) : (Y + 1 - (i + 1)).toNat < (Y + 1 - i).toNat := by
  have := loop1_lt hP hx h3; omega
end
section
variable {h₀ h' : Heap} {L D : Addr} {m : Str → Option Value} {news : List (Addr × Obj)} {s : Shared} {Q : Value → Shared → Prop} {tk' : Nat}
theorem out3_end {x y z x' y' z' : Int} {t u v : Tok} {c : Nat} (hret : Out3 x y z h₀ L m news s Q) (F : Fr h₀ L h' m) (N : News h₀ L h' ((D, ({ cls := .type "tuple", data := .seq #[.int x' t, .int y' u, .int z' v] c } : Obj)) :: news))
    (l : ∀ p ∈ news, p.1 < D) (e1 : x' = x) (e2 : y' = y) (e3 : z' = z) : Q (.ref D) { s with heap := h', toks := tk' } := by
  subst e1; subst e2; subst e3; exact hret _ _ _ _ _ _ _ F N l
end
theorem fromjd_A (w : World) (mean : ExcName → Option Value) (mg mb : Str → Option Value) (jd Y : Int) (tj : Tok)
    (hc : ((jd - 347996) * 98496).fdiv 35975351 = Y - 2 ∨ ((jd - 347996) * 98496).fdiv 35975351 = Y - 1 ∨ ((jd - 347996) * 98496).fdiv 35975351 = Y)
    (h0 : jd7 (Y - 2) 1 ≤ jd) (h1 : jd7 (Y - 1) 1 ≤ jd) (h2 : jd7 Y 1 ≤ jd) (h3 : jd < jd7 (Y + 1) 1)
    (hl : jd < jdLow Y 1 1) (h7 : jd ≤ jd7 Y (monthLen Y 7)) (hd1 : jd = jd7 Y 1) :
    Tell w mean mg mb 84 10 [.int jd tj] (Out3 Y 7 1) := by
  unfold Tell; k_fill; intro dp un gd cn cs a ccd cl outer A₀ base h₀ L m news s Q E B F X N T hk hd hu hret
  (k_with "state" => exact loop1_turn (by assumption) (by assumption) (by assumption) h3)
  (k_with "measure" => exact loop1_less (by assumption) (by assumption) h3)
  refine wpAny_call ?_; k_dflt cell_enter
  repeat' (first
    | (k_unfold; (try dsimp only))
    | ((with_reducible rename ¬ jd7 _ 1 ≤ jd => hx9); (with_reducible rename _ ∨ _ ∨ _ ∨ _ => hP9); (with_reducible rename (_ : Int) = _ - 1 => hq9); (obtain rfl := loop1_out hq9 hP9 hx9 h0 h1 h2); clear hx9)
    | (k_here; (with_reducible show wpAny _ _ (exec (Stmt.While _ _ _ _) _) _ _ _); first | k_while (fun _ i yr => yr = i - 1 ∧ (i = Y - 2 ∨ i = Y - 1 ∨ i = Y ∨ i = Y + 1)) (fun _ i _ => (Y + 1 - i).toNat) "i" "year" | k_dflt (refine whl_start 100 ?_))
    | (k_end; wrow_close) | walk1 | (dsimp only; walk1) | (leave1; walk_say "STEP leave1"; try dsimp only) | fail "no step")
  all_goals (refine out3_end hret (by assumption) (by assumption) (by assumption) rfl rfl ?_)
  all_goals omega
theorem fromjd_B (w : World) (mean : ExcName → Option Value) (mg mb : Str → Option Value) (jd Y : Int) (tj : Tok)
    (hc : ((jd - 347996) * 98496).fdiv 35975351 = Y - 2 ∨ ((jd - 347996) * 98496).fdiv 35975351 = Y - 1 ∨ ((jd - 347996) * 98496).fdiv 35975351 = Y)
    (h0 : jd7 (Y - 2) 1 ≤ jd) (h1 : jd7 (Y - 1) 1 ≤ jd) (h2 : jd7 Y 1 ≤ jd) (h3 : jd < jd7 (Y + 1) 1)
    (hl : jdLow Y 1 1 ≤ jd)
    (hm1 : jdLow Y 1 (monthLen Y 1) < jd) (hm2 : jdLow Y 2 (monthLen Y 2) < jd) (hm3 : jdLow Y 3 (monthLen Y 3) < jd) (hm4 : jdLow Y 4 (monthLen Y 4) < jd) (hm5 : jdLow Y 5 (monthLen Y 5) < jd)
    (hm6 : jd ≤ jdLow Y 6 (monthLen Y 6)) (hd1 : jd = jdLow Y 6 1 + 28) :
    Tell w mean mg mb 84 10 [.int jd tj] (Out3 Y 6 29) := by
  unfold Tell; k_fill; intro dp un gd cn cs a ccd cl outer A₀ base h₀ L m news s Q E B F X N T hk hd hu hret
  (k_with "state" => exact loop1_turn (by assumption) (by assumption) (by assumption) h3)
  (k_with "measure" => exact loop1_less (by assumption) (by assumption) h3)
  refine wpAny_call ?_; k_dflt cell_enter
  repeat' (first
    | (k_unfold; (try dsimp only))
    | ((with_reducible rename ¬ jd7 _ 1 ≤ jd => hx9); (with_reducible rename _ ∨ _ ∨ _ ∨ _ => hP9); (with_reducible rename (_ : Int) = _ - 1 => hq9); (obtain rfl := loop1_out hq9 hP9 hx9 h0 h1 h2); clear hx9)
    | (k_here; (with_reducible show wpAny _ _ (exec (Stmt.While _ _ _ _) _) _ _ _); first | k_while (fun _ i yr => yr = i - 1 ∧ (i = Y - 2 ∨ i = Y - 1 ∨ i = Y ∨ i = Y + 1)) (fun _ i _ => (Y + 1 - i).toNat) "i" "year" | k_dflt (refine whl_start 100 ?_))
    | ((with_reducible show wpAny _ _ (storeName _ _ _) _ _ _); simp only [Int.reduceAdd])
    | (k_end; wrow_close) | walk1 | (dsimp only; walk1) | (leave1; walk_say "STEP leave1"; try dsimp only) | fail "no step")
  all_goals (refine out3_end hret (by assumption) (by assumption) (by assumption) rfl rfl ?_)
  all_goals omega
end Mine
-- part: Lw
namespace Mine
open PySem PySem.W PyProof.Rows PySem.Calls
local macro_rules | `(tactic| walk_at "binaryOp FloorDiv int int") => `(tactic| (k_here; (with_reducible refine floordiv_int (by decide) ?_); (try dsimp only)))
local macro_rules | `(tactic| walk_at "binaryOp Mod int int") => `(tactic| (k_here; (with_reducible refine mod_int' (by decide) ?_); (try dsimp only)))
local macro_rules | `(tactic| walk_at "eval Call") => `(tactic| (k_here; (with_reducible show wpAny _ _ (eval (Expr.Call (Expr.Name _ _) _ [] _) _) _ _ _); k_dflt (refine Call_ ?_)))
local macro_rules | `(tactic| walk_at "call ref") => `(tactic| (
    k_here
    k_dflt (refine' tell_use ?k1 ?k2 ?k3 ?k4 ?k5 ?kK ?kC ?kd ?ku ?_; (case k1 => k_asm); (case k2 => k_asm); (case k3 => k_asm); (case k4 => k_asm); (case k5 => k_asm); (case kC => ktr_rel); (case kK => first | exact rfl | assumption); (case kd => ktr_room); (case ku => ktr_units))
    first
      | (unfold OutV; intro t9 h9 tk9 F9 N9)
      | (unfold Out2; intro D9 t9 u9 c9 h9 tk9 F9 N9 l9; (try k_lt l9))
      | (unfold Out3; intro D9 t9 u9 v9 c9 h9 tk9 F9 N9 l9; (try k_lt l9))
    (try dsimp only)
    (try k_sweep)
    (try k_fold)))
local macro_rules | `(tactic| ktr_rel) => `(tactic| fail "no contract")

local macro_rules | `(tactic| ktr_rel) => `(tactic| exact delay1_tells _ _ _ _ _ _)
local macro_rules | `(tactic| ktr_rel) => `(tactic| exact delay2_tells _ _ _ _ _ _)
local macro_rules | `(tactic| ktr_rel) => `(tactic| exact leap_tells _ _ _ _ _ _)
local macro_rules | `(tactic| ktr_rel) => `(tactic| exact yearMonths_tells _ _ _ _ _ _)
local macro_rules | `(tactic| ktr_rel) => `(tactic| exact midnight_tells _ _ _ _ _ _)
local macro_rules | `(tactic| ktr_rel) => `(tactic| exact jd7_tells _ _ _ _ _ _ _ _ _)
local macro_rules | `(tactic| ktr_rel) => `(tactic| exact yearDays_tells _ _ _ _ _ _)
local macro_rules | `(tactic| tb_start) => `(tactic| first | assumption | exact news_tl (by assumption) | exact news_tl (news_tl (by assumption)) | exact news_tl (news_tl (news_tl (by assumption))))
local macro_rules | `(tactic| ktr_rel) => `(tactic| exact monthLen_tells _ _ _ _ _ _ _ _ (by omega))
local macro_rules | `(tactic| ktr_rel) => `(tactic| exact monthDays_tells _ _ _ _ _ _ _ _ (by omega))
local macro_rules | `(tactic| ktr_rel) => `(tactic| exact jdLow_tells _ _ _ _ _ _ _ _ _ _ (by omega) (by omega))

/-- a new list of the seven long years -/
def OutL : Ret := fun h₀ L m news s Q =>
  ∀ (D : Addr) (t1 t2 t3 t4 t5 t6 t7 : Tok) (c : Nat) (h' : Heap) (tk' : Nat), Fr h₀ L h' m → News h₀ L h' ((D, W.listOf #[.int 3 t1, .int 6 t2, .int 8 t3, .int 11 t4, .int 14 t5, .int 17 t6, .int 19 t7] c) :: news) → (∀ p ∈ news, p.1 < D) → Q (.ref D) { s with heap := h', toks := tk' }
theorem longYears_tells (w : World) (mean : ExcName → Option Value) (mg mb : Str → Option Value) :
    Tell w mean mg mb 91 1 [] OutL := by
  unfold Tell; k_fill; intro dp un gd cn cs a ccd cl outer A₀ base h₀ L m news s Q E B F X N T hk hd hu hret
  refine wpAny_call ?_; k_dflt cell_enter; k_steps
  all_goals exact hret _ _ _ _ _ _ _ _ _ _ _ (by assumption) (by assumption) (by assumption)
local macro_rules | `(tactic| walk_at "call ref") => `(tactic| (
    k_here
    (with_reducible show wpAny _ _ (call (Value.ref _) ([] ++ [])) _ _ _)
    k_dflt (refine' tell_use ?k1 ?k2 ?k3 ?k4 ?k5 ?kK ?kC ?kd ?ku ?_; (case k1 => k_asm); (case k2 => k_asm); (case k3 => k_asm); (case k4 => k_asm); (case k5 => k_asm); (case kC => exact longYears_tells _ _ _ _); (case kK => first | exact rfl | assumption); (case kd => ktr_room); (case ku => ktr_units))
    (unfold OutL; intro D9 t1 t2 t3 t4 t5 t6 t7 c9 h9 tk9 F9 N9 l9; (try k_lt l9))
    (try dsimp only)
    (try k_sweep)
    (try k_fold)))

def longB (y : Int) : Bool := [3, 6, 8, 11, 14, 17, 19].any fun x => x == (y - 1).fmod 19 + 1
theorem long_tells (w : World) (mean : ExcName → Option Value) (mg mb : Str → Option Value) (y : Int) (ty : Tok) :
    Tell w mean mg mb 98 2 [.int y ty] (OutV fun _ => .bool (longB y)) := by
  unfold Tell; k_fill; intro dp un gd cn cs a ccd cl outer A₀ base h₀ L m news s Q E B F X N T hk hd hu hret
  refine wpAny_call ?_; k_dflt cell_enter; k_steps
  all_goals (refine outB_end hret ?_ (by assumption) (by tb_start))
  all_goals rfl
local macro_rules | `(tactic| ktr_rel) => `(tactic| exact long_tells _ _ _ _ _ _)

def lawRule (y day parts : Int) : Int :=
  if parts < 19440 then
    if day.fmod 7 = 1 ∧ 9924 ≤ parts ∧ longB y = false then 2
    else if day.fmod 7 = 0 ∧ 16789 ≤ parts ∧ longB (y - 1) = true then 1 else 0
  else 0
theorem lawRule_tells (w : World) (mean : ExcName → Option Value) (mg mb : Str → Option Value) (y day parts : Int) (ty td tp : Tok) :
    Tell w mean mg mb 110 3 [.int y ty, .int day td, .int parts tp] (OutV fun t => .int (lawRule y day parts) t) := by
  unfold Tell; k_fill; intro dp un gd cn cs a ccd cl outer A₀ base h₀ L m news s Q E B F X N T hk hd hu hret
  refine wpAny_call ?_; k_dflt cell_enter; k_steps
  all_goals (refine outI_end hret ?_ (by assumption) (by tb_start))
  all_goals (clear hret; unfold lawRule; cases hb1 : longB y <;> cases hb2 : longB (y - 1) <;> first
    | (exfalso; refine ml_no ?_ hb1; assumption) | (exfalso; refine ml_no hb1 ?_; assumption) | (exfalso; refine ml_no ?_ hb2; assumption) | (exfalso; refine ml_no hb2 ?_; assumption)
    | ((try simp only [reduceCtorEq, and_false, and_true, if_false]); (repeat' split) <;> first | rfl | omega))
local macro_rules | `(tactic| ktr_rel) => `(tactic| exact lawRule_tells _ _ _ _ _ _ _ _ _ _)
end Mine
-- part: Cmp
namespace Mine
open PySem PySem.W PyProof.Rows PySem.Calls PyProof.Rows.LCt PyProof.Rows.LCg
theorem ints_snoc {ys : List Value} {ns : List Int} (h : IntsAre ys ns) (k : Int) (t : Tok) : IntsAre (ys ++ [.int k t]) (ns ++ [k]) := h.append (IntsAre.cons k t IntsAre.nil)

/-- one turn's own state: what the ledger bears and what the block's name holds -/
def Turn (h₀ : Heap) (L : Addr) (m : Str → Option Value) (x : Str) (I C D : Addr) (oI oC : Obj) (ys : List Value) (news : List (Addr × Obj)) (m₂ : Str → Option Value) (h : Heap) (k : Int) (t : Tok) : Prop :=
  NsObj oC m₂ ∧ m₂ x = some (.int k t) ∧ Fr h₀ L h m ∧ News h₀ L h ((I, oI) :: (C, oC) :: (D, lst ys) :: news) ∧ Off3 I C D news ∧ ((@Ne Nat I C) ∧ (@Ne Nat I D) ∧ (@Ne Nat C D))

theorem comp_go {prog : Program} {w : World} {A : Around} {s : Shared} {h₀ : Heap} {L : Addr} {m : Str → Option Value} {env : Env} {ct elt : Expr} {x : Str} {scope : Scope} {cl : List (Str × Addr)} {S : List (Addr × Obj) → Prop} {P : Nat → Value → Prop} {Fin : List Value → List (Addr × Obj) → Prop} {news : List (Addr × Obj)}
    (f : Nat → Int) (g : Int → Bool) (e : Int → Int) (N : Nat) (hS : S news)
    (hv : ∀ i v, i < N → P i v → ∃ t, v = .int (f i) t)
    (test : ∀ (k : Int) t I oI C oC D ys m₂ h tk (E' : Value → Shared → Prop), (∃ i, i < N ∧ k = f i) → Turn h₀ L m x I C D oI oC ys news m₂ h k t →
      wpAny (model prog w) A (isTrue ct (compEnvC scope cl C env) (eval ct (compEnvC scope cl C env))) (fun ok s' => ok = g k ∧ ∃ h' tk', s' = { s with heap := h', toks := tk' } ∧ Fr h₀ L h' m ∧ News h₀ L h' ((I, oI) :: (C, oC) :: (D, lst ys) :: news)) E' { s with heap := h, toks := tk })
    (item : ∀ (k : Int) t I oI C oC D ys m₂ h tk (E' : Value → Shared → Prop), (∃ i, i < N ∧ k = f i) → Turn h₀ L m x I C D oI oC ys news m₂ h k t →
      wpAny (model prog w) A (eval elt (compEnvC scope cl C env)) (fun y s' => (∃ t', y = .int (e k) t') ∧ ∃ h' tk', s' = { s with heap := h', toks := tk' } ∧ Fr h₀ L h' m ∧ News h₀ L h' ((I, oI) :: (C, oC) :: (D, lst ys) :: news)) E' { s with heap := h, toks := tk })
    : ∀ (n i : Nat) (ys : List Value) (ns : List Int), i + n = N → IntsAre ys ns →
      (∀ zs, IntsAre zs (ns ++ ((((List.range' i n).map f).filter g).map e)) → Fin zs news) →
      CompRestT prog w A h₀ L m env ct elt x scope cl s S P Fin n i ys news := by
  intro n
  induction n with
  | zero =>
    intro i ys ns hi hy fin
    exact CompRestT.zero (fin ys (by simpa using hy))
  | succ n ih =>
    intro i ys ns hi hy fin
    refine CompRestT.succ ?_
    intro v I oI C oC D m₂ h tk E' hP hoC hx F Nw off ne
    obtain ⟨t, rfl⟩ := hv i v (by omega) hP
    have hk : ∃ j, j < N ∧ f i = f j := ⟨i, by omega, rfl⟩
    refine wpAny_mono (test (f i) t I oI C oC D ys m₂ h tk E' hk ⟨hoC, hx, F, Nw, off, ne⟩) (fun ok s' q => ?_) fun _ _ q => q
    obtain ⟨hok, h', tk', rfl, F', N'⟩ := q
    have hr : (List.range' i (n + 1)) = i :: List.range' (i + 1) n := by rw [List.range'_succ]
    cases hg : g (f i) with
    | true =>
      rw [hg] at hok; subst hok
      simp only [if_true]
      refine wpAny_mono (item (f i) t I oI C oC D ys m₂ h' tk' E' hk ⟨hoC, hx, F', N', off, ne⟩) (fun y s' q => ?_) fun _ _ q => q
      obtain ⟨⟨t', rfl⟩, h'', tk'', rfl, F'', N''⟩ := q
      refine ⟨h'', tk'', news, rfl, F'', N'', off, hS, ?_⟩
      refine ih (i + 1) _ (ns ++ [e (f i)]) (by omega) (ints_snoc hy _ _) (fun zs hz => fin zs ?_)
      rw [hr]; simpa [hg] using hz
    | false =>
      rw [hg] at hok; subst hok
      simp only [Bool.false_eq_true, if_false]
      refine ⟨h', tk', news, rfl, F', N', off, hS, ?_⟩
      refine ih (i + 1) _ ns (by omega) hy (fun zs hz => fin zs ?_)
      rw [hr]; simpa [hg] using hz

theorem comp_run {prog : Program} {w : World} {A : Around} {s : Shared} {h₀ : Heap} {L : Addr} {m : Str → Option Value} {env : Env} {ct elt : Expr} {x : Str} {scope : Scope} {cl : List (Str × Addr)} {S : List (Addr × Obj) → Prop} {P : Nat → Value → Prop} {Fin : List Value → List (Addr × Obj) → Prop} {news : List (Addr × Obj)}
    (f : Nat → Int) (g : Int → Bool) (e : Int → Int) (N : Nat) (res : List Int) (hres : ((((List.range N).map f).filter g).map e) = res) (hS : S news)
    (hv : ∀ i v, i < N → P i v → ∃ t, v = .int (f i) t)
    (test : ∀ (k : Int) t I oI C oC D ys m₂ h tk (E' : Value → Shared → Prop), (∃ i, i < N ∧ k = f i) → Turn h₀ L m x I C D oI oC ys news m₂ h k t →
      wpAny (model prog w) A (isTrue ct (compEnvC scope cl C env) (eval ct (compEnvC scope cl C env))) (fun ok s' => ok = g k ∧ ∃ h' tk', s' = { s with heap := h', toks := tk' } ∧ Fr h₀ L h' m ∧ News h₀ L h' ((I, oI) :: (C, oC) :: (D, lst ys) :: news)) E' { s with heap := h, toks := tk })
    (item : ∀ (k : Int) t I oI C oC D ys m₂ h tk (E' : Value → Shared → Prop), (∃ i, i < N ∧ k = f i) → Turn h₀ L m x I C D oI oC ys news m₂ h k t →
      wpAny (model prog w) A (eval elt (compEnvC scope cl C env)) (fun y s' => (∃ t', y = .int (e k) t') ∧ ∃ h' tk', s' = { s with heap := h', toks := tk' } ∧ Fr h₀ L h' m ∧ News h₀ L h' ((I, oI) :: (C, oC) :: (D, lst ys) :: news)) E' { s with heap := h, toks := tk })
    (fin : ∀ zs, IntsAre zs res → Fin zs news) :
    CompRestT prog w A h₀ L m env ct elt x scope cl s S P Fin N 0 [] news := by
  subst hres
  refine comp_go f g e N hS hv test item N 0 [] [] (Nat.zero_add _) .nil (fun zs hz => fin zs ?_)
  rw [List.range_eq_range']; simpa using hz

theorem len_lst {prog : Program} {w : World} {A : Around} {s : Shared} {h₀ : Heap} {L D : Addr} {news : List (Addr × Obj)} {ys : List Value} {ns : List Int} {Q E : Value → Shared → Prop} (N : News h₀ L s.heap news) (hm : (D, lst ys) ∈ news) (hI : IntsAre ys ns) (hf : ns.length < 2 ^ 62)
    (h : Q (.int ns.length (s.toks + 1)) { s with toks := s.toks + 1 + 1 }) : wpAny (model prog w) A (call (.builtin "len") [.ref D]) Q E s := by
  have e : ys.toArray.size = ns.length := by simp [hI.length]
  refine len_list ⟨_, N.get hm, rfl, _, rfl⟩ ?_ ?_
  · rw [e]; omega
  · rw [e]; exact h
end Mine
-- part: Moon
namespace Mine
open PySem PySem.W PyProof.Rows PySem.Calls
local macro_rules | `(tactic| walk_at "binaryOp FloorDiv int int") => `(tactic| (k_here; (with_reducible refine floordiv_int (by decide) ?_); (try dsimp only)))
local macro_rules | `(tactic| walk_at "binaryOp Mod int int") => `(tactic| (k_here; (with_reducible refine mod_int' (by decide) ?_); (try dsimp only)))
local macro_rules | `(tactic| walk_at "eval Call") => `(tactic| (k_here; (with_reducible show wpAny _ _ (eval (Expr.Call (Expr.Name _ _) _ [] _) _) _ _ _); k_dflt (refine Call_ ?_)))
local macro_rules | `(tactic| walk_at "call ref") => `(tactic| (
    k_here
    k_dflt (refine' tell_use ?k1 ?k2 ?k3 ?k4 ?k5 ?kK ?kC ?kd ?ku ?_; (case k1 => k_asm); (case k2 => k_asm); (case k3 => k_asm); (case k4 => k_asm); (case k5 => k_asm); (case kC => ktr_rel); (case kK => first | exact rfl | assumption); (case kd => ktr_room); (case ku => ktr_units))
    first
      | (unfold OutV; intro t9 h9 tk9 F9 N9)
      | (unfold Out2; intro D9 t9 u9 c9 h9 tk9 F9 N9 l9; (try k_lt l9))
      | (unfold Out3; intro D9 t9 u9 v9 c9 h9 tk9 F9 N9 l9; (try k_lt l9))
    (try dsimp only)
    (try k_sweep)
    (try k_fold)))
local macro_rules | `(tactic| ktr_rel) => `(tactic| fail "no contract")

local macro_rules | `(tactic| ktr_rel) => `(tactic| exact delay1_tells _ _ _ _ _ _)
local macro_rules | `(tactic| ktr_rel) => `(tactic| exact delay2_tells _ _ _ _ _ _)
local macro_rules | `(tactic| ktr_rel) => `(tactic| exact leap_tells _ _ _ _ _ _)
local macro_rules | `(tactic| ktr_rel) => `(tactic| exact yearMonths_tells _ _ _ _ _ _)
local macro_rules | `(tactic| ktr_rel) => `(tactic| exact midnight_tells _ _ _ _ _ _)
local macro_rules | `(tactic| ktr_rel) => `(tactic| exact jd7_tells _ _ _ _ _ _ _ _ _)
local macro_rules | `(tactic| ktr_rel) => `(tactic| exact yearDays_tells _ _ _ _ _ _)
local macro_rules | `(tactic| tb_start) => `(tactic| first | assumption | exact news_tl (by assumption) | exact news_tl (news_tl (by assumption)) | exact news_tl (news_tl (news_tl (by assumption))))
local macro_rules | `(tactic| ktr_rel) => `(tactic| exact monthLen_tells _ _ _ _ _ _ _ _ (by omega))
local macro_rules | `(tactic| ktr_rel) => `(tactic| exact monthDays_tells _ _ _ _ _ _ _ _ (by omega))
local macro_rules | `(tactic| ktr_rel) => `(tactic| exact jdLow_tells _ _ _ _ _ _ _ _ _ _ (by omega) (by omega))
local macro_rules | `(tactic| walk_at "call ref") => `(tactic| (
    k_here
    (with_reducible show wpAny _ _ (call (Value.ref _) ([] ++ [])) _ _ _)
    k_dflt (refine' tell_use ?k1 ?k2 ?k3 ?k4 ?k5 ?kK ?kC ?kd ?ku ?_; (case k1 => k_asm); (case k2 => k_asm); (case k3 => k_asm); (case k4 => k_asm); (case k5 => k_asm); (case kC => exact longYears_tells _ _ _ _); (case kK => first | exact rfl | assumption); (case kd => ktr_room); (case ku => ktr_units))
    (unfold OutL; intro D9 t1 t2 t3 t4 t5 t6 t7 c9 h9 tk9 F9 N9 l9; (try k_lt l9))
    (try dsimp only)
    (try k_sweep)
    (try k_fold)))

local macro_rules | `(tactic| ktr_rel) => `(tactic| exact long_tells _ _ _ _ _ _)
local macro_rules | `(tactic| ktr_rel) => `(tactic| exact lawRule_tells _ _ _ _ _ _ _ _ _ _)

theorem divmod_K {prog : Program} {w : World} {A : Around} {s : Shared} {a b : Int} {t u : Tok} {Q : Value → Shared → Prop} {E : Value → Shared → Prop} {h₀ : Heap} {L : Addr} {m : Str → Option Value} {news : List (Addr × Obj)} (F : Fr h₀ L s.heap m) (N : News h₀ L s.heap news) (hb : b ≠ 0)
    (h : ∀ D h', Fr h₀ L h' m → News h₀ L h' ((D, { cls := .type "tuple", data := .seq #[.int (a.fdiv b) s.toks, .int (a.fmod b) (s.toks + 1)] }) :: news) → (∀ p ∈ news, p.1 < D) → Q (.ref D) { s with toks := s.toks + 1 + 1, heap := h' })
    (hp : Builtin.divisionGoesByPylong a b = false) :
    wpAny (model prog w) A (call (.builtin "divmod") [.int a t, .int b u]) Q E s :=
  divmod_N F N hb (fun h' F' N' => h _ h' F' N' (fun p hp => Heap.lt_size (N p hp).1)) (Or.inl hp)
theorem le9 {a b : Nat} (h : a ≤ b) : a ≤ b := h
theorem news_ne {news : List (Addr × Obj)} {d L : Addr} (l : ∀ p ∈ news, p.1 < L) (h : L ≤ d) : ∀ p ∈ news, p.1 ≠ d :=
  fun p hp => Nat.ne_of_lt (Nat.lt_of_lt_of_le (l p hp) h)
local macro_rules | `(tactic| walk_at "call builtin:divmod") => `(tactic| (
    k_here
    (with_reducible show wpAny _ _ (call (Value.builtin _) [Value.int _ _, Value.int _ _]) _ _ _)
    k_dflt (refine' divmod_K ?k1 ?k2 ?k3 ?_ ?k4; (case k1 => k_asm); (case k2 => k_asm); (case k3 => decide); (case k4 => exact PyProof.noPylong_of_log2 (by decide +kernel)))
    intro D9 h9 F9 N9 l9
    have l8 := l9
    (try k_lt l9)
    (try dsimp only)
    (try k_sweep)))
local macro_rules | `(tactic| k_all) => `(tactic| (refine' news_ne ?a ?b; (case a => assumption); (case b => (refine' le9 ?_; (try dsimp only); omega))))
def longs (p : Int) : Int := (((([3, 6, 8, 11, 14, 17, 19] : List Int).filter fun k => decide (k ≤ p)).length : Nat) : Int)
theorem out2_end {h₀ h' : Heap} {L D : Addr} {m : Str → Option Value} {news all : List (Addr × Obj)} {s : Shared} {Q : Value → Shared → Prop} {tk' : Nat} {x y x' y' : Int} {t u : Tok} {c : Nat} (hret : Out2 x y h₀ L m news s Q) (F : Fr h₀ L h' m) (N : News h₀ L h' ((D, ({ cls := .type "tuple", data := .seq #[.int x' t, .int y' u] c } : Obj)) :: all))
    (l : ∀ p ∈ all, p.1 < D) (sub : ∀ p ∈ news, p ∈ all) (e1 : x' = x) (e2 : y' = y) : Q (.ref D) { s with heap := h', toks := tk' } := by
  subst e1; subst e2
  have N' : News h₀ L h' ((D, ({ cls := .type "tuple", data := .seq #[.int x' t, .int y' u] c } : Obj)) :: news) := by
    intro p hp
    refine N p ?_
    rcases List.mem_cons.mp hp with rfl | hp
    · exact List.mem_cons_self
    · exact List.mem_cons_of_mem _ (sub p hp)
  exact hret _ _ _ _ _ _ F N' (fun p hp => l p (sub p hp))
theorem longs_fit (p : Int) : (([3, 6, 8, 11, 14, 17, 19] : List Int).filter fun k => decide (k ≤ p)).length < 2 ^ 62 :=
  Nat.lt_of_le_of_lt (List.length_filter_le _ _) (by decide)
def moons (y : Int) : Int := 235 * (y - 1).fdiv 19 + 12 * (y - 1).fmod 19 + longs ((y - 1).fmod 19)
def moonTotal (y : Int) : Int := 5 * 1080 + 204 + moons y * (29 * 25920 + 12 * 1080 + 793)
theorem seven_at {t1 t2 t3 t4 t5 t6 t7 : Tok} (i : Nat) (v : Value) (_ : i < 7) (h : (#[Value.int 3 t1, .int 6 t2, .int 8 t3, .int 11 t4, .int 14 t5, .int 17 t6, .int 19 t7] : Array Value)[i]? = some v) :
    ∃ t, v = .int (([3, 6, 8, 11, 14, 17, 19] : List Int).getD i 0) t :=
  IntsAre.int_at (.cons _ t1 (.cons _ t2 (.cons _ t3 (.cons _ t4 (.cons _ t5 (.cons _ t6 (.cons _ t7 .nil))))))) i v (by simpa using h)
theorem moon_tells (w : World) (mean : ExcName → Option Value) (mg mb : Str → Option Value) (y : Int) (ty : Tok) :
    Tell w mean mg mb 103 3 [.int y ty] (Out2 ((moonTotal y).fdiv 25920) ((moonTotal y).fmod 25920)) := by
  unfold Tell; k_fill; intro dp un gd cn cs a ccd cl outer A₀ base h₀ L m news s Q E B F X N T hk hd hu hret
  refine wpAny_call ?_
  k_dflt (refine' code_defC ?k1 ?k2 ?k3 ?k4 ?k5 ?kA ?kF ?kK ?k6 ?k7 ?k8 ?k9 ?kB ?kD ?_ ?c2 ?c3 ?c4; (case kA => exact rfl); (case kF => exact rfl); (case kK => assumption); (case k1 => k_asm); (case k2 => k_asm); (case k3 => k_asm); (case k4 => k_asm); (case k5 => k_asm); (case k6 => k_is); (case k7 => k_is); (case k8 => ktr_room); (case k9 => exact BindsTo.of_eq rfl); (case kB => exact rfl); (case kD => decide +kernel); (case c2 => exact rfl); (case c3 => exact rfl); (case c4 => exact rfl); k_whole; intro g' L' h' tk' cells' FG' F' N' Y' B' X' T' l1; (try k_lt l1); k_cells Y'; (try simp only [List.cons_append, List.nil_append] at N'); (try dsimp only); (try k_lift B'); (try k_fold))
  repeat' (first
    | (k_unfold; (try dsimp only))
    | (k_here; (with_reducible show wpAny _ _ (eval (PySem.Expr.ListComp _ _ _ _) _) _ _ _); k_dflt (refine LCt.ListComp_T (F₀ := by k_asm) (by with_unfolding_all rfl) (by decide) (by rfl) (by decide) (by rfl) ?_))
    | (k_here; (with_reducible show LCt.CompSrcT _ _ _ _ _ _ _ _ _ _ _ _ _ _ _); k_dflt (refine LCt.CompSrcT.ledger (by rfl) (by k_asm) (by k_asm) (by k_mem) (by exact Nat.le_of_ble_eq_true rfl) ?_); intro g9; k_dflt (refine comp_run (fun i => ([3, 6, 8, 11, 14, 17, 19] : List Int).getD i 0) (fun k => decide (k ≤ (y - 1).fmod 19)) (fun k => k) 7 (([3, 6, 8, 11, 14, 17, 19] : List Int).filter fun k => decide (k ≤ (y - 1).fmod 19)) (List.map_id' _) (.inr ⟨_, by k_mem, rfl, _, rfl⟩) seven_at ?_ ?_ ?_))
    | ((with_reducible rename Turn _ _ _ _ _ _ _ _ _ _ _ _ _ _ _ => tu9); obtain ⟨hC9, hx9, F9, N9, off9, ne9⟩ := tu9; (try simp only [LCg.Off3, and_true] at off9))
    | (k_here; (with_reducible show wpAny _ _ (call (Value.builtin "len") [Value.ref _]) _ _ _); k_dflt (refine' len_lst ?k1 ?k2 ?k3 ?k4 ?_; (case k1 => k_asm); (case k2 => k_mem); (case k3 => assumption); (case k4 => exact longs_fit _)))
    | exact ⟨rfl, _, _, rfl, by assumption, by assumption⟩
    | exact ⟨⟨_, rfl⟩, _, _, rfl, by assumption, by assumption⟩
    | (k_end; wrow_close) | walk1 | (dsimp only; walk1) | (leave1; walk_say "STEP leave1"; try dsimp only) | fail "no step")
  all_goals (refine out2_end hret (by assumption) (by assumption) (by assumption) (fun p hp => by repeat (first | exact hp | refine List.mem_cons_of_mem _ ?_)) rfl rfl)
local macro_rules | `(tactic| ktr_rel) => `(tactic| exact moon_tells _ _ _ _ _ _)
end Mine
-- part: New
namespace Mine
open PySem PySem.W PyProof.Rows PySem.Calls
local macro_rules | `(tactic| walk_at "binaryOp FloorDiv int int") => `(tactic| (k_here; (with_reducible refine floordiv_int (by decide) ?_); (try dsimp only)))
local macro_rules | `(tactic| walk_at "binaryOp Mod int int") => `(tactic| (k_here; (with_reducible refine mod_int' (by decide) ?_); (try dsimp only)))
local macro_rules | `(tactic| walk_at "eval Call") => `(tactic| (k_here; (with_reducible show wpAny _ _ (eval (Expr.Call (Expr.Name _ _) _ [] _) _) _ _ _); k_dflt (refine Call_ ?_)))
local macro_rules | `(tactic| walk_at "call ref") => `(tactic| (
    k_here
    k_dflt (refine' tell_use ?k1 ?k2 ?k3 ?k4 ?k5 ?kK ?kC ?kd ?ku ?_; (case k1 => k_asm); (case k2 => k_asm); (case k3 => k_asm); (case k4 => k_asm); (case k5 => k_asm); (case kC => ktr_rel); (case kK => first | exact rfl | assumption); (case kd => ktr_room); (case ku => ktr_units))
    first
      | (unfold OutV; intro t9 h9 tk9 F9 N9)
      | (unfold Out2; intro D9 t9 u9 c9 h9 tk9 F9 N9 l9; (try k_lt l9))
      | (unfold Out3; intro D9 t9 u9 v9 c9 h9 tk9 F9 N9 l9; (try k_lt l9))
    (try dsimp only)
    (try k_sweep)
    (try k_fold)))
local macro_rules | `(tactic| ktr_rel) => `(tactic| fail "no contract")

local macro_rules | `(tactic| ktr_rel) => `(tactic| exact delay1_tells _ _ _ _ _ _)
local macro_rules | `(tactic| ktr_rel) => `(tactic| exact delay2_tells _ _ _ _ _ _)
local macro_rules | `(tactic| ktr_rel) => `(tactic| exact leap_tells _ _ _ _ _ _)
local macro_rules | `(tactic| ktr_rel) => `(tactic| exact yearMonths_tells _ _ _ _ _ _)
local macro_rules | `(tactic| ktr_rel) => `(tactic| exact midnight_tells _ _ _ _ _ _)
local macro_rules | `(tactic| ktr_rel) => `(tactic| exact jd7_tells _ _ _ _ _ _ _ _ _)
local macro_rules | `(tactic| ktr_rel) => `(tactic| exact yearDays_tells _ _ _ _ _ _)
local macro_rules | `(tactic| tb_start) => `(tactic| first | assumption | exact news_tl (by assumption) | exact news_tl (news_tl (by assumption)) | exact news_tl (news_tl (news_tl (by assumption))))
local macro_rules | `(tactic| ktr_rel) => `(tactic| exact monthLen_tells _ _ _ _ _ _ _ _ (by omega))
local macro_rules | `(tactic| ktr_rel) => `(tactic| exact monthDays_tells _ _ _ _ _ _ _ _ (by omega))
local macro_rules | `(tactic| ktr_rel) => `(tactic| exact jdLow_tells _ _ _ _ _ _ _ _ _ _ (by omega) (by omega))
local macro_rules | `(tactic| walk_at "call ref") => `(tactic| (
    k_here
    (with_reducible show wpAny _ _ (call (Value.ref _) ([] ++ [])) _ _ _)
    k_dflt (refine' tell_use ?k1 ?k2 ?k3 ?k4 ?k5 ?kK ?kC ?kd ?ku ?_; (case k1 => k_asm); (case k2 => k_asm); (case k3 => k_asm); (case k4 => k_asm); (case k5 => k_asm); (case kC => exact longYears_tells _ _ _ _); (case kK => first | exact rfl | assumption); (case kd => ktr_room); (case ku => ktr_units))
    (unfold OutL; intro D9 t1 t2 t3 t4 t5 t6 t7 c9 h9 tk9 F9 N9 l9; (try k_lt l9))
    (try dsimp only)
    (try k_sweep)
    (try k_fold)))

local macro_rules | `(tactic| ktr_rel) => `(tactic| exact long_tells _ _ _ _ _ _)
local macro_rules | `(tactic| ktr_rel) => `(tactic| exact lawRule_tells _ _ _ _ _ _ _ _ _ _)
local macro_rules | `(tactic| walk_at "call builtin:divmod") => `(tactic| (
    k_here
    (with_reducible show wpAny _ _ (call (Value.builtin _) [Value.int _ _, Value.int _ _]) _ _ _)
    k_dflt (refine' divmod_K ?k1 ?k2 ?k3 ?_ ?k4; (case k1 => k_asm); (case k2 => k_asm); (case k3 => decide); (case k4 => exact PyProof.noPylong_of_log2 (by decide +kernel)))
    intro D9 h9 F9 N9 l9
    have l8 := l9
    (try k_lt l9)
    (try dsimp only)
    (try k_sweep)))
local macro_rules | `(tactic| k_all) => `(tactic| (refine' news_ne ?a ?b; (case a => assumption); (case b => (refine' le9 ?_; (try dsimp only); omega))))
local macro_rules | `(tactic| ktr_rel) => `(tactic| exact moon_tells _ _ _ _ _ _)

def lawFix (d p r : Int) : Int := if 19440 ≤ p ∨ 0 < r then d + 1 else d
def lawPut (d : Int) : Int := if ([2, 4, 6].any fun x => x == d.fmod 7) = true then d + 1 else d
def lawNew (y : Int) : Int :=
  347998 + lawPut (lawFix ((moonTotal y).fdiv 25920) ((moonTotal y).fmod 25920) (lawRule y ((moonTotal y).fdiv 25920) ((moonTotal y).fmod 25920)))
section
variable {y : Int}
theorem lawNew_1 (h : 18 * 1080 ≤ (moonTotal y).fmod 25920 ∨ 0 < lawRule y ((moonTotal y).fdiv 25920) ((moonTotal y).fmod 25920)) (h2 : ([2, 4, 6].any fun x => x == ((moonTotal y).fdiv 25920 + 1).fmod 7) = true) :
    347998 + ((moonTotal y).fdiv 25920 + 1 + 1) = lawNew y := by
  have e : lawFix ((moonTotal y).fdiv 25920) ((moonTotal y).fmod 25920) (lawRule y ((moonTotal y).fdiv 25920) ((moonTotal y).fmod 25920)) = (moonTotal y).fdiv 25920 + 1 := if_pos h
  unfold lawNew; rw [e]; unfold lawPut; rw [if_pos h2]
theorem lawNew_2 (h : 18 * 1080 ≤ (moonTotal y).fmod 25920 ∨ 0 < lawRule y ((moonTotal y).fdiv 25920) ((moonTotal y).fmod 25920)) (h2 : ([2, 4, 6].any fun x => x == ((moonTotal y).fdiv 25920 + 1).fmod 7) = false) :
    347998 + ((moonTotal y).fdiv 25920 + 1) = lawNew y := by
  have e : lawFix ((moonTotal y).fdiv 25920) ((moonTotal y).fmod 25920) (lawRule y ((moonTotal y).fdiv 25920) ((moonTotal y).fmod 25920)) = (moonTotal y).fdiv 25920 + 1 := if_pos h
  unfold lawNew; rw [e]; unfold lawPut; rw [h2]; rfl
theorem lawNew_3 (h : ¬ 18 * 1080 ≤ (moonTotal y).fmod 25920) (h' : ¬ 0 < lawRule y ((moonTotal y).fdiv 25920) ((moonTotal y).fmod 25920)) (h2 : ([2, 4, 6].any fun x => x == ((moonTotal y).fdiv 25920).fmod 7) = true) :
    347998 + ((moonTotal y).fdiv 25920 + 1) = lawNew y := by
  have e : lawFix ((moonTotal y).fdiv 25920) ((moonTotal y).fmod 25920) (lawRule y ((moonTotal y).fdiv 25920) ((moonTotal y).fmod 25920)) = (moonTotal y).fdiv 25920 := if_neg (fun q => q.elim h h')
  unfold lawNew; rw [e]; unfold lawPut; rw [if_pos h2]
theorem lawNew_4 (h : ¬ 18 * 1080 ≤ (moonTotal y).fmod 25920) (h' : ¬ 0 < lawRule y ((moonTotal y).fdiv 25920) ((moonTotal y).fmod 25920)) (h2 : ([2, 4, 6].any fun x => x == ((moonTotal y).fdiv 25920).fmod 7) = false) :
    347998 + (moonTotal y).fdiv 25920 = lawNew y := by
  have e : lawFix ((moonTotal y).fdiv 25920) ((moonTotal y).fmod 25920) (lawRule y ((moonTotal y).fdiv 25920) ((moonTotal y).fmod 25920)) = (moonTotal y).fdiv 25920 := if_neg (fun q => q.elim h h')
  unfold lawNew; rw [e]; unfold lawPut; rw [h2]; rfl
end
theorem lawNew_tells (w : World) (mean : ExcName → Option Value) (mg mb : Str → Option Value) (y : Int) (ty : Tok) :
    Tell w mean mg mb 117 4 [.int y ty] (OutV fun t => .int (lawNew y) t) := by
  unfold Tell; k_fill; intro dp un gd cn cs a ccd cl outer A₀ base h₀ L m news s Q E B F X N T hk hd hu hret
  refine wpAny_call ?_; k_dflt cell_enter; k_steps
  all_goals (refine outI_end hret ?_ (by assumption) (by tb_start))
  all_goals first | exact lawNew_1 (.inl (by assumption)) (by assumption) | exact lawNew_1 (.inr (by assumption)) (by assumption) | exact lawNew_2 (.inl (by assumption)) (by assumption) | exact lawNew_2 (.inr (by assumption)) (by assumption) | exact lawNew_3 (by assumption) (by assumption) (by assumption) | exact lawNew_4 (by assumption) (by assumption) (by assumption)
local macro_rules | `(tactic| ktr_rel) => `(tactic| exact lawNew_tells _ _ _ _ _ _)
end Mine
-- part: Rng
namespace Mine
open PySem PySem.W PyProof.Rows PySem.Calls

/-- a loop over a range by ones, of ints of any size: short ranges go the library's way, long ones by their own iterator -/
theorem any_range {prog : Program} {w : World} {A : Around} {E : Value → Shared → Prop} {s : Shared} {env : Env} {h₀ : Heap} {x : Str} {body : List Stmt} {Q : Flow → Shared → Prop}
    {σ : Type} {r : Addr} {a b : Int} {t u v : Tok} {n : Nat} {m₀ : Str → Option Value} (Led : σ → List (Addr × Obj)) (ps : σ → List (Str × Value)) (Facts : σ → Prop) (stored : List Str) (P : List Int → σ → Prop) (c₀ : σ)
    (hh : A.handled = none) (hr : IsRange s.heap r a b 1 t u v) (hn : Builtin.Range.rangeSize a b 1 = (n : Int)) (F : Fr h₀ env.locals s.heap m₀) (N : News h₀ env.locals s.heap (Led c₀)) (hf : Facts c₀) (hk : ∀ p ∈ ps c₀, m₀ p.1 = some p.2) (hp : P [] c₀)
    (turn : ∀ (c : σ) (pre : List Int) (k : Int) t (u : Str → Option Value) h tk own, k = a + (pre.length : Int) → pre.length < n → OwnOff own ((Led c₀).map (·.1)) → Facts c → P pre c →
      Fr h₀ env.locals h (fun y => if y = x then some (.int k t) else kstB (fun z => if stored.contains z then u z else m₀ z) (ps c) y) → News h₀ env.locals h (Led c ++ own) →
      wpAny (model prog w) A (execs body env) (InvPostN h₀ env.locals (KstS Led ps Facts x stored m₀ P (pre ++ [k])) own ((Led c₀).map (·.1)) { s with heap := h, toks := tk } Q) E { s with heap := h, toks := tk })
    (done : ∀ (c : σ) (u : Str → Option Value) h tk, Facts c → P (rangeKs a n) c → Fr h₀ env.locals h (fun y => if y = x then u y else kstB (fun z => if stored.contains z then u z else m₀ z) (ps c) y) → News h₀ env.locals h (Led c) → Q .next { s with heap := h, toks := tk }) :
    wpAny (model prog w) A (pyIter (.ref r)) (fun it s₂ => LoopAtV prog w A h₀ env x body Q E it s₂) E s := by
  by_cases hs : Builtin.Range.small a b 1 = true
  · exact kst_range Led ps Facts stored P c₀ hh hr hs hn F N hf hk hp turn done
  have hpush : ∀ (o : Obj) bb oo, s.heap.get? bb = some oo → (s.heap.push o).get? bb = some oo := fun o bb oo e => Heap.get?_push_of_some _ e
  refine wpAny_pyIter_longrange hr (by simpa using hs) ?_
  refine loop_invN (fun i m nx => KstS Led ps Facts x stored m₀ P ((rangeKs a n).take i) m nx) (Walks.longrange hh s.heap.objs.size a 1 n) ?_ ?_ ?_ ?_ ?_ (F.push _) (N.grown (hpush _)) ⟨c₀, rfl, hf, hk, fun _ _ _ _ => rfl, by simpa using hp⟩ ?_ ?_
  · intro hm
    have e : env.locals = s.heap.objs.size := List.mem_singleton.mp hm
    exact absurd F.ns.lt (e ▸ Nat.lt_irrefl _)
  · intro bb hb
    rw [List.mem_singleton.mp hb]
    exact next_is_new F
  · intro p hp hI
    have e : p.1 = s.heap.objs.size := List.mem_singleton.mp hI
    exact absurd (Heap.lt_size (N p hp).1) (e ▸ Nat.lt_irrefl _)
  · intro p hp hI
    have e : p.1 = s.heap.objs.size := List.mem_singleton.mp hI
    exact absurd (Heap.lt_size (N p hp).1) (e ▸ Nat.lt_irrefl _)
  · show IsLongIter _ _ _ _ _
    rw [hn]
    simpa using Heap.get?_push_size _ rfl
  · rintro i v m₁ nx h tk own hi ⟨t, rfl⟩ _ hoff ⟨c, rfl, hf', h1, h2, hp'⟩ F₁ N₁
    have e1 : a + (i : Int) * 1 = a + (i : Int) := by omega
    rw [e1] at F₁
    have hk' : (rangeKs a n)[i]? = some (a + (i : Int)) := by simp [rangeKs, hi]
    have hs' : (rangeKs a n).take (i + 1) = (rangeKs a n).take i ++ [a + (i : Int)] := by simp [List.take_add_one, hk']
    have hlen : ((rangeKs a n).take i).length = i := by rw [List.length_take, rangeKs_length]; omega
    rw [hs']
    exact turn c _ _ t m₁ h tk own (by rw [hlen]) (by rw [hlen]; exact hi) hoff hf' hp' (kst_fr h1 h2 F₁) N₁
  · rintro m₁ nx h tk ⟨c, rfl, hf', h1, h2, hp'⟩ F₁ N₁
    have hl : (rangeKs a n).take n = rangeKs a n := List.take_of_length_le (Nat.le_of_eq (rangeKs_length _ _))
    rw [hl] at hp'
    exact done c m₁ h tk hf' hp' (kst_frOut h1 h2 F₁) N₁
end Mine
namespace Mine
open PySem PySem.W PyProof.Rows PySem.Calls
abbrev LSt := List Value × List Int × Nat × Int × Tok × Int × Tok
abbrev lsLed (R : Addr) (rest : List (Addr × Obj)) : LSt → List (Addr × Obj) := fun c => (R, W.listOf c.1.toArray c.2.2.1) :: rest
abbrev lsPs : LSt → List (Str × Value) := fun c => [(Str.ofString "day", .int c.2.2.2.1 c.2.2.2.2.1), (Str.ofString "parts", .int c.2.2.2.2.2.1 c.2.2.2.2.2.2)]
abbrev lsP (Pw : List Int → List Int → Int → Int → Prop) : List Int → LSt → Prop := fun pre c => Pw pre c.2.1 c.2.2.2.1 c.2.2.2.2.2.1

theorem law_range {prog : Program} {w : World} {A : Around} {E : Value → Shared → Prop} {s : Shared} {env : Env} {h₀ : Heap} {x : Str} {body : List Stmt} {Q : Flow → Shared → Prop}
    {r R : Addr} {p₀ : Addr × Obj} {rest : List (Addr × Obj)} {a b : Int} {t u v : Tok} {n : Nat} {m₀ : Str → Option Value} {d0 q0 : Int} {td tp : Tok} (Pw : List Int → List Int → Int → Int → Prop)
    (hh : A.handled = none) (hr : IsRange s.heap r a b 1 t u v) (hn : Builtin.Range.rangeSize a b 1 = (n : Int)) (F : Fr h₀ env.locals s.heap m₀) (N : News h₀ env.locals s.heap (p₀ :: (R, W.listOf #[] 0) :: rest))
    (hd : m₀ (Str.ofString "day") = some (.int d0 td)) (hq : m₀ (Str.ofString "parts") = some (.int q0 tp)) (hp : Pw [] [] d0 q0)
    (turn : ∀ (vs : List Value) (ns : List Int) (nn : Nat) (day : Int) (td : Tok) (parts : Int) (tp : Tok) (pre : List Int) (k : Int) t (u : Str → Option Value) h tk own, k = a + (pre.length : Int) → pre.length < n → OwnOff own (R :: rest.map (·.1)) → IntsAre vs ns → Pw pre ns day parts → KstMark →
      Fr h₀ env.locals h (fun y => if y = x then some (.int k t) else if y = Str.ofString "day" then some (.int day td) else if y = Str.ofString "parts" then some (.int parts tp) else if [Str.ofString "more"].contains y then u y else m₀ y) → News h₀ env.locals h (((R, W.listOf vs.toArray nn) :: rest) ++ own) →
      wpAny (model prog w) A (execs body env) (InvPostN h₀ env.locals (KstS (lsLed R rest) lsPs (fun c => IntsAre c.1 c.2.1) x [Str.ofString "more"] m₀ (lsP Pw) (pre ++ [k])) own (R :: rest.map (·.1)) { s with heap := h, toks := tk } Q) E { s with heap := h, toks := tk })
    (done : ∀ (vs : List Value) (ns : List Int) (nn : Nat) (day : Int) (td : Tok) (parts : Int) (tp : Tok) (u : Str → Option Value) h tk, IntsAre vs ns → Pw (rangeKs a n) ns day parts → KstMark →
      Fr h₀ env.locals h (fun y => if y = x then u y else if y = Str.ofString "day" then some (.int day td) else if y = Str.ofString "parts" then some (.int parts tp) else if [Str.ofString "more"].contains y then u y else m₀ y) → News h₀ env.locals h ((R, W.listOf vs.toArray nn) :: rest) → Q .next { s with heap := h, toks := tk }) :
    wpAny (model prog w) A (pyIter (.ref r)) (fun it s₂ => LoopAtV prog w A h₀ env x body Q E it s₂) E s := by
  refine any_range (lsLed R rest) lsPs (fun c => IntsAre c.1 c.2.1) [Str.ofString "more"] (lsP Pw) ([], [], 0, d0, td, q0, tp) hh hr hn F (fun p hp => N p (List.mem_cons_of_mem _ hp)) .nil ?_ hp ?_ ?_
  · intro p hp
    rcases List.mem_cons.mp hp with rfl | hp
    · exact hd
    · rw [List.mem_singleton.mp hp]; exact hq
  · rintro ⟨vs, ns, nn, day, td', parts, tp'⟩ pre k t u h tk own hk hlt hoff hf hP F' N'
    exact turn vs ns nn day td' parts tp' pre k t u h tk own hk hlt hoff hf hP kstMark F' N'
  · rintro ⟨vs, ns, nn, day, td', parts, tp'⟩ u h tk hf hP F' N'
    exact done vs ns nn day td' parts tp' u h tk hf hP kstMark F' N'
end Mine
-- part: Pl0
namespace Mine
open PySem PySem.W PyProof.Rows PySem.Calls
def moonDay (y : Int) : Int := (moonTotal y).fdiv 25920
def moonParts (y : Int) : Int := (moonTotal y).fmod 25920
def ruleOf (y : Int) : Int := lawRule y (moonDay y) (moonParts y)
def LoopW (B : Int) (pre ns : List Int) (day parts : Int) : Prop := ns = pre.map ruleOf ∧ day = moonDay (B + (pre.length : Int)) ∧ parts = moonParts (B + (pre.length : Int))
theorem loop_start (B : Int) : LoopW B [] [] ((moonTotal B).fdiv 25920) ((moonTotal B).fmod 25920) := by
  refine ⟨rfl, ?_, ?_⟩ <;> simp [moonDay, moonParts]
theorem fd19 (a : Int) : a.fdiv 19 = a / 19 := by rw [Int.fdiv_eq_ediv]; simp
theorem fm19 (a : Int) : a.fmod 19 = a % 19 := by rw [Int.fmod_eq_emod]; simp
theorem moons_eq (y : Int) : moons y = (235 * y - 234).fdiv 19 := by
  have h0 : (y - 1) % 19 = 0 ∨ (y - 1) % 19 = 1 ∨ (y - 1) % 19 = 2 ∨ (y - 1) % 19 = 3 ∨ (y - 1) % 19 = 4 ∨ (y - 1) % 19 = 5 ∨ (y - 1) % 19 = 6 ∨ (y - 1) % 19 = 7 ∨ (y - 1) % 19 = 8 ∨ (y - 1) % 19 = 9 ∨ (y - 1) % 19 = 10 ∨ (y - 1) % 19 = 11 ∨ (y - 1) % 19 = 12 ∨ (y - 1) % 19 = 13 ∨ (y - 1) % 19 = 14 ∨ (y - 1) % 19 = 15 ∨ (y - 1) % 19 = 16 ∨ (y - 1) % 19 = 17 ∨ (y - 1) % 19 = 18 := by omega
  unfold moons
  rw [fd19, fd19, fm19]
  rcases h0 with h | h | h | h | h | h | h | h | h | h | h | h | h | h | h | h | h | h | h
  all_goals (rw [h]; simp only [longs]; simp +decide; omega)
theorem longB_leap (y : Int) : longB y = leapB y := by
  have h0 : (y - 1) % 19 = 0 ∨ (y - 1) % 19 = 1 ∨ (y - 1) % 19 = 2 ∨ (y - 1) % 19 = 3 ∨ (y - 1) % 19 = 4 ∨ (y - 1) % 19 = 5 ∨ (y - 1) % 19 = 6 ∨ (y - 1) % 19 = 7 ∨ (y - 1) % 19 = 8 ∨ (y - 1) % 19 = 9 ∨ (y - 1) % 19 = 10 ∨ (y - 1) % 19 = 11 ∨ (y - 1) % 19 = 12 ∨ (y - 1) % 19 = 13 ∨ (y - 1) % 19 = 14 ∨ (y - 1) % 19 = 15 ∨ (y - 1) % 19 = 16 ∨ (y - 1) % 19 = 17 ∨ (y - 1) % 19 = 18 := by omega
  unfold longB leapB
  rw [fm19, fm19]
  rcases h0 with h | h | h | h | h | h | h | h | h | h | h | h | h | h | h | h | h | h | h
  all_goals (
    rw [h]
    first
    | (have e : (y * 7 + 1) % 19 < 7 := by omega
       rw [decide_eq_true e]; rfl)
    | (have e : ¬ (y * 7 + 1) % 19 < 7 := by omega
       rw [decide_eq_false e]; rfl))

theorem moons_step (y : Int) : moons (y + 1) = moons y + (if longB y = true then 13 else 12) := by
  rw [moons_eq, moons_eq, longB_leap, fd19, fd19]
  have hc : (235 * y - 234) / 19 = 12 * y - 12 + (7 * y - 6) / 19 := by omega
  have hd : (235 * (y + 1) - 234) / 19 = 12 * y + (y * 7 + 1) / 19 := by omega
  rw [hc, hd]
  unfold leapB
  rw [fm19]
  by_cases h : (y * 7 + 1) % 19 < 7
  · have e : (7 * y - 6) / 19 = (y * 7 + 1) / 19 - 1 := by omega
    rw [decide_eq_true h, if_pos rfl, e]; omega
  · have e : (7 * y - 6) / 19 = (y * 7 + 1) / 19 := by omega
    rw [decide_eq_false h, if_neg (by simp), e]; omega
theorem moonTotal_step (y : Int) : moonTotal (y + 1) = moonTotal y + (if longB y = true then 13 else 12) * (29 * 25920 + 12 * 1080 + 793) := by
  unfold moonTotal; rw [moons_step, Int.add_mul]; omega
theorem fdm (a : Int) : a.fdiv 25920 = a / 25920 ∧ a.fmod 25920 = a % 25920 := ⟨by rw [Int.fdiv_eq_ediv]; simp, by rw [Int.fmod_eq_emod]; simp⟩
theorem loop_step {B k : Int} {pre ns : List Int} {day parts : Int} (hk : k = B + (pre.length : Int)) (h : LoopW B pre ns day parts) (f : Int) (hf : f = if longB k = true then 13 else 12) :
    LoopW B (pre ++ [k]) (ns ++ [lawRule k day parts]) (day + (parts + f * (29 * 25920 + 12 * 1080 + 793)).fdiv 25920) ((parts + f * (29 * 25920 + 12 * 1080 + 793)).fmod 25920) := by
  obtain ⟨h1, h2, h3⟩ := h
  rw [← hk] at h2 h3
  have hl : B + ((pre ++ [k]).length : Int) = k + 1 := by simp; omega
  refine ⟨by subst h1; subst h2; subst h3; simp [ruleOf], ?_, ?_⟩
  · rw [hl, h2, h3]
    unfold moonDay moonParts
    rw [moonTotal_step, ← hf, (fdm _).1, (fdm _).1, (fdm _).1, (fdm _).2]
    omega
  · rw [hl, h3]
    unfold moonParts
    rw [moonTotal_step, ← hf, (fdm _).2, (fdm _).2, (fdm _).2]
    omega
theorem loop_turn_t {B k : Int} {pre ns : List Int} {day parts : Int} (hk : k = B + (pre.length : Int)) (h : LoopW B pre ns day parts) (hf : longB k = true) :
    LoopW B (pre ++ [k]) (ns ++ [lawRule k day parts]) (day + (parts + 13 * (29 * 25920 + 12 * 1080 + 793)).fdiv 25920) ((parts + 13 * (29 * 25920 + 12 * 1080 + 793)).fmod 25920) :=
  loop_step hk h 13 (by rw [if_pos hf])
theorem loop_turn_f {B k : Int} {pre ns : List Int} {day parts : Int} (hk : k = B + (pre.length : Int)) (h : LoopW B pre ns day parts) (hf : longB k = false) :
    LoopW B (pre ++ [k]) (ns ++ [lawRule k day parts]) (day + (parts + 12 * (29 * 25920 + 12 * 1080 + 793)).fdiv 25920) ((parts + 12 * (29 * 25920 + 12 * 1080 + 793)).fmod 25920) :=
  loop_step hk h 12 (by rw [hf]; rfl)
theorem loop_len {B : Int} {vs : List Value} {pre ns : List Int} {day parts : Int} (hI : IntsAre vs ns) (h : LoopW B pre ns day parts) (hl : pre.length < (B + 200 - B).toNat) : vs.length < 200 := by
  have h1 := hI.length
  have h2 : ns.length = pre.length := by rw [h.1, List.length_map]
  omega
theorem loop_fits {B : Int} {vs : List Value} {pre ns : List Int} {day parts : Int} (hI : IntsAre vs ns) (h : LoopW B pre ns day parts) (hl : pre.length < (B + 200 - B).toNat) : vs.toArray.size ≤ sizeLine := by
  have h1 := hI.length
  have h2 : ns.length = pre.length := by rw [h.1, List.length_map]
  rw [sizeLine_eq, List.size_toArray]
  omega
end Mine
-- part: Yf
namespace Mine
open PySem PySem.W PyProof.Rows PySem.Calls

/-- the shifted parts of the moon of a year (a quarter of a day on) and its day -/
theorem fm7 (a : Int) : a.fmod 7 = a % 7 := by rw [Int.fmod_eq_emod]; simp
theorem fm10 (a : Int) : a.fmod 10 = a % 10 := by rw [Int.fmod_eq_emod]; simp
theorem fdY (a : Int) : a.fdiv 35975351 = a / 35975351 := by rw [Int.fdiv_eq_ediv]; simp

/-- day and parts of a year's new moon, and the next one's -/
theorem moon_day_step (y : Int) : moonParts (y + 1) = (moonParts y + (if longB y = true then 13 else 12) * (29 * 25920 + 12 * 1080 + 793)) % 25920 ∧ moonDay (y + 1) = moonDay y + (moonParts y + (if longB y = true then 13 else 12) * (29 * 25920 + 12 * 1080 + 793)) / 25920 := by
  unfold moonParts moonDay
  rw [moonTotal_step]
  simp only [(fdm _).1, (fdm _).2]
  constructor <;> omega
theorem parts_range (y : Int) : 0 ≤ moonParts y ∧ moonParts y < 25920 := by
  unfold moonParts; rw [(fdm _).2]; omega

theorem put7 (D : Int) : 3 * (D + 1) % 7 < 3 ↔ (D % 7 = 2 ∨ D % 7 = 4 ∨ D % 7 = 6) := by
  have h : D % 7 = 0 ∨ D % 7 = 1 ∨ D % 7 = 2 ∨ D % 7 = 3 ∨ D % 7 = 4 ∨ D % 7 = 5 ∨ D % 7 = 6 := by omega
  rcases h with h | h | h | h | h | h | h <;> omega
def putOff (d p : Int) : Int := (if 19440 ≤ p then d + 1 else d) + (if (if 19440 ≤ p then d + 1 else d) % 7 = 2 ∨ (if 19440 ≤ p then d + 1 else d) % 7 = 4 ∨ (if 19440 ≤ p then d + 1 else d) % 7 = 6 then 1 else 0)
theorem delay1_eq (y : Int) : delay1 y = putOff (moonDay y) (moonParts y) := by
  have hm := moons_eq y
  unfold delay1 moonDay moonParts moonTotal putOff
  rw [← hm]
  generalize moons y = k
  dsimp only
  rw [(fdm _).1, (fdm _).1, (fdm _).2, fm7]
  have e : (12084 + 13753 * k) / 25920 + k * 29 = (5 * 1080 + 204 + k * (29 * 25920 + 12 * 1080 + 793)) / 25920 + (if 19440 ≤ (5 * 1080 + 204 + k * (29 * 25920 + 12 * 1080 + 793)) % 25920 then 1 else 0) := by split <;> omega
  generalize (5 * 1080 + 204 + k * (29 * 25920 + 12 * 1080 + 793)) / 25920 = d at e ⊢
  generalize (5 * 1080 + 204 + k * (29 * 25920 + 12 * 1080 + 793)) % 25920 = p at e ⊢
  generalize (12084 + 13753 * k) / 25920 = q at e ⊢
  have e2 : k * 29 + q = d + (if 19440 ≤ p then 1 else 0) := by omega
  rw [e2]
  clear e e2
  simp only [put7]
  by_cases hp : 19440 ≤ p <;> simp only [hp, if_true, if_false, Int.add_zero] <;> (repeat' split) <;> omega
end Mine
-- part: Yg
namespace Mine
open PySem PySem.W PyProof.Rows PySem.Calls
/-- a day put off where it falls on one of three weekdays -/
def putF (D : Int) : Int := if D % 7 = 2 ∨ D % 7 = 4 ∨ D % 7 = 6 then D + 1 else D
theorem putOff_lo {d p : Int} (h : p < 19440) : putOff d p = putF (d + 0) := by
  have h' : ¬ 19440 ≤ p := by omega
  unfold putOff putF; rw [if_neg h', Int.add_zero]; split <;> omega
theorem putOff_hi {d p : Int} (h : 19440 ≤ p) : putOff d p = putF (d + 1) := by
  unfold putOff putF; rw [if_pos h]; split <;> omega
theorem putF_shift (q x : Int) : putF (7 * q + x) = 7 * q + putF x := by
  unfold putF
  have e : (7 * q + x) % 7 = x % 7 := by omega
  rw [e]; split <;> omega
theorem split7 (d : Int) : ∃ q r : Int, d = 7 * q + r ∧ (r = 0 ∨ r = 1 ∨ r = 2 ∨ r = 3 ∨ r = 4 ∨ r = 5 ∨ r = 6) := ⟨d / 7, d % 7, by omega, by omega⟩
/-- what a new year's day is moved by: its weekday r, its carry c, the days k gone by, the carry c' behind them -/
def mv (r c k c' : Int) : Int := putF (r + (k + c')) - putF (r + c)
theorem mv_of (q r c k c' : Int) : putF (7 * q + r + k + c') - putF (7 * q + r + c) = mv r c k c' := by
  have e1 : 7 * q + r + k + c' = 7 * q + (r + (k + c')) := by omega
  have e2 : 7 * q + r + c = 7 * q + (r + c) := by omega
  rw [e1, e2, putF_shift, putF_shift]; unfold mv; omega
theorem tab_c0 {r : Int} (hr : r = 0 ∨ r = 1 ∨ r = 2 ∨ r = 3 ∨ r = 4 ∨ r = 5 ∨ r = 6) : ((r = 0 ∧ mv r 0 354 0 = 355) ∨ (r = 1 ∧ mv r 0 354 0 = 354) ∨ (r = 2 ∧ mv r 0 354 0 = 354) ∨ (r = 3 ∧ mv r 0 354 0 = 354) ∨ (r = 4 ∧ mv r 0 354 0 = 353) ∨ (r = 5 ∧ mv r 0 354 0 = 355) ∨ (r = 6 ∧ mv r 0 354 0 = 353)) := by
  rcases hr with rfl | rfl | rfl | rfl | rfl | rfl | rfl <;> decide
theorem tab_c1 {r : Int} (hr : r = 0 ∨ r = 1 ∨ r = 2 ∨ r = 3 ∨ r = 4 ∨ r = 5 ∨ r = 6) : ((r = 0 ∧ mv r 0 354 1 = 355) ∨ (r = 1 ∧ mv r 0 354 1 = 356) ∨ (r = 2 ∧ mv r 0 354 1 = 354) ∨ (r = 3 ∧ mv r 0 354 1 = 355) ∨ (r = 4 ∧ mv r 0 354 1 = 355) ∨ (r = 5 ∧ mv r 0 354 1 = 355) ∨ (r = 6 ∧ mv r 0 354 1 = 355)) := by
  rcases hr with rfl | rfl | rfl | rfl | rfl | rfl | rfl <;> decide
theorem tab_c2 {r : Int} (hr : r = 0 ∨ r = 1 ∨ r = 2 ∨ r = 3 ∨ r = 4 ∨ r = 5 ∨ r = 6) : ((r = 0 ∧ mv r 0 355 0 = 355) ∨ (r = 1 ∧ mv r 0 355 0 = 356) ∨ (r = 2 ∧ mv r 0 355 0 = 354) ∨ (r = 3 ∧ mv r 0 355 0 = 355) ∨ (r = 4 ∧ mv r 0 355 0 = 355) ∨ (r = 5 ∧ mv r 0 355 0 = 355) ∨ (r = 6 ∧ mv r 0 355 0 = 355)) := by
  rcases hr with rfl | rfl | rfl | rfl | rfl | rfl | rfl <;> decide
theorem tab_c3 {r : Int} (hr : r = 0 ∨ r = 1 ∨ r = 2 ∨ r = 3 ∨ r = 4 ∨ r = 5 ∨ r = 6) : ((r = 0 ∧ mv r 1 355 0 = 354) ∨ (r = 1 ∧ mv r 1 355 0 = 354) ∨ (r = 2 ∧ mv r 1 355 0 = 354) ∨ (r = 3 ∧ mv r 1 355 0 = 353) ∨ (r = 4 ∧ mv r 1 355 0 = 355) ∨ (r = 5 ∧ mv r 1 355 0 = 353) ∨ (r = 6 ∧ mv r 1 355 0 = 355)) := by
  rcases hr with rfl | rfl | rfl | rfl | rfl | rfl | rfl <;> decide
theorem cls_c {d p : Int} (h0 : 0 ≤ p) (h1 : p < 25920) : ∃ q r m : Int, d = 7 * q + r ∧ putOff (d + (p + 12 * (29 * 25920 + 12 * 1080 + 793)) / 25920) ((p + 12 * (29 * 25920 + 12 * 1080 + 793)) % 25920) - putOff d p = m ∧ (((p < 9924) ∧ (p + 12 * (29 * 25920 + 12 * 1080 + 793)) / 25920 = 354 ∧ (p + 12 * (29 * 25920 + 12 * 1080 + 793)) % 25920 = p + 9516 ∧ ((r = 0 ∧ m = 355) ∨ (r = 1 ∧ m = 354) ∨ (r = 2 ∧ m = 354) ∨ (r = 3 ∧ m = 354) ∨ (r = 4 ∧ m = 353) ∨ (r = 5 ∧ m = 355) ∨ (r = 6 ∧ m = 353))) ∨ ((9924 ≤ p ∧ p < 16404) ∧ (p + 12 * (29 * 25920 + 12 * 1080 + 793)) / 25920 = 354 ∧ (p + 12 * (29 * 25920 + 12 * 1080 + 793)) % 25920 = p + 9516 ∧ ((r = 0 ∧ m = 355) ∨ (r = 1 ∧ m = 356) ∨ (r = 2 ∧ m = 354) ∨ (r = 3 ∧ m = 355) ∨ (r = 4 ∧ m = 355) ∨ (r = 5 ∧ m = 355) ∨ (r = 6 ∧ m = 355))) ∨ ((16404 ≤ p ∧ p < 19440) ∧ (p + 12 * (29 * 25920 + 12 * 1080 + 793)) / 25920 = 355 ∧ (p + 12 * (29 * 25920 + 12 * 1080 + 793)) % 25920 = p - 16404 ∧ ((r = 0 ∧ m = 355) ∨ (r = 1 ∧ m = 356) ∨ (r = 2 ∧ m = 354) ∨ (r = 3 ∧ m = 355) ∨ (r = 4 ∧ m = 355) ∨ (r = 5 ∧ m = 355) ∨ (r = 6 ∧ m = 355))) ∨ ((19440 ≤ p) ∧ (p + 12 * (29 * 25920 + 12 * 1080 + 793)) / 25920 = 355 ∧ (p + 12 * (29 * 25920 + 12 * 1080 + 793)) % 25920 = p - 16404 ∧ ((r = 0 ∧ m = 354) ∨ (r = 1 ∧ m = 354) ∨ (r = 2 ∧ m = 354) ∨ (r = 3 ∧ m = 353) ∨ (r = 4 ∧ m = 355) ∨ (r = 5 ∧ m = 353) ∨ (r = 6 ∧ m = 355)))) := by
  obtain ⟨q, r, rfl, hr⟩ := split7 d
  have hc : (p < 9924) ∨ (9924 ≤ p ∧ p < 16404) ∨ (16404 ≤ p ∧ p < 19440) ∨ (19440 ≤ p) := by omega
  rcases hc with hc | hc | hc | hc
  · have e1 : (p + 12 * (29 * 25920 + 12 * 1080 + 793)) / 25920 = 354 := by omega
    have e2 : (p + 12 * (29 * 25920 + 12 * 1080 + 793)) % 25920 = p + 9516 := by omega
    refine ⟨q, r, mv r 0 354 0, rfl, ?_, .inl ⟨hc, e1, e2, tab_c0 hr⟩⟩
    rw [e1, e2, putOff_lo (show p + 9516 < 19440 by omega), putOff_lo (show p < 19440 by omega)]; exact mv_of q r 0 354 0
  · have e1 : (p + 12 * (29 * 25920 + 12 * 1080 + 793)) / 25920 = 354 := by omega
    have e2 : (p + 12 * (29 * 25920 + 12 * 1080 + 793)) % 25920 = p + 9516 := by omega
    refine ⟨q, r, mv r 0 354 1, rfl, ?_, .inr (.inl ⟨hc, e1, e2, tab_c1 hr⟩)⟩
    rw [e1, e2, putOff_hi (show 19440 ≤ p + 9516 by omega), putOff_lo (show p < 19440 by omega)]; exact mv_of q r 0 354 1
  · have e1 : (p + 12 * (29 * 25920 + 12 * 1080 + 793)) / 25920 = 355 := by omega
    have e2 : (p + 12 * (29 * 25920 + 12 * 1080 + 793)) % 25920 = p - 16404 := by omega
    refine ⟨q, r, mv r 0 355 0, rfl, ?_, .inr (.inr (.inl ⟨hc, e1, e2, tab_c2 hr⟩))⟩
    rw [e1, e2, putOff_lo (show p - 16404 < 19440 by omega), putOff_lo (show p < 19440 by omega)]; exact mv_of q r 0 355 0
  · have e1 : (p + 12 * (29 * 25920 + 12 * 1080 + 793)) / 25920 = 355 := by omega
    have e2 : (p + 12 * (29 * 25920 + 12 * 1080 + 793)) % 25920 = p - 16404 := by omega
    refine ⟨q, r, mv r 1 355 0, rfl, ?_, .inr (.inr (.inr (⟨hc, e1, e2, tab_c3 hr⟩)))⟩
    rw [e1, e2, putOff_lo (show p - 16404 < 19440 by omega), putOff_hi (show 19440 ≤ p by omega)]; exact mv_of q r 1 355 0
theorem tab_l0 {r : Int} (hr : r = 0 ∨ r = 1 ∨ r = 2 ∨ r = 3 ∨ r = 4 ∨ r = 5 ∨ r = 6) : ((r = 0 ∧ mv r 0 383 1 = 385) ∨ (r = 1 ∧ mv r 0 383 1 = 384) ∨ (r = 2 ∧ mv r 0 383 1 = 383) ∨ (r = 3 ∧ mv r 0 383 1 = 385) ∨ (r = 4 ∧ mv r 0 383 1 = 383) ∨ (r = 5 ∧ mv r 0 383 1 = 385) ∨ (r = 6 ∧ mv r 0 383 1 = 383)) := by
  rcases hr with rfl | rfl | rfl | rfl | rfl | rfl | rfl <;> decide
theorem tab_l1 {r : Int} (hr : r = 0 ∨ r = 1 ∨ r = 2 ∨ r = 3 ∨ r = 4 ∨ r = 5 ∨ r = 6) : ((r = 0 ∧ mv r 0 384 0 = 385) ∨ (r = 1 ∧ mv r 0 384 0 = 384) ∨ (r = 2 ∧ mv r 0 384 0 = 383) ∨ (r = 3 ∧ mv r 0 384 0 = 385) ∨ (r = 4 ∧ mv r 0 384 0 = 383) ∨ (r = 5 ∧ mv r 0 384 0 = 385) ∨ (r = 6 ∧ mv r 0 384 0 = 383)) := by
  rcases hr with rfl | rfl | rfl | rfl | rfl | rfl | rfl <;> decide
theorem tab_l2 {r : Int} (hr : r = 0 ∨ r = 1 ∨ r = 2 ∨ r = 3 ∨ r = 4 ∨ r = 5 ∨ r = 6) : ((r = 0 ∧ mv r 1 384 0 = 384) ∨ (r = 1 ∧ mv r 1 384 0 = 382) ∨ (r = 2 ∧ mv r 1 384 0 = 383) ∨ (r = 3 ∧ mv r 1 384 0 = 383) ∨ (r = 4 ∧ mv r 1 384 0 = 383) ∨ (r = 5 ∧ mv r 1 384 0 = 383) ∨ (r = 6 ∧ mv r 1 384 0 = 383)) := by
  rcases hr with rfl | rfl | rfl | rfl | rfl | rfl | rfl <;> decide
theorem tab_l3 {r : Int} (hr : r = 0 ∨ r = 1 ∨ r = 2 ∨ r = 3 ∨ r = 4 ∨ r = 5 ∨ r = 6) : ((r = 0 ∧ mv r 1 384 1 = 384) ∨ (r = 1 ∧ mv r 1 384 1 = 383) ∨ (r = 2 ∧ mv r 1 384 1 = 385) ∨ (r = 3 ∧ mv r 1 384 1 = 383) ∨ (r = 4 ∧ mv r 1 384 1 = 385) ∨ (r = 5 ∧ mv r 1 384 1 = 383) ∨ (r = 6 ∧ mv r 1 384 1 = 385)) := by
  rcases hr with rfl | rfl | rfl | rfl | rfl | rfl | rfl <;> decide
theorem cls_l {d p : Int} (h0 : 0 ≤ p) (h1 : p < 25920) : ∃ q r m : Int, d = 7 * q + r ∧ putOff (d + (p + 13 * (29 * 25920 + 12 * 1080 + 793)) / 25920) ((p + 13 * (29 * 25920 + 12 * 1080 + 793)) % 25920) - putOff d p = m ∧ (((p < 2651) ∧ (p + 13 * (29 * 25920 + 12 * 1080 + 793)) / 25920 = 383 ∧ (p + 13 * (29 * 25920 + 12 * 1080 + 793)) % 25920 = p + 23269 ∧ ((r = 0 ∧ m = 385) ∨ (r = 1 ∧ m = 384) ∨ (r = 2 ∧ m = 383) ∨ (r = 3 ∧ m = 385) ∨ (r = 4 ∧ m = 383) ∨ (r = 5 ∧ m = 385) ∨ (r = 6 ∧ m = 383))) ∨ ((2651 ≤ p ∧ p < 19440) ∧ (p + 13 * (29 * 25920 + 12 * 1080 + 793)) / 25920 = 384 ∧ (p + 13 * (29 * 25920 + 12 * 1080 + 793)) % 25920 = p - 2651 ∧ ((r = 0 ∧ m = 385) ∨ (r = 1 ∧ m = 384) ∨ (r = 2 ∧ m = 383) ∨ (r = 3 ∧ m = 385) ∨ (r = 4 ∧ m = 383) ∨ (r = 5 ∧ m = 385) ∨ (r = 6 ∧ m = 383))) ∨ ((19440 ≤ p ∧ p < 22091) ∧ (p + 13 * (29 * 25920 + 12 * 1080 + 793)) / 25920 = 384 ∧ (p + 13 * (29 * 25920 + 12 * 1080 + 793)) % 25920 = p - 2651 ∧ ((r = 0 ∧ m = 384) ∨ (r = 1 ∧ m = 382) ∨ (r = 2 ∧ m = 383) ∨ (r = 3 ∧ m = 383) ∨ (r = 4 ∧ m = 383) ∨ (r = 5 ∧ m = 383) ∨ (r = 6 ∧ m = 383))) ∨ ((22091 ≤ p) ∧ (p + 13 * (29 * 25920 + 12 * 1080 + 793)) / 25920 = 384 ∧ (p + 13 * (29 * 25920 + 12 * 1080 + 793)) % 25920 = p - 2651 ∧ ((r = 0 ∧ m = 384) ∨ (r = 1 ∧ m = 383) ∨ (r = 2 ∧ m = 385) ∨ (r = 3 ∧ m = 383) ∨ (r = 4 ∧ m = 385) ∨ (r = 5 ∧ m = 383) ∨ (r = 6 ∧ m = 385)))) := by
  obtain ⟨q, r, rfl, hr⟩ := split7 d
  have hc : (p < 2651) ∨ (2651 ≤ p ∧ p < 19440) ∨ (19440 ≤ p ∧ p < 22091) ∨ (22091 ≤ p) := by omega
  rcases hc with hc | hc | hc | hc
  · have e1 : (p + 13 * (29 * 25920 + 12 * 1080 + 793)) / 25920 = 383 := by omega
    have e2 : (p + 13 * (29 * 25920 + 12 * 1080 + 793)) % 25920 = p + 23269 := by omega
    refine ⟨q, r, mv r 0 383 1, rfl, ?_, .inl ⟨hc, e1, e2, tab_l0 hr⟩⟩
    rw [e1, e2, putOff_hi (show 19440 ≤ p + 23269 by omega), putOff_lo (show p < 19440 by omega)]; exact mv_of q r 0 383 1
  · have e1 : (p + 13 * (29 * 25920 + 12 * 1080 + 793)) / 25920 = 384 := by omega
    have e2 : (p + 13 * (29 * 25920 + 12 * 1080 + 793)) % 25920 = p - 2651 := by omega
    refine ⟨q, r, mv r 0 384 0, rfl, ?_, .inr (.inl ⟨hc, e1, e2, tab_l1 hr⟩)⟩
    rw [e1, e2, putOff_lo (show p - 2651 < 19440 by omega), putOff_lo (show p < 19440 by omega)]; exact mv_of q r 0 384 0
  · have e1 : (p + 13 * (29 * 25920 + 12 * 1080 + 793)) / 25920 = 384 := by omega
    have e2 : (p + 13 * (29 * 25920 + 12 * 1080 + 793)) % 25920 = p - 2651 := by omega
    refine ⟨q, r, mv r 1 384 0, rfl, ?_, .inr (.inr (.inl ⟨hc, e1, e2, tab_l2 hr⟩))⟩
    rw [e1, e2, putOff_lo (show p - 2651 < 19440 by omega), putOff_hi (show 19440 ≤ p by omega)]; exact mv_of q r 1 384 0
  · have e1 : (p + 13 * (29 * 25920 + 12 * 1080 + 793)) / 25920 = 384 := by omega
    have e2 : (p + 13 * (29 * 25920 + 12 * 1080 + 793)) % 25920 = p - 2651 := by omega
    refine ⟨q, r, mv r 1 384 1, rfl, ?_, .inr (.inr (.inr (⟨hc, e1, e2, tab_l3 hr⟩)))⟩
    rw [e1, e2, putOff_hi (show 19440 ≤ p - 2651 by omega), putOff_hi (show 19440 ≤ p by omega)]; exact mv_of q r 1 384 1
/-- a common year's step -/
theorem step_c {d p : Int} (h0 : 0 ≤ p) (h1 : p < 25920) :
    (putOff (d + (p + 12 * (29 * 25920 + 12 * 1080 + 793)) / 25920) ((p + 12 * (29 * 25920 + 12 * 1080 + 793)) % 25920) - putOff d p = 356 ↔ p < 19440 ∧ d % 7 = 1 ∧ 9924 ≤ p) ∧ putOff (d + (p + 12 * (29 * 25920 + 12 * 1080 + 793)) / 25920) ((p + 12 * (29 * 25920 + 12 * 1080 + 793)) % 25920) - putOff d p ≠ 382 := by
  obtain ⟨q, r, m, hd, hm, hcl⟩ := cls_c (d := d) h0 h1
  have h7 : d % 7 = r := by omega
  rw [hm, h7]
  clear hm h7 hd
  rcases hcl with ⟨hc, _, _, ht⟩ | ⟨hc, _, _, ht⟩ | ⟨hc, _, _, ht⟩ | ⟨hc, _, _, ht⟩ <;> (constructor <;> omega)
/-- a long year's step -/
theorem step_l {d p : Int} (h0 : 0 ≤ p) (h1 : p < 25920) :
    putOff (d + (p + 13 * (29 * 25920 + 12 * 1080 + 793)) / 25920) ((p + 13 * (29 * 25920 + 12 * 1080 + 793)) % 25920) - putOff d p ≠ 356 ∧ (putOff (d + (p + 13 * (29 * 25920 + 12 * 1080 + 793)) / 25920) ((p + 13 * (29 * 25920 + 12 * 1080 + 793)) % 25920) - putOff d p = 382 ↔ (p + 13 * (29 * 25920 + 12 * 1080 + 793)) % 25920 < 19440 ∧ (d + (p + 13 * (29 * 25920 + 12 * 1080 + 793)) / 25920) % 7 = 0 ∧ 16789 ≤ (p + 13 * (29 * 25920 + 12 * 1080 + 793)) % 25920) := by
  obtain ⟨q, r, m, hd, hm, hcl⟩ := cls_l (d := d) h0 h1
  rw [hm]
  clear hm
  rcases hcl with ⟨hc, e1, e2, ht⟩ | ⟨hc, e1, e2, ht⟩ | ⟨hc, e1, e2, ht⟩ | ⟨hc, e1, e2, ht⟩ <;> rw [e1, e2, hd] <;> clear e1 e2 hd <;> rcases ht with ⟨rfl, rfl⟩ | ⟨rfl, rfl⟩ | ⟨rfl, rfl⟩ | ⟨rfl, rfl⟩ | ⟨rfl, rfl⟩ | ⟨rfl, rfl⟩ | ⟨rfl, rfl⟩ <;> (constructor <;> omega)
end Mine
-- part: Yh
namespace Mine
open PySem PySem.W PyProof.Rows PySem.Calls
theorem A_iff (y : Int) : delay1 (y + 1) - delay1 y = 356 ↔ moonParts y < 19440 ∧ moonDay y % 7 = 1 ∧ 9924 ≤ moonParts y ∧ longB y = false := by
  obtain ⟨h0, h1⟩ := parts_range y
  obtain ⟨s1, s2⟩ := moon_day_step y
  rw [delay1_eq, delay1_eq, s1, s2]
  cases hl : longB y with
  | true => simp only [if_true, reduceCtorEq, and_false, iff_false]; exact (step_l h0 h1).1
  | false => simp only [Bool.false_eq_true, if_false, and_true]; exact (step_c h0 h1).1
theorem B_iff (y : Int) : delay1 (y + 1) - delay1 y = 382 ↔ moonParts (y + 1) < 19440 ∧ moonDay (y + 1) % 7 = 0 ∧ 16789 ≤ moonParts (y + 1) ∧ longB y = true := by
  obtain ⟨h0, h1⟩ := parts_range y
  obtain ⟨s1, s2⟩ := moon_day_step y
  rw [delay1_eq, delay1_eq, s1, s2]
  cases hl : longB y with
  | true => simp only [if_true, and_true]; exact (step_l h0 h1).2
  | false => simp only [Bool.false_eq_true, if_false, and_false, iff_false]; exact (step_c h0 h1).2
theorem rule_eq (y : Int) : ruleOf y = if moonParts y < 19440 ∧ moonDay y % 7 = 1 ∧ 9924 ≤ moonParts y ∧ longB y = false then 2
    else if moonParts y < 19440 ∧ moonDay y % 7 = 0 ∧ 16789 ≤ moonParts y ∧ longB (y - 1) = true then 1 else 0 := by
  unfold ruleOf lawRule
  rw [fm7]
  generalize moonParts y = p
  generalize moonDay y = d
  by_cases hp : p < 19440
  · simp only [hp, if_true, true_and]
  · simp only [hp, if_false, false_and]
theorem d2_rule (y : Int) : delay2 y = ruleOf y := by
  have hb := B_iff (y - 1)
  have e : y - 1 + 1 = y := by omega
  rw [e] at hb
  rw [rule_eq]
  unfold delay2
  simp only [A_iff, hb]
theorem ruleOf_pair (B : Int) : ruleOf B = 0 ∨ ruleOf (B + 1) = 0 := by
  obtain ⟨h0, h1⟩ := parts_range B
  obtain ⟨s1, s2⟩ := moon_day_step B
  have hB := rule_eq B
  by_cases c1 : moonParts B < 19440 ∧ moonDay B % 7 = 1 ∧ 9924 ≤ moonParts B ∧ longB B = false
  · right
    obtain ⟨a1, a2, a3, a4⟩ := c1
    rw [a4] at s1 s2
    simp only [Bool.false_eq_true, if_false] at s1 s2
    have hq : (moonParts B + 12 * (29 * 25920 + 12 * 1080 + 793)) / 25920 = 354 ∨ (moonParts B + 12 * (29 * 25920 + 12 * 1080 + 793)) / 25920 = 355 := by omega
    have hw : moonDay (B + 1) % 7 = 5 ∨ moonDay (B + 1) % 7 = 6 := by rcases hq with h | h <;> rw [h] at s2 <;> omega
    rw [rule_eq, if_neg (by omega), if_neg (by omega)]
  · by_cases c2 : moonParts B < 19440 ∧ moonDay B % 7 = 0 ∧ 16789 ≤ moonParts B ∧ longB (B - 1) = true
    · right
      obtain ⟨a1, a2, a3, a4⟩ := c2
      have hw : moonDay (B + 1) % 7 = 5 ∨ moonDay (B + 1) % 7 = 6 := by
        cases hl : longB B with
        | true =>
          rw [hl] at s2
          simp only [if_true] at s2
          have hq : (moonParts B + 13 * (29 * 25920 + 12 * 1080 + 793)) / 25920 = 384 := by omega
          rw [hq] at s2; omega
        | false =>
          rw [hl] at s2
          simp only [Bool.false_eq_true, if_false] at s2
          have hq : (moonParts B + 12 * (29 * 25920 + 12 * 1080 + 793)) / 25920 = 355 := by omega
          rw [hq] at s2; omega
      rw [rule_eq, if_neg (by omega), if_neg (by omega)]
    · left
      rw [hB, if_neg c1, if_neg c2]
/-- the law's new year by delay_1 and the rule -/
theorem lawNew_eq (y : Int) : lawNew y = 347998 + delay1 y + delay2 y := by
  have hr := rule_eq y
  rw [d2_rule, delay1_eq]
  have e : lawNew y = 347998 + lawPut (lawFix (moonDay y) (moonParts y) (ruleOf y)) := rfl
  rw [e]
  clear e
  generalize ruleOf y = r at *
  generalize moonParts y = p at *
  generalize moonDay y = d at *
  have hput : ∀ D : Int, lawPut D = putF D := by
    intro D
    unfold lawPut putF
    rw [fm7]
    by_cases h : D % 7 = 2 ∨ D % 7 = 4 ∨ D % 7 = 6
    · rw [if_pos h, if_pos]
      rcases h with h | h | h <;> rw [h] <;> rfl
    · rw [if_neg h, if_neg]
      intro hc
      simp only [List.any_cons, List.any_nil, Bool.or_false, Bool.or_eq_true, beq_iff_eq] at hc
      omega
  rw [hput]
  unfold lawFix
  by_cases hp : 19440 ≤ p
  · have hr0 : r = 0 := by rw [hr, if_neg (by omega), if_neg (by omega)]
    rw [if_pos (Or.inl hp), putOff_hi hp, hr0]; omega
  · rw [putOff_lo (by omega), Int.add_zero]
    by_cases c1 : p < 19440 ∧ d % 7 = 1 ∧ 9924 ≤ p ∧ longB y = false
    · rw [if_pos c1] at hr
      rw [if_pos (by omega)]
      unfold putF
      rw [if_pos (by omega), if_neg (by omega)]; omega
    · rw [if_neg c1] at hr
      by_cases c2 : p < 19440 ∧ d % 7 = 0 ∧ 16789 ≤ p ∧ longB (y - 1) = true
      · rw [if_pos c2] at hr
        rw [if_pos (by omega)]
        unfold putF
        rw [if_neg (by omega), if_neg (by omega)]; omega
      · rw [if_neg c2] at hr
        rw [if_neg (by omega)]; omega
end Mine
-- part: Fx
namespace Mine
open PySem PySem.W PyProof.Rows PySem.Calls
structure YFacts (Y : Int) : Prop where
  d2 : delay2 Y = ruleOf Y
  yd : yearDays Y = lawNew (Y + 1) - lawNew Y
  ydm : yearDays (Y - 1) = lawNew Y - lawNew (Y - 1)
  ac : ((lawNew Y - 347996) * 98496).fdiv 35975351 = Y - 2 ∨ ((lawNew Y - 347996) * 98496).fdiv 35975351 = Y - 1 ∨ ((lawNew Y - 347996) * 98496).fdiv 35975351 = Y
  a0 : jd7 (Y - 2) 1 ≤ lawNew Y
  a1 : jd7 (Y - 1) 1 ≤ lawNew Y
  a2 : jd7 Y 1 ≤ lawNew Y
  a3 : lawNew Y < jd7 (Y + 1) 1
  al : lawNew Y < jdLow Y 1 1
  a7 : lawNew Y ≤ jd7 Y (monthLen Y 7)
  ad : lawNew Y = jd7 Y 1
  bc : ((lawNew Y - 1 - 347996) * 98496).fdiv 35975351 = Y - 1 - 2 ∨ ((lawNew Y - 1 - 347996) * 98496).fdiv 35975351 = Y - 1 - 1 ∨ ((lawNew Y - 1 - 347996) * 98496).fdiv 35975351 = Y - 1
  b0 : jd7 (Y - 1 - 2) 1 ≤ lawNew Y - 1
  b1 : jd7 (Y - 1 - 1) 1 ≤ lawNew Y - 1
  b2 : jd7 (Y - 1) 1 ≤ lawNew Y - 1
  b3 : lawNew Y - 1 < jd7 (Y - 1 + 1) 1
  bl : jdLow (Y - 1) 1 1 ≤ lawNew Y - 1
  m1 : jdLow (Y - 1) 1 (monthLen (Y - 1) 1) < lawNew Y - 1
  m2 : jdLow (Y - 1) 2 (monthLen (Y - 1) 2) < lawNew Y - 1
  m3 : jdLow (Y - 1) 3 (monthLen (Y - 1) 3) < lawNew Y - 1
  m4 : jdLow (Y - 1) 4 (monthLen (Y - 1) 4) < lawNew Y - 1
  m5 : jdLow (Y - 1) 5 (monthLen (Y - 1) 5) < lawNew Y - 1
  m6 : lawNew Y - 1 ≤ jdLow (Y - 1) 6 (monthLen (Y - 1) 6)
  bd : lawNew Y - 1 = jdLow (Y - 1) 6 1 + 28

theorem abs_any {prog : Program} {w : World} {A : Around} {s : Shared} {x : Int} {t : Tok} {Q E : Value → Shared → Prop} (h : ∀ a : Int, 0 ≤ a → ∀ t' tk', Q (.int a t') { s with toks := tk' }) : wpAny (model prog w) A (call (.builtin "abs") [.int x t]) Q E s :=
  call_abs_int (fun u tk => h _ (by split <;> omega) u tk)
theorem mod_any {prog : Program} {w : World} {A : Around} {s : Shared} {a b : Int} {t u : Tok} {Q E : Value → Shared → Prop} (hb : 0 < b) (h : ∀ r : Int, 0 ≤ r → r < b → Q (.int r s.toks) { s with toks := s.toks + 1 }) : wpAny (model prog w) A (binaryOp .Mod (.int a t) (.int b u)) Q E s :=
  mod_int' (by omega) (h _ (Int.fmod_nonneg_of_pos _ hb) (Int.fmod_lt_of_pos _ hb))

def YearPost (h₀ : Heap) (L : Addr) (m : Str → Option Value) (news : List (Addr × Obj)) (s : Shared) (B : Int) (v : Value) (s' : Shared) : Prop :=
  ∃ (Y : Int) (t : Tok) (h' : Heap) (tk' : Nat), v = .int Y t ∧ B ≤ Y ∧ Y < B + 200 ∧ s' = { s with heap := h', toks := tk' } ∧ Fr h₀ L h' m ∧ News h₀ L h' news
theorem year_join {M : Model} {A : Around} {s : Shared} {Q E : Value → Shared → Prop} {e : Sem Value} {h₀ : Heap} {L : Addr} {m : Str → Option Value} {news : List (Addr × Obj)} (B : Int) (_F : Fr h₀ L s.heap m) (_N : News h₀ L s.heap news)
    (h : wpAny M A e (YearPost h₀ L m news s B) E s)
    (k : ∀ (Y : Int) (t : Tok) (h' : Heap) (tk' : Nat), B ≤ Y → Y < B + 200 → Fr h₀ L h' m → News h₀ L h' news → Q (.int Y t) { s with heap := h', toks := tk' }) : wpAny M A e Q E s := by
  refine wpAny_mono h (fun v s' q => ?_) fun _ _ q => q
  obtain ⟨Y, t, h', tk', rfl, h1, h2, rfl, F', N'⟩ := q
  exact k Y t h' tk' h1 h2 F' N'

/-- the years of the two hundred whose rule is W -/
def rareOf (B : Int) (rns : List Int) (W : Int) : List Int := ((((List.range 200).map fun (i : Nat) => (0 : Int) + (i : Int)).filter fun k => decide (rns.getD k.toNat 0 = W)).map fun k => B + k)
theorem rareOf_mem {B W : Int} {rns : List Int} {v : Int} (h : v ∈ rareOf B rns W) : B ≤ v ∧ v < B + 200 ∧ rns.getD (v - B).toNat 0 = W := by
  unfold rareOf at h
  obtain ⟨k, hk, rfl⟩ := List.mem_map.mp h
  obtain ⟨hk1, hk2⟩ := List.mem_filter.mp hk
  obtain ⟨i, hi, rfl⟩ := List.mem_map.mp hk1
  have := List.mem_range.mp hi
  refine ⟨by omega, by omega, ?_⟩
  have e : B + (0 + (i : Int)) - B = 0 + (i : Int) := by omega
  rw [e]
  simpa using hk2
theorem rareOf_len (B : Int) (rns : List Int) (W : Int) : (rareOf B rns W).length ≤ 200 := by
  unfold rareOf
  rw [List.length_map]
  exact Nat.le_trans (List.length_filter_le _ _) (by simp)
theorem rareOf_get {B W : Int} {rns : List Int} {r : Int} (h0 : 0 ≤ r) (h1 : r < ((rareOf B rns W).length : Int)) : (rareOf B rns W).getD r.toNat 0 ∈ rareOf B rns W := by
  have h : r.toNat < (rareOf B rns W).length := by omega
  rw [List.getD_eq_getElem?_getD, List.getElem?_eq_getElem h]
  exact List.getElem_mem _
theorem rns_len {B : Int} {rns : List Int} (h : rns = (rangeKs B (B + 200 - B).toNat).map ruleOf) : rns.length = 200 := by
  rw [h, List.length_map, rangeKs_length]; omega
theorem rns_get {B : Int} {rns : List Int} (h : rns = (rangeKs B (B + 200 - B).toNat).map ruleOf) {k : Int} (h0 : 0 ≤ k) (h1 : k < 200) : rns.getD k.toNat 0 = ruleOf (B + k) := by
  have hl := rns_len h
  have e : (B + 200 - B).toNat = 200 := by omega
  rw [e] at h
  have hk : k.toNat < rns.length := by omega
  rw [List.getD_eq_getElem?_getD, List.getElem?_eq_getElem hk, Option.getD_some]
  subst h
  simp [rangeKs]
  congr 1
  omega
theorem foldl_pick {p : Int → Prop} [DecidablePred p] (e : Int → Int) : ∀ (xs acc : List Int), xs.foldl (fun l k => if p k then l ++ [e k] else l) acc = acc ++ (xs.filter fun k => decide (p k)).map e
  | [], acc => by simp
  | x :: xs, acc => by
    rw [List.foldl_cons, foldl_pick e xs]
    by_cases h : p x <;> simp [h]
theorem fold_rare (B W : Int) (rns : List Int) : List.foldl (fun l' k' => if rns.getD k'.toNat 0 = W then l' ++ [B + k'] else l') [] (rangeKs 0 ((200 : Int) - 0).toNat) = rareOf B rns W := by
  rw [foldl_pick (p := fun k => rns.getD k.toNat 0 = W) (fun k => B + k)]
  rfl
theorem rare_fit (B : Int) (rns : List Int) (W : Int) : (rareOf B rns W).length < 2 ^ 62 := Nat.lt_of_le_of_lt (rareOf_len B rns W) (by decide)
theorem rare_fit' {B W r : Int} {rns : List Int} (h : r < ((rareOf B rns W).length : Int)) : r < 2 ^ 63 := by
  have := rareOf_len B rns W; omega
theorem year_end {h₀ h' : Heap} {L : Addr} {m : Str → Option Value} {news : List (Addr × Obj)} {s : Shared} {B Y : Int} {t : Tok} {tk' : Nat} (h1 : B ≤ Y ∧ Y < B + 200) (F : Fr h₀ L h' m) (N : News h₀ L h' news) : YearPost h₀ L m news s B (.int Y t) { s with heap := h', toks := tk' } :=
  ⟨Y, t, h', tk', rfl, h1.1, h1.2, rfl, F, N⟩
theorem rare_in {B W r : Int} {rns : List Int} (h0 : 0 ≤ r) (h1 : r < ((rareOf B rns W).length : Int)) : B ≤ (rareOf B rns W).getD r.toNat 0 ∧ (rareOf B rns W).getD r.toNat 0 < B + 200 :=
  let q := rareOf_mem (rareOf_get h0 h1); ⟨q.1, q.2.1⟩
theorem rare_pos {l : List Int} (h : ¬ l = []) : (0 : Int) < (l.length : Int) := by
  have := List.length_pos_iff.mpr h; omega
theorem rare_pos' {l : List Int} [Decidable (l = [])] (h : decide (l = []) = false) : (0 : Int) < (l.length : Int) := rare_pos (of_decide_eq_false h)
theorem last_mem {l : List Int} (h : ¬ l = []) : l.getD ((-1 : Int) + (l.length : Int)).toNat 0 ∈ l := by
  have h0 := rare_pos h
  have h1 : ((-1 : Int) + (l.length : Int)).toNat < l.length := by omega
  rw [List.getD_eq_getElem?_getD, List.getElem?_eq_getElem h1]
  exact List.getElem_mem _
theorem rns_year {B Y : Int} {rns : List Int} (h : rns = (rangeKs B (B + 200 - B).toNat).map ruleOf) (h0 : B ≤ Y) (h1 : Y < B + 200) : rns.getD (Y - B).toNat 0 = ruleOf Y := by
  rw [rns_get h (by omega) (by omega)]; congr 1; omega
theorem plain_ne {B : Int} {rns : List Int} (h : rns = (rangeKs B (B + 200 - B).toNat).map ruleOf) : ¬ rareOf B rns 0 = [] := by
  intro he
  have key : ∀ i : Int, 0 ≤ i → i < 200 → ruleOf (B + i) ≠ 0 := by
    intro i h0 h1 hr
    have hm : B + i ∈ rareOf B rns 0 := by
      unfold rareOf
      refine List.mem_map.mpr ⟨i, List.mem_filter.mpr ⟨List.mem_map.mpr ⟨i.toNat, List.mem_range.mpr (by omega), by omega⟩, ?_⟩, rfl⟩
      rw [rns_get h h0 h1, hr]; rfl
    rw [he] at hm; cases hm
  have k0 := key 0 (by omega) (by omega)
  have k1 := key 1 (by omega) (by omega)
  rw [Int.add_zero] at k0
  exact (ruleOf_pair B).elim k0 k1
theorem last_plain {B : Int} {rns : List Int} (hB : 2 ≤ B) (h : rns = (rangeKs B (B + 200 - B).toNat).map ruleOf) (hd : ∀ Y, 2 ≤ Y → delay2 Y = ruleOf Y) : delay2 ((rareOf B rns 0).getD ((-1 : Int) + ((rareOf B rns 0).length : Int)).toNat 0) = 0 := by
  have hm := last_mem (plain_ne h)
  obtain ⟨h1, h2, h3⟩ := rareOf_mem hm
  rw [hd _ (by omega), ← rns_year h h1 h2]; exact h3
theorem plain_len {B : Int} {rns : List Int} (h : rns = (rangeKs B (B + 200 - B).toNat).map ruleOf) : -((rareOf B rns 0).length : Int) ≤ -1 := by
  have := rare_pos (plain_ne h); omega
end Mine
-- part: Yi
namespace Mine
open PySem PySem.W PyProof.Rows PySem.Calls
def rule2 (d p : Int) (l l0 : Bool) : Int := if p < 19440 ∧ d % 7 = 1 ∧ 9924 ≤ p ∧ l = false then 2 else if p < 19440 ∧ d % 7 = 0 ∧ 16789 ≤ p ∧ l0 = true then 1 else 0
/-- the rule of a common year: its first way is decided -/
theorem rule2_c (d p : Int) (l0 : Bool) : (rule2 d p false l0 = 2 ∧ p < 19440 ∧ d % 7 = 1 ∧ 9924 ≤ p) ∨ (¬ (p < 19440 ∧ d % 7 = 1 ∧ 9924 ≤ p) ∧ (rule2 d p false l0 = 0 ∨ (rule2 d p false l0 = 1 ∧ p < 19440 ∧ d % 7 = 0 ∧ 16789 ≤ p))) := by
  unfold rule2; cases l0 <;> simp only [reduceCtorEq, and_true, and_false, if_false] <;> (repeat' split) <;> first | omega | simp
/-- the rule of a long year -/
theorem rule2_l (d p : Int) (l0 : Bool) : rule2 d p true l0 = 0 ∨ (rule2 d p true l0 = 1 ∧ p < 19440 ∧ d % 7 = 0 ∧ 16789 ≤ p) := by
  unfold rule2; cases l0 <;> simp only [reduceCtorEq, and_true, and_false, if_false] <;> (repeat' split) <;> first | omega | simp
/-- the rule behind a common year -/
theorem rule2_nc (d p : Int) (l : Bool) : rule2 d p l false = 0 ∨ (rule2 d p l false = 2 ∧ p < 19440 ∧ d % 7 = 1 ∧ 9924 ≤ p) := by
  unfold rule2; cases l <;> simp only [reduceCtorEq, and_true, and_false, if_false] <;> (repeat' split) <;> first | omega | simp
/-- the rule behind a long year: its second way is decided -/
theorem rule2_nl (d p : Int) (l : Bool) : (rule2 d p l true = 1 ∧ p < 19440 ∧ d % 7 = 0 ∧ 16789 ≤ p) ∨ (¬ (p < 19440 ∧ d % 7 = 0 ∧ 16789 ≤ p) ∧ (rule2 d p l true = 0 ∨ (rule2 d p l true = 2 ∧ p < 19440 ∧ d % 7 = 1 ∧ 9924 ≤ p))) := by
  unfold rule2; cases l <;> simp only [reduceCtorEq, and_true, and_false, if_false] <;> (repeat' split) <;> first | omega | simp
theorem len_c {d p : Int} (h0 : 0 ≤ p) (h1 : p < 25920) (l0 l2 : Bool) :
    353 ≤ putOff (d + (p + 12 * (29 * 25920 + 12 * 1080 + 793)) / 25920) ((p + 12 * (29 * 25920 + 12 * 1080 + 793)) % 25920) + rule2 (d + (p + 12 * (29 * 25920 + 12 * 1080 + 793)) / 25920) ((p + 12 * (29 * 25920 + 12 * 1080 + 793)) % 25920) l2 false - (putOff d p + rule2 d p false l0) ∧
    putOff (d + (p + 12 * (29 * 25920 + 12 * 1080 + 793)) / 25920) ((p + 12 * (29 * 25920 + 12 * 1080 + 793)) % 25920) + rule2 (d + (p + 12 * (29 * 25920 + 12 * 1080 + 793)) / 25920) ((p + 12 * (29 * 25920 + 12 * 1080 + 793)) % 25920) l2 false - (putOff d p + rule2 d p false l0) ≤ 355 := by
  obtain ⟨q, r, m, hd, hm, hcl⟩ := cls_c (d := d) h0 h1
  have ha := rule2_c d p l0
  have hb := rule2_nc (d + (p + 12 * (29 * 25920 + 12 * 1080 + 793)) / 25920) ((p + 12 * (29 * 25920 + 12 * 1080 + 793)) % 25920) l2
  generalize rule2 d p false l0 = a at *
  generalize rule2 (d + (p + 12 * (29 * 25920 + 12 * 1080 + 793)) / 25920) ((p + 12 * (29 * 25920 + 12 * 1080 + 793)) % 25920) l2 false = b at *
  generalize putOff (d + (p + 12 * (29 * 25920 + 12 * 1080 + 793)) / 25920) ((p + 12 * (29 * 25920 + 12 * 1080 + 793)) % 25920) = N at *
  generalize putOff d p = O at *
  have e : N + b - (O + a) = m + b - a := by omega
  rw [e]
  clear e hm N O
  have h7 : d % 7 = 7 * 0 + (d % 7) := by omega
  rcases hcl with ⟨hc, e1, e2, ht⟩ | ⟨hc, e1, e2, ht⟩ | ⟨hc, e1, e2, ht⟩ | ⟨hc, e1, e2, ht⟩ <;> rw [e1, e2] at hb <;> clear e1 e2 h7 <;> subst hd <;> rcases ht with ⟨rfl, rfl⟩ | ⟨rfl, rfl⟩ | ⟨rfl, rfl⟩ | ⟨rfl, rfl⟩ | ⟨rfl, rfl⟩ | ⟨rfl, rfl⟩ | ⟨rfl, rfl⟩ <;> omega
theorem len_l {d p : Int} (h0 : 0 ≤ p) (h1 : p < 25920) (l0 l2 : Bool) :
    383 ≤ putOff (d + (p + 13 * (29 * 25920 + 12 * 1080 + 793)) / 25920) ((p + 13 * (29 * 25920 + 12 * 1080 + 793)) % 25920) + rule2 (d + (p + 13 * (29 * 25920 + 12 * 1080 + 793)) / 25920) ((p + 13 * (29 * 25920 + 12 * 1080 + 793)) % 25920) l2 true - (putOff d p + rule2 d p true l0) ∧
    putOff (d + (p + 13 * (29 * 25920 + 12 * 1080 + 793)) / 25920) ((p + 13 * (29 * 25920 + 12 * 1080 + 793)) % 25920) + rule2 (d + (p + 13 * (29 * 25920 + 12 * 1080 + 793)) / 25920) ((p + 13 * (29 * 25920 + 12 * 1080 + 793)) % 25920) l2 true - (putOff d p + rule2 d p true l0) ≤ 385 := by
  obtain ⟨q, r, m, hd, hm, hcl⟩ := cls_l (d := d) h0 h1
  have ha := rule2_l d p l0
  have hb := rule2_nl (d + (p + 13 * (29 * 25920 + 12 * 1080 + 793)) / 25920) ((p + 13 * (29 * 25920 + 12 * 1080 + 793)) % 25920) l2
  generalize rule2 d p true l0 = a at *
  generalize rule2 (d + (p + 13 * (29 * 25920 + 12 * 1080 + 793)) / 25920) ((p + 13 * (29 * 25920 + 12 * 1080 + 793)) % 25920) l2 true = b at *
  generalize putOff (d + (p + 13 * (29 * 25920 + 12 * 1080 + 793)) / 25920) ((p + 13 * (29 * 25920 + 12 * 1080 + 793)) % 25920) = N at *
  generalize putOff d p = O at *
  have e : N + b - (O + a) = m + b - a := by omega
  rw [e]
  clear e hm N O
  rcases hcl with ⟨hc, e1, e2, ht⟩ | ⟨hc, e1, e2, ht⟩ | ⟨hc, e1, e2, ht⟩ | ⟨hc, e1, e2, ht⟩ <;> rw [e1, e2] at hb <;> clear e1 e2 <;> subst hd <;> rcases ht with ⟨rfl, rfl⟩ | ⟨rfl, rfl⟩ | ⟨rfl, rfl⟩ | ⟨rfl, rfl⟩ | ⟨rfl, rfl⟩ | ⟨rfl, rfl⟩ | ⟨rfl, rfl⟩ <;> omega
end Mine
-- part: Yj
namespace Mine
open PySem PySem.W PyProof.Rows PySem.Calls
def newN (y : Int) : Int := delay1 y + delay2 y
theorem newN_eq (y : Int) : newN y = putOff (moonDay y) (moonParts y) + rule2 (moonDay y) (moonParts y) (longB y) (longB (y - 1)) := by
  unfold newN; rw [d2_rule, rule_eq, delay1_eq]; rfl
theorem year_len (y : Int) : (leapB y = false ∧ 353 ≤ newN (y + 1) - newN y ∧ newN (y + 1) - newN y ≤ 355) ∨ (leapB y = true ∧ 383 ≤ newN (y + 1) - newN y ∧ newN (y + 1) - newN y ≤ 385) := by
  obtain ⟨h0, h1⟩ := parts_range y
  obtain ⟨s1, s2⟩ := moon_day_step y
  have e : y + 1 - 1 = y := by omega
  rw [newN_eq, newN_eq, s1, s2, e, ← longB_leap]
  cases hl : longB y with
  | true => right; simp only [if_true]; exact ⟨trivial, len_l h0 h1 _ _⟩
  | false => left; simp only [Bool.false_eq_true, if_false]; exact ⟨trivial, len_c h0 h1 _ _⟩
theorem delay2_range (y : Int) : 0 ≤ delay2 y ∧ delay2 y ≤ 2 := by unfold delay2; (repeat' split) <;> omega
/-- where the new year stands beside the mean -/
theorem newN_mean (y : Int) : moonDay y ≤ newN y ∧ newN y ≤ moonDay y + 2 := by
  have hr := rule_eq y
  obtain ⟨h0, h1⟩ := parts_range y
  unfold newN
  rw [d2_rule, delay1_eq]
  generalize ruleOf y = r at *
  generalize moonParts y = p at *
  generalize moonDay y = d at *
  by_cases hp : p < 19440
  · rw [putOff_lo hp, Int.add_zero]
    unfold putF
    by_cases c1 : p < 19440 ∧ d % 7 = 1 ∧ 9924 ≤ p ∧ longB y = false
    · rw [if_pos c1] at hr; split <;> omega
    · rw [if_neg c1] at hr
      by_cases c2 : p < 19440 ∧ d % 7 = 0 ∧ 16789 ≤ p ∧ longB (y - 1) = true
      · rw [if_pos c2] at hr; split <;> omega
      · rw [if_neg c2] at hr; split <;> omega
  · rw [putOff_hi (by omega)]
    have hr0 : r = 0 := by rw [hr, if_neg (by omega), if_neg (by omega)]
    unfold putF
    split <;> omega
theorem moon_mean (y : Int) : ∃ k : Int, 19 * k ≤ 235 * y - 234 ∧ 235 * y - 234 < 19 * k + 19 ∧ 25920 * moonDay y ≤ 5604 + k * 765433 ∧ 5604 + k * 765433 < 25920 * moonDay y + 25920 := by
  refine ⟨moons y, ?_, ?_, ?_, ?_⟩
  · rw [moons_eq, fd19]; omega
  · rw [moons_eq, fd19]; omega
  · unfold moonDay moonTotal; rw [(fdm _).1]; omega
  · unfold moonDay moonTotal; rw [(fdm _).1]; omega
theorem newN_low (y : Int) (h : -1 ≤ y) : -2000 ≤ newN y := by
  obtain ⟨k, h1, h2, h3, h4⟩ := moon_mean y
  have := (newN_mean y).1
  omega
theorem count_in (y : Int) (j : Int) (hj : j = 2 ∨ j = 1) : ((newN y + j) * 98496) / 35975351 = y - 2 ∨ ((newN y + j) * 98496) / 35975351 = y - 1 := by
  obtain ⟨k, h1, h2, h3, h4⟩ := moon_mean y
  obtain ⟨h5, h6⟩ := newN_mean y
  generalize newN y = N at *
  generalize moonDay y = d at *
  have u : 5 * 98496 * (N + j) < 5 * 35975351 * y := by rcases hj with rfl | rfl <;> omega
  have l : 5 * 35975351 * (y - 2) ≤ 5 * 98496 * (N + j) := by rcases hj with rfl | rfl <;> omega
  omega
theorem jd7_pos (y d : Int) (h : -1 ≤ y) (hd : 0 ≤ d) : jd7 y d = 347997 + newN y + d := by
  have := newN_low y h
  unfold jd7 midnightZ
  have e : 347996 + delay1 y + delay2 y + d + 1 = 347997 + newN y + d := by unfold newN; omega
  rw [e, if_pos (by omega)]
theorem yearDays_eq (y : Int) (h : -1 ≤ y) : yearDays y = newN (y + 1) - newN y := by
  unfold yearDays; rw [jd7_pos _ _ (by omega) (by omega), jd7_pos _ _ h (by omega)]; omega
theorem lawNew_N (y : Int) : lawNew y = 347998 + newN y := by rw [lawNew_eq]; unfold newN; omega

theorem ml_fix (y : Int) : monthLen y 1 = 30 ∧ monthLen y 2 = 29 ∧ monthLen y 3 = 30 ∧ monthLen y 4 = 29 ∧ monthLen y 5 = 30 ∧ monthLen y 6 = 29 ∧ monthLen y 7 = 30 ∧ monthLen y 10 = 29 ∧ monthLen y 11 = 30 ∧ monthLen y 13 = 29 := by
  unfold monthLen; refine ⟨?_, ?_, ?_, ?_, ?_, ?_, ?_, ?_, ?_, ?_⟩ <;> simp
theorem ml_12 (y : Int) : monthLen y 12 = if leapB y = true then 30 else 29 := by
  unfold monthLen; cases h : leapB y <;> simp
theorem ml_8 (y : Int) : monthLen y 8 = if yearDays y % 10 = 5 then 30 else 29 := by
  unfold monthLen; rw [fm10]; by_cases h : yearDays y % 10 = 5 <;> simp [h]
theorem ml_9 (y : Int) : monthLen y 9 = if yearDays y % 10 = 3 then 29 else 30 := by
  unfold monthLen; rw [fm10]; by_cases h : yearDays y % 10 = 3 <;> simp [h]
theorem sum_hi (y : Int) : sumL y 7 (yearMonths y + 1 - 7).toNat = 30 + monthLen y 8 + monthLen y 9 + 59 + (if leapB y = true then 59 else 29) := by
  obtain ⟨_, _, _, _, _, _, h7, h10, h11, h13⟩ := ml_fix y
  have h12 := ml_12 y
  unfold yearMonths sumL
  cases h : leapB y with
  | true =>
    rw [h] at h12
    have e : rangeKs 7 ((if true = true then (13 : Int) else 12) + 1 - 7).toNat = [7, 8, 9, 10, 11, 12, 13] := by decide
    rw [e]
    simp only [List.map_cons, List.map_nil, List.sum_cons, List.sum_nil, if_true] at *
    omega
  | false =>
    rw [h] at h12
    have e : rangeKs 7 ((if false = true then (13 : Int) else 12) + 1 - 7).toNat = [7, 8, 9, 10, 11, 12] := by decide
    rw [e]
    simp only [List.map_cons, List.map_nil, List.sum_cons, List.sum_nil, Bool.false_eq_true, if_false] at *
    omega
theorem sum_lo (y : Int) : sumL y 1 ((1 : Int) - 1).toNat = 0 ∧ sumL y 1 ((2 : Int) - 1).toNat = 30 ∧ sumL y 1 ((3 : Int) - 1).toNat = 59 ∧ sumL y 1 ((4 : Int) - 1).toNat = 89 ∧ sumL y 1 ((5 : Int) - 1).toNat = 118 ∧ sumL y 1 ((6 : Int) - 1).toNat = 148 := by
  obtain ⟨h1, h2, h3, h4, h5, _⟩ := ml_fix y
  have e1 : rangeKs 1 ((1 : Int) - 1).toNat = [] := by decide
  have e2 : rangeKs 1 ((2 : Int) - 1).toNat = [1] := by decide
  have e3 : rangeKs 1 ((3 : Int) - 1).toNat = [1, 2] := by decide
  have e4 : rangeKs 1 ((4 : Int) - 1).toNat = [1, 2, 3] := by decide
  have e5 : rangeKs 1 ((5 : Int) - 1).toNat = [1, 2, 3, 4] := by decide
  have e6 : rangeKs 1 ((6 : Int) - 1).toNat = [1, 2, 3, 4, 5] := by decide
  unfold sumL
  rw [e1, e2, e3, e4, e5, e6]
  simp only [List.map_cons, List.map_nil, List.sum_cons, List.sum_nil, h1, h2, h3, h4, h5]
  decide
/-- the months from Tishri to Adar make the year's length less the six that follow -/
theorem high_len (y : Int) (h : -1 ≤ y) : sumL y 7 (yearMonths y + 1 - 7).toNat + 177 = newN (y + 1) - newN y ∧ 0 ≤ sumL y 7 (yearMonths y + 1 - 7).toNat := by
  have hy := year_len y
  have e := yearDays_eq y h
  rw [sum_hi, ml_8, ml_9, e]
  generalize newN (y + 1) - newN y = D at *
  rcases hy with ⟨hl, h1, h2⟩ | ⟨hl, h1, h2⟩ <;> rw [hl] <;> simp only [Bool.false_eq_true, if_false, if_true] <;> constructor <;> (repeat' split) <;> omega
theorem jdLow_pos (y k d : Int) (h : -1 ≤ y) (hd : 0 ≤ d) (s : Int) (hs : sumL y 1 (k - 1).toNat = s) (hs0 : 0 ≤ s) : jdLow y k d = 347997 + newN y + d + (newN (y + 1) - newN y - 177) + s := by
  have h0 := newN_low y h
  obtain ⟨h1, h2⟩ := high_len y h
  unfold jdLow midnightZ
  rw [hs]
  have e : 347996 + delay1 y + delay2 y + d + 1 + sumL y 7 (yearMonths y + 1 - 7).toNat + s = 347997 + newN y + d + (newN (y + 1) - newN y - 177) + s := by unfold newN at *; omega
  rw [e, if_pos (by omega)]
theorem yfacts (Y : Int) (h : 2 ≤ Y) : YFacts Y := by
  obtain ⟨f1, f2, f3, f4, f5, f6, f7, _⟩ := ml_fix (Y - 1)
  obtain ⟨g1, g2, g3, g4, g5, g6⟩ := sum_lo (Y - 1)
  obtain ⟨G1, _⟩ := sum_lo Y
  have F7 := (ml_fix Y).2.2.2.2.2.2.1
  have e1 : Y - 1 + 1 = Y := by omega
  have e2 : Y - 2 + 1 = Y - 1 := by omega
  have e3 : Y - 1 - 1 = Y - 2 := by omega
  have e4 : Y - 1 - 2 = Y - 3 := by omega
  have e5 : Y - 3 + 1 = Y - 2 := by omega
  have l0 := year_len Y
  have l1 := year_len (Y - 1)
  have l2 := year_len (Y - 2)
  have l3 := year_len (Y - 3)
  rw [e1] at l1; rw [e2] at l2; rw [e5] at l3
  have L0 : 353 ≤ newN (Y + 1) - newN Y ∧ newN (Y + 1) - newN Y ≤ 385 := by omega
  have L1 : 353 ≤ newN Y - newN (Y - 1) ∧ newN Y - newN (Y - 1) ≤ 385 := by omega
  have L2 : 353 ≤ newN (Y - 1) - newN (Y - 2) := by omega
  have L3 : 353 ≤ newN (Y - 2) - newN (Y - 3) := by omega
  have c2 := count_in Y 2 (.inl rfl)
  have c1 := count_in Y 1 (.inr rfl)
  have hq : ∀ k : Int, 1 ≤ k → k ≤ 6 → True := fun _ _ _ => trivial
  clear hq l0 l1 l2 l3
  constructor
  · exact d2_rule Y
  · rw [yearDays_eq Y (by omega), lawNew_N, lawNew_N]; omega
  · rw [yearDays_eq (Y - 1) (by omega), lawNew_N, lawNew_N, e1]; omega
  · rw [lawNew_N, fdY]
    have e : 347998 + newN Y - 347996 = newN Y + 2 := by omega
    rw [e]; omega
  · rw [lawNew_N, jd7_pos _ _ (by omega) (by omega)]; omega
  · rw [lawNew_N, jd7_pos _ _ (by omega) (by omega)]; omega
  · rw [lawNew_N, jd7_pos _ _ (by omega) (by omega)]; omega
  · rw [lawNew_N, jd7_pos _ _ (by omega) (by omega)]; omega
  · rw [lawNew_N, jdLow_pos _ _ _ (by omega) (by omega) 0 G1 (by omega)]; omega
  · rw [lawNew_N, F7, jd7_pos _ _ (by omega) (by omega)]; omega
  · rw [lawNew_N, jd7_pos _ _ (by omega) (by omega)]; omega
  · rw [lawNew_N, fdY]
    have e : 347998 + newN Y - 1 - 347996 = newN Y + 1 := by omega
    rw [e]; omega
  · rw [lawNew_N, e4, jd7_pos _ _ (by omega) (by omega)]; omega
  · rw [lawNew_N, e3, jd7_pos _ _ (by omega) (by omega)]; omega
  · rw [lawNew_N, jd7_pos _ _ (by omega) (by omega)]; omega
  · rw [lawNew_N, e1, jd7_pos _ _ (by omega) (by omega)]; omega
  · rw [lawNew_N, jdLow_pos _ _ _ (by omega) (by omega) 0 g1 (by omega), e1]; omega
  · rw [lawNew_N, f1, jdLow_pos _ _ _ (by omega) (by omega) 0 g1 (by omega), e1]; omega
  · rw [lawNew_N, f2, jdLow_pos _ _ _ (by omega) (by omega) 30 g2 (by omega), e1]; omega
  · rw [lawNew_N, f3, jdLow_pos _ _ _ (by omega) (by omega) 59 g3 (by omega), e1]; omega
  · rw [lawNew_N, f4, jdLow_pos _ _ _ (by omega) (by omega) 89 g4 (by omega), e1]; omega
  · rw [lawNew_N, f5, jdLow_pos _ _ _ (by omega) (by omega) 118 g5 (by omega), e1]; omega
  · rw [lawNew_N, f6, jdLow_pos _ _ _ (by omega) (by omega) 148 g6 (by omega), e1]; omega
  · rw [lawNew_N, jdLow_pos _ _ _ (by omega) (by omega) 148 g6 (by omega), e1]; omega
end Mine
-- part: Main
namespace Mine
open PySem PySem.W PyProof.Rows PySem.Calls
local macro_rules | `(tactic| walk_at "binaryOp FloorDiv int int") => `(tactic| (k_here; (with_reducible refine floordiv_int (by decide) ?_); (try dsimp only)))
local macro_rules | `(tactic| walk_at "binaryOp Mod int int") => `(tactic| (k_here; (with_reducible refine mod_int' (by decide) ?_); (try dsimp only)))
local macro_rules | `(tactic| walk_at "eval Call") => `(tactic| (k_here; (with_reducible show wpAny _ _ (eval (Expr.Call (Expr.Name _ _) _ [] _) _) _ _ _); k_dflt (refine Call_ ?_)))
local macro_rules | `(tactic| walk_at "call ref") => `(tactic| (
    k_here
    k_dflt (refine' tell_use ?k1 ?k2 ?k3 ?k4 ?k5 ?kK ?kC ?kd ?ku ?_; (case k1 => k_asm); (case k2 => k_asm); (case k3 => k_asm); (case k4 => k_asm); (case k5 => k_asm); (case kC => ktr_rel); (case kK => first | exact rfl | assumption); (case kd => ktr_room); (case ku => ktr_units))
    first
      | (unfold OutV; intro t9 h9 tk9 F9 N9)
      | (unfold Out2; intro D9 t9 u9 c9 h9 tk9 F9 N9 l9; (try k_lt l9))
      | (unfold Out3; intro D9 t9 u9 v9 c9 h9 tk9 F9 N9 l9; (try k_lt l9))
    (try dsimp only)
    (try k_sweep)
    (try k_fold)))
local macro_rules | `(tactic| ktr_rel) => `(tactic| fail "no contract")

local macro_rules | `(tactic| ktr_rel) => `(tactic| exact delay1_tells _ _ _ _ _ _)
local macro_rules | `(tactic| ktr_rel) => `(tactic| exact delay2_tells _ _ _ _ _ _)
local macro_rules | `(tactic| ktr_rel) => `(tactic| exact leap_tells _ _ _ _ _ _)
local macro_rules | `(tactic| ktr_rel) => `(tactic| exact yearMonths_tells _ _ _ _ _ _)
local macro_rules | `(tactic| ktr_rel) => `(tactic| exact midnight_tells _ _ _ _ _ _)
local macro_rules | `(tactic| ktr_rel) => `(tactic| exact jd7_tells _ _ _ _ _ _ _ _ _)
local macro_rules | `(tactic| ktr_rel) => `(tactic| exact yearDays_tells _ _ _ _ _ _)
local macro_rules | `(tactic| tb_start) => `(tactic| first | assumption | exact news_tl (by assumption) | exact news_tl (news_tl (by assumption)) | exact news_tl (news_tl (news_tl (by assumption))))
local macro_rules | `(tactic| ktr_rel) => `(tactic| exact monthLen_tells _ _ _ _ _ _ _ _ (by omega))
local macro_rules | `(tactic| ktr_rel) => `(tactic| exact monthDays_tells _ _ _ _ _ _ _ _ (by omega))
local macro_rules | `(tactic| ktr_rel) => `(tactic| exact jdLow_tells _ _ _ _ _ _ _ _ _ _ (by omega) (by omega))
local macro_rules | `(tactic| walk_at "call ref") => `(tactic| (
    k_here
    (with_reducible show wpAny _ _ (call (Value.ref _) ([] ++ [])) _ _ _)
    k_dflt (refine' tell_use ?k1 ?k2 ?k3 ?k4 ?k5 ?kK ?kC ?kd ?ku ?_; (case k1 => k_asm); (case k2 => k_asm); (case k3 => k_asm); (case k4 => k_asm); (case k5 => k_asm); (case kC => exact longYears_tells _ _ _ _); (case kK => first | exact rfl | assumption); (case kd => ktr_room); (case ku => ktr_units))
    (unfold OutL; intro D9 t1 t2 t3 t4 t5 t6 t7 c9 h9 tk9 F9 N9 l9; (try k_lt l9))
    (try dsimp only)
    (try k_sweep)
    (try k_fold)))

local macro_rules | `(tactic| ktr_rel) => `(tactic| exact long_tells _ _ _ _ _ _)
local macro_rules | `(tactic| ktr_rel) => `(tactic| exact lawRule_tells _ _ _ _ _ _ _ _ _ _)
local macro_rules | `(tactic| walk_at "call builtin:divmod") => `(tactic| (
    k_here
    (with_reducible show wpAny _ _ (call (Value.builtin _) [Value.int _ _, Value.int _ _]) _ _ _)
    k_dflt (refine' divmod_K ?k1 ?k2 ?k3 ?_ ?k4; (case k1 => k_asm); (case k2 => k_asm); (case k3 => decide); (case k4 => exact PyProof.noPylong_of_log2 (by decide +kernel)))
    intro D9 h9 F9 N9 l9
    have l8 := l9
    (try k_lt l9)
    (try dsimp only)
    (try k_sweep)))
local macro_rules | `(tactic| k_all) => `(tactic| (refine' news_ne ?a ?b; (case a => assumption); (case b => (refine' le9 ?_; (try dsimp only); omega))))
local macro_rules | `(tactic| ktr_rel) => `(tactic| exact moon_tells _ _ _ _ _ _)
local macro_rules | `(tactic| ktr_rel) => `(tactic| exact lawNew_tells _ _ _ _ _ _)

theorem main_ : PySem.Challenge.rw_jk0003_01.Holds := hd (by
  k_go0
  all_goals try k_fold
  repeat' (first
    | ((with_reducible show wpAny _ _ (exec (PySem.Stmt.Return (some (PySem.Expr.Constant _ _ _)) _) _) _ _ _); exfalso; omega)
    | (k_unfold; (try dsimp only))
    | (k_here; (with_reducible show wpAny _ _ (call (Value.builtin "abs") [Value.int _ _]) _ _ _); refine abs_any ?_; intro a9 ha9 ta9 tb9; (try dsimp only))
    | (k_here; (with_reducible show wpAny _ _ (pyIter (Value.ref _)) (fun it s₂ => LoopAtV _ _ _ _ _ _ _ _ _ it s₂) _ _); (rename Fr _ _ _ _ => lF'); (rename News _ _ _ _ => lN'); (rename IsRange _ _ _ _ _ _ _ _ => rgX);
        (k_dflt (refine law_range (LoopW (2 + a9)) (by rfl) rgX (rangeSize_nat _ _) lF' lN' (by with_unfolding_all rfl) (by with_unfolding_all rfl) (loop_start _) ?_ ?_)) <;> clear lF' lN';
        (rotate_left;
         (intro rvs rns rnn rday rtd rpa rtp ru rh rtk rI rP rM rF rN; obtain ⟨rE, -, -⟩ := rP; have rL := rns_len rE; (try dsimp only); (try k_fold));
         rotate_left;
         (intro lvs lns lnn lday ltd lpa ltp lpre lk lt lu lh ltk lown lkE lkL lO lI lP lM lF lN; (try simp only [List.cons_append, List.nil_append] at lN); (try dsimp only); (try k_fold))))
    | (k_here; (with_reducible show wpAny _ _ (call (Value.builtin "list.append") [Value.ref _, _]) _ _ _); k_dflt (refine' append_K ?k1 ?k2 ?k3 ?_ ?z; (case k1 => k_asm); (case k2 => k_asm); (case k3 => k_upd); (case z => exact loop_fits lI lP lkL)); intro h' F' N'; (try dsimp only); (try k_sweep))
    | (k_here; (with_reducible show InvEndN _ _ _ _ _ _ _); (rename News _ _ _ _ => nE'); (try simp only [List.push_toArray] at nE'); (refine' kst_end (σ := LSt) ⟨_, _, _, _, _, _, _⟩ ?F nE' ?hn ?ho rfl ?hf ?hk ?hr ?hp); (case F => assumption); (case hn => kst_in); (case ho => first | kst_anyIn | (intro p hp; kst_mem)); (case hf => exact ints_snoc lI _ _); (case hk => kst_all); (case hr => kst_same); (case hp => first | exact loop_turn_t lkE lP (by assumption) | exact loop_turn_f lkE lP (by assumption)))
    | (k_here; (with_reducible show wpAny _ _ (binaryOp .Mod (Value.int _ _) (Value.int 2 _)) _ _ _); refine mod_any (by decide) ?_; intro m9 hm9 hm8; (try dsimp only))
    | (k_here; (with_reducible show wpAny _ _ (exec (PySem.Stmt.Assign [_] (PySem.Expr.ListComp _ _ _ _) _) _) _ _ _); k_dflt (refine LCt.Assign_ListComp_T (F₀ := by k_asm) (by rfl) (by with_unfolding_all rfl) (by with_unfolding_all rfl) (by decide) (by rfl) (by decide) (by rfl) (by rfl) (by rfl) ?_))
    | (k_here; (with_reducible show wpAny _ _ (eval (PySem.Expr.IfExp (PySem.Expr.Compare _ _ _ _) _ _ _) _) _ _ _); (fail_if_success (with_reducible show wpAny _ _ _ (YearPost _ _ _ _ _ _) _ _)); (rename IntsAre _ (List.foldl _ _ _) => hI8); rw [fold_rare] at hI8; (rename Fr _ _ _ _ => fJ); (rename News _ _ _ _ => nJ); k_dflt (refine year_join (2 + a9) fJ nJ ?_ ?_);
        (rotate_left; (intro Y tY hpY tkY hY1 hY2 FY NY; clear fJ nJ; have yf := yfacts Y (by omega); have h2d := yf.d2; have hyd := yf.yd; have hydm := yf.ydm; have had := yf.ad; have hget := rns_year rE hY1 hY2; (try dsimp only); (try k_fold))))
    | (k_here; (with_reducible show wpAny _ _ (call (Value.builtin "len") [Value.ref _]) _ _ _); k_dflt (refine' len_lst ?k1 ?k2 hI8 (rare_fit _ _ _) ?_; (case k1 => k_asm); (case k2 => k_mem)); (try dsimp only))
    | (k_here; (with_reducible show wpAny _ _ (binaryOp .Mod (Value.int _ _) (Value.int _ _)) _ _ _); (refine' mod_any ?hb9 ?_; (case hb9 => first | decide | exact rare_pos' (by assumption))); intro r9 hr9 hr8; (try dsimp only))
    | (k_here; (with_reducible show wpAny _ _ (subscriptTail _ _ (Value.ref _) (Value.int _ _)) _ _ _); k_dflt (refine' item_list_intsR ?l hI8 hr9 hr8 (rare_fit' hr8) ?_; (case l => exact ⟨_, News.get (by assumption) (by k_mem), rfl, _, rfl⟩)); intro t9)
    | ((with_reducible show YearPost _ _ _ _ _ _ _ _); (refine' year_end ?h1 ?F ?N; (case h1 => first | exact rare_in hr9 hr8 | (constructor <;> omega)); (case F => assumption); (case N => tb_start)))
    | (k_here; (with_reducible show wpAny _ _ (call (Value.ref _) [Value.int _ _]) _ _ _); k_dflt (refine' tell_use ?k1 ?k2 ?k3 ?k4 ?k5 ?kK ?kC ?kd ?ku ?_; (case k1 => k_asm); (case k2 => k_asm); (case k3 => k_asm); (case k4 => k_asm); (case k5 => k_asm); (case kC => first
          | exact fromjd_A _ _ _ _ _ _ _ yf.ac yf.a0 yf.a1 yf.a2 yf.a3 yf.al yf.a7 yf.ad
          | exact fromjd_B _ _ _ _ _ _ _ yf.bc yf.b0 yf.b1 yf.b2 yf.b3 yf.bl yf.m1 yf.m2 yf.m3 yf.m4 yf.m5 yf.m6 yf.bd); (case kK => first | exact rfl | assumption); (case kd => ktr_room); (case ku => ktr_units)); (unfold Out3; intro D9 t9 u9 v9 c9 h9 tk9 F9 N9 l9; (try k_lt l9)); (try dsimp only); (try k_sweep); (try k_fold))
    | (k_here; (with_reducible show wpAny _ _ (subscriptTail _ _ (Value.ref _) (Value.int (Y - _) _)) _ _ _); k_dflt (refine' item_list_intsR ?l rI ?h1 ?h2 ?h3 ?_; (case l => exact ⟨_, News.get (by assumption) (by k_mem), rfl, _, rfl⟩); (case h1 => omega); (case h2 => omega); (case h3 => omega)); intro t9)
    | (k_here; (with_reducible show wpAny _ _ (eval (PySem.Expr.ListComp _ _ _ _) _) _ _ _); k_dflt (refine LCt.ListComp_T (F₀ := by k_asm) (by with_unfolding_all rfl) (by decide) (by rfl) (by decide) (by rfl) ?_))
    | (k_here; (with_reducible show LCt.CompSrcT _ _ _ _ _ _ _ _ _ _ _ _ (fun s => LCg.FinE _ _ _ s _) _ _); k_dflt (refine LCt.CompSrcT.range (n := 200) (by rfl) (by k_asm) (by k_asm) (by assumption) (by decide) (by rfl) (by exact Nat.le_of_ble_eq_true rfl) ?_); intro g9; k_dflt (refine comp_run (fun i => (0 : Int) + (i : Int)) (fun k => decide (rns.getD k.toNat 0 = 0)) (fun k => 2 + a9 + k) 200 (rareOf (2 + a9) rns 0) rfl trivial (fun i v _ h => h) ?_ ?_ ?_))
    | ((with_reducible rename Turn _ _ _ _ _ _ _ _ _ _ _ _ _ _ _ => tu9); (rename ∃ (i : Nat), _ ∧ _ = _ => hk9); obtain ⟨i9, hi9, rfl⟩ := hk9; obtain ⟨hC9, hx9, F9, N9, off9, ne9⟩ := tu9; (try simp only [LCg.Off3, and_true] at off9))
    | (k_here; (with_reducible show wpAny _ _ (subscriptTail _ _ (Value.ref _) (Value.int (0 + _) _)) _ _ _); k_dflt (refine' item_list_intsR ?l rI ?h1 ?h2 ?h3 ?_; (case l => exact ⟨_, News.get (by assumption) (by k_mem), rfl, _, rfl⟩); (case h1 => omega); (case h2 => omega); (case h3 => omega)); intro t9)
    | exact ⟨rfl, _, _, rfl, by assumption, by assumption⟩
    | exact ⟨⟨_, rfl⟩, _, _, rfl, by assumption, by assumption⟩
    | (k_here; (with_reducible show wpAny _ _ (subscriptTail (PySem.Expr.ListComp _ _ _ _) _ (Value.ref _) (Value.int _ _)) _ _ _); (rename IntsAre _ (rareOf _ _ 0) => hI7); (have q1 := plain_len rE); k_dflt (refine' item_list_ints_negR ?l7 hI7 (by decide) q1 (by decide) ?_); (case l7 => exact ⟨_, News.get (by assumption) (by k_mem), rfl, _, rfl⟩); intro t9; (have hP8 := last_plain (by omega) rE (fun y hy => (yfacts y hy).d2)); (generalize (rareOf (2 + a9) rns 0).getD _ 0 = P9 at hP8 ⊢))
    | (k_end; wrow_close) | walk1 | (dsimp only; walk1) | (leave1; walk_say "STEP leave1"; try dsimp only) | fail "no step"))
end Mine
theorem PySem.Challenge.cw_jk0003_01_holds : PySem.Challenge.rw_jk0003_01.Holds :=
  Mine.main_
