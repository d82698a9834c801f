import PyProof.Rows.All
import Wide.All
import OpenK.AllK
import Wide.FinOn
import PySem.Challenge.RW_ah0009_01
open PySem PySem.W PyProof.Rows
set_option Elab.async false
set_option maxRecDepth 100000
set_option maxHeartbeats 8000000
namespace Mine
open_top hd for PySem.Challenge.rw_ah0009_01

open PySem.Calls PySem.Spec

/-- what a call of a pure def leaves: a value of the given make, the frame and the ledger as they stood -/
def Ret (h₀ : Heap) (L : Addr) (m : Str → Option Value) (news : List (Addr × Obj)) (s : Shared) (R : Tok → Value) (v : Value) (s' : Shared) : Prop :=
  ∃ (t : Tok) (h' : Heap) (tk' : Nat), v = R t ∧ s' = { s with heap := h', toks := tk' } ∧ Fr h₀ L h' m ∧ News h₀ L h' news

theorem Ret.int {h₀ h' : Heap} {L : Addr} {m : Str → Option Value} {news : List (Addr × Obj)} {s : Shared} {x y : Int} {t : Tok} {tk' : Nat}
    (F : Fr h₀ L h' m) (N : News h₀ L h' news) (e : y = x) : Ret h₀ L m news s (fun t => .int x t) (.int y t) { heap := h', gens := s.gens, drawn := s.drawn, toks := tk', os := s.os } :=
  ⟨t, h', tk', by rw [e], rfl, F, N⟩
theorem Ret.bool {h₀ h' : Heap} {L : Addr} {m : Str → Option Value} {news : List (Addr × Obj)} {s : Shared} {x y : Bool} {tk' : Nat}
    (F : Fr h₀ L h' m) (N : News h₀ L h' news) (e : y = x) : Ret h₀ L m news s (fun _ => .bool x) (.bool y) { heap := h', gens := s.gens, drawn := s.drawn, toks := tk', os := s.os } :=
  ⟨0, h', tk', by rw [e], rfl, F, N⟩

/-- the contract of a def: called at room for n frames it ends and gives R -/
def Con (n : Nat) (f : Addr) (vs : List Value) (R : Tok → Value) : Prop :=
  ∀ (w : World) (loose : List Str) (mean : ExcName → Option Value) (mg mb : Str → Option Value) (news : List (Addr × Obj))
    (dp un : Nat) (gd : Option (List Code)) (cn : Str) (cs : Scope) (a : Addr) (ccd : Value) (cl : List (Str × Addr)) (outer : List Env) (A₀ : Around) (base h₀ : Heap) (L : Addr) (m : Str → Option Value) (s : Shared),
    Below A₀ base outer h₀ → Fr h₀ L s.heap m → (hd.heap_39 w.params).In h₀ → News h₀ L s.heap news → Top hd.view_39 loose mean mg mb h₀ → cs.kind = .function → dp + n < recursionLimit → un + 8 * n < cLine →
      wpAny (model PySem.Challenge.rw_ah0009_01.row.prog w) (ktrTop dp un gd cn cs L a ccd cl outer) (call (.ref f) vs) (Ret h₀ L m news s R) (fun _ _ => False) s

theorem Con.use {n : Nat} {f : Addr} {vs : List Value} {R : Tok → Value} (C : Con n f vs R)
    {w : World} {loose : List Str} {mean : ExcName → Option Value} {mg mb : Str → Option Value} {news : List (Addr × Obj)}
    {dp un : Nat} {gd : Option (List Code)} {cn : Str} {cs : Scope} {a : Addr} {ccd : Value} {cl : List (Str × Addr)} {outer : List Env} {A₀ : Around} {base h₀ : Heap} {L : Addr} {m : Str → Option Value} {s : Shared} {Q E : Value → Shared → Prop}
    (B : Below A₀ base outer h₀) (F : Fr h₀ L s.heap m) (X : (hd.heap_39 w.params).In h₀) (N : News h₀ L s.heap news) (T : Top hd.view_39 loose mean mg mb h₀) (hk : cs.kind = .function) (hd : dp + n < recursionLimit) (hu : un + 8 * n < cLine)
    (hret : ∀ (t : Tok) (h' : Heap) (tk' : Nat), Fr h₀ L h' m → News h₀ L h' news → Q (R t) { heap := h', gens := s.gens, drawn := s.drawn, toks := tk', os := s.os }) :
    wpAny (model PySem.Challenge.rw_ah0009_01.row.prog w) (ktrTop dp un gd cn cs L a ccd cl outer) (call (.ref f) vs) Q E s := by
  refine wpAny_mono (C w loose mean mg mb news dp un gd cn cs a ccd cl outer A₀ base h₀ L m s B F X N T hk hd hu) (fun v s' h => ?_) fun _ _ h => h.elim
  obtain ⟨t, h', tk', rfl, rfl, F', N'⟩ := h
  exact hret t h' tk' F' N'

theorem storeInt {M : Model} {A : Around} {E : Value → Shared → Prop} {s : Shared} {h₀ : Heap} {L a : Addr} {m : Str → Option Value} {cn : Str} {cs : Scope} {ccd : Value} {cl : List (Str × Addr)}
    {x : Str} {i : Int} {t : Tok} {Q : Unit → Shared → Prop} {news : List (Addr × Obj)} (F : Fr h₀ L s.heap m) (N : News h₀ L s.heap news)
    (h : ∀ h' t' tk', Fr h₀ L h' (fun y => if y = x then some (.int i t') else m y) → News h₀ L h' news → Q () { heap := h', gens := s.gens, drawn := s.drawn, toks := tk', os := s.os })
    (hk : cs.kind = .function := by rfl) (hx : (envX cn cs L a ccd cl).kindOf x = some .local := by rfl) : wpAny M A (storeName (envX cn cs L a ccd cl) x (.int i t)) Q E s :=
  storeX_L F N (fun h' F' N' => h h' _ _ F' N') hk hx

local macro_rules | `(tactic| walk_at "storeName") => `(tactic| (k_here; k_dflt
  (refine' storeInt ?F ?N ?_ ?a ?b; (case F => k_asm); (case N => k_asm); (case a => rfl); (case b => rfl); k_whole; intro h' t' tk' F' N'; (try dsimp only); (try k_sweep))))

-- the walk's loop: it halts at an end
local macro_rules | `(tactic| ktr_unf) => `(tactic|
  repeat' (first | (k_unfold; (try dsimp only)) | ((fail_if_success (with_reducible show Ret _ _ _ _ _ _ _ _)); first | walk1 | (dsimp only; walk1) | (leave1; walk_say "STEP leave1"; (try dsimp only)) | fail "no step")))
-- a contract's start
local macro_rules | `(tactic| ktr_rel) => `(tactic| (
  unfold Con
  k_fill
  intro w loose mean mg mb news dp un gd cn cs a ccd cl outer A₀ base h₀ L m s B F X N T hk hd hu
  refine wpAny_call ?_
  k_dflt cell_enter
  ktr_unf))

def months (y : Int) : Int := (235 * y - 234).fdiv 19
def day0 (y : Int) : Int := months y * 29 + (12084 + 13753 * months y).fdiv 25920
def delay1 (y : Int) : Int := if (3 * (day0 y + 1)).fmod 7 < 3 then day0 y + 1 else day0 y
def leapB (y : Int) : Bool := decide ((y * 7 + 1).fmod 19 < 7)
def yearMonths (y : Int) : Int := if leapB y = true then 13 else 12
def delay2 (y : Int) : Int := if delay1 (y + 1) - delay1 y = 356 then 2 else if delay1 y - delay1 (y - 1) = 382 then 1 else 0
def mid (x : Int) : Int := if 0 < x then x else x + 1

theorem delay1_con (y : Int) (t : Tok) : Con 1 42 [.int y t] (fun t => .int (delay1 y) t) := by
  ktr_rel
  all_goals exact Ret.int (by k_asm) (by k_asm) (by unfold delay1; unfold day0; unfold months; (first | rw [if_pos ‹_ < _›] | rw [if_neg ‹¬ _›]))

theorem mid_con (y : Int) (t : Tok) : Con 1 21 [.int y t] (fun t => .int (mid y) t) := by
  ktr_rel
  all_goals exact Ret.int (by k_asm) (by k_asm) (by unfold mid; (first | rw [if_pos ‹_ < _›] | rw [if_neg ‹¬ _›]))

theorem leap_con (y : Int) (t : Tok) : Con 1 28 [.int y t] (fun _ => .bool (leapB y)) := by
  ktr_rel
  all_goals exact Ret.bool (by k_asm) (by k_asm) rfl

open PySem.Calls PySem.Spec

local macro_rules | `(tactic| walk_at "storeName") => `(tactic| (k_here; k_dflt
  (refine' storeInt ?F ?N ?_ ?a ?b; (case F => k_asm); (case N => k_asm); (case a => rfl); (case b => rfl); k_whole; intro h' t' tk' F' N'; (try dsimp only); (try k_sweep))))

-- the walk's loop: it halts at an end
local macro_rules | `(tactic| ktr_unf) => `(tactic|
  repeat' (first | (k_unfold; (try dsimp only)) | ((fail_if_success (with_reducible show Ret _ _ _ _ _ _ _ _)); first | walk1 | (dsimp only; walk1) | (leave1; walk_say "STEP leave1"; (try dsimp only)) | fail "no step")))
-- a contract's start
local macro_rules | `(tactic| ktr_rel) => `(tactic| (
  unfold Con
  k_fill
  intro w loose mean mg mb news dp un gd cn cs a ccd cl outer A₀ base h₀ L m s B F X N T hk hd hu
  refine wpAny_call ?_
  k_dflt cell_enter
  ktr_unf))


local macro_rules | `(tactic| walk_at "call ref") => `(tactic| (k_here; k_dflt (
  (refine' Con.use ?kC ?k1 ?k2 ?k3 ?k4 ?k5 ?k6 ?k7 ?k8 ?_; (case kC => (first | exact leap_con _ _ | exact delay1_con _ _ | exact mid_con _ _)); (case k1 => k_asm); (case k2 => k_asm); (case k3 => k_asm); (case k4 => k_asm); (case k5 => k_asm); (case k6 => first | exact rfl | assumption); (case k7 => ktr_room); (case k8 => ktr_units); intro t9 h9 tk9 F9 N9; (try dsimp only); (try k_sweep)))))

theorem yearMonths_con (y : Int) (t : Tok) : Con 2 35 [.int y t] (fun t => .int (yearMonths y) t) := by
  ktr_rel
  all_goals exact Ret.int (by k_asm) (by k_asm) (by unfold yearMonths; (first | rw [if_pos ‹_›] | rw [if_neg ‹¬ _›] | simp [*]))

theorem delay2_con (y : Int) (t : Tok) : Con 2 49 [.int y t] (fun t => .int (delay2 y) t) := by
  ktr_rel
  all_goals exact Ret.int (by k_asm) (by k_asm) (by unfold delay2; repeat' split; all_goals first | rfl | contradiction)

open PySem.Calls PySem.Spec

local macro_rules | `(tactic| walk_at "storeName") => `(tactic| (k_here; k_dflt
  (refine' storeInt ?F ?N ?_ ?a ?b; (case F => k_asm); (case N => k_asm); (case a => rfl); (case b => rfl); k_whole; intro h' t' tk' F' N'; (try dsimp only); (try k_sweep))))

-- the walk's loop: it halts at an end
local macro_rules | `(tactic| ktr_unf) => `(tactic|
  repeat' (first | (k_unfold; (try dsimp only)) | ((fail_if_success (with_reducible show Ret _ _ _ _ _ _ _ _)); first | walk1 | (dsimp only; walk1) | (leave1; walk_say "STEP leave1"; (try dsimp only)) | fail "no step")))
-- a contract's start
local macro_rules | `(tactic| ktr_rel) => `(tactic| (
  unfold Con
  k_fill
  intro w loose mean mg mb news dp un gd cn cs a ccd cl outer A₀ base h₀ L m s B F X N T hk hd hu
  refine wpAny_call ?_
  k_dflt cell_enter
  ktr_unf))


local macro_rules | `(tactic| walk_at "call ref") => `(tactic| (k_here; k_dflt (
  (refine' Con.use ?kC ?k1 ?k2 ?k3 ?k4 ?k5 ?k6 ?k7 ?k8 ?_; (case kC => (first | exact leap_con _ _ | exact yearMonths_con _ _ | exact delay2_con _ _ | exact delay1_con _ _ | exact mid_con _ _)); (case k1 => k_asm); (case k2 => k_asm); (case k3 => k_asm); (case k4 => k_asm); (case k5 => k_asm); (case k6 => first | exact rfl | assumption); (case k7 => ktr_room); (case k8 => ktr_units); intro t9 h9 tk9 F9 N9; (try dsimp only); (try k_sweep)))))


def newYear (y d : Int) : Int := mid (347996 + delay1 y + delay2 y + d + 1)
theorem toJd7_con (y d : Int) (t t2 t3 : Tok) : Con 3 77 [.int y t, .int 7 t2, .int d t3] (fun t => .int (newYear y d) t) := by
  ktr_rel
  all_goals exact Ret.int (by k_asm) (by k_asm) rfl

open PySem.Calls PySem.Spec

local macro_rules | `(tactic| walk_at "storeName") => `(tactic| (k_here; k_dflt
  (refine' storeInt ?F ?N ?_ ?a ?b; (case F => k_asm); (case N => k_asm); (case a => rfl); (case b => rfl); k_whole; intro h' t' tk' F' N'; (try dsimp only); (try k_sweep))))

-- the walk's loop: it halts at an end
local macro_rules | `(tactic| ktr_unf) => `(tactic|
  repeat' (first | (k_unfold; (try dsimp only)) | ((fail_if_success (with_reducible show Ret _ _ _ _ _ _ _ _)); first | walk1 | (dsimp only; walk1) | (leave1; walk_say "STEP leave1"; (try dsimp only)) | fail "no step")))
-- a contract's start
local macro_rules | `(tactic| ktr_rel) => `(tactic| (
  unfold Con
  k_fill
  intro w loose mean mg mb news dp un gd cn cs a ccd cl outer A₀ base h₀ L m s B F X N T hk hd hu
  refine wpAny_call ?_
  k_dflt cell_enter
  ktr_unf))


local macro_rules | `(tactic| walk_at "call ref") => `(tactic| (k_here; k_dflt (
  (refine' Con.use ?kC ?k1 ?k2 ?k3 ?k4 ?k5 ?k6 ?k7 ?k8 ?_; (case kC => (first | exact leap_con _ _ | exact toJd7_con _ _ _ _ _ | exact yearMonths_con _ _ | exact delay2_con _ _ | exact delay1_con _ _ | exact mid_con _ _)); (case k1 => k_asm); (case k2 => k_asm); (case k3 => k_asm); (case k4 => k_asm); (case k5 => k_asm); (case k6 => first | exact rfl | assumption); (case k7 => ktr_room); (case k8 => ktr_units); intro t9 h9 tk9 F9 N9; (try dsimp only); (try k_sweep)))))



def yearDays (y : Int) : Int := newYear (y + 1) 1 - newYear y 1
theorem yearDays_con (y : Int) (t : Tok) : Con 4 56 [.int y t] (fun t => .int (yearDays y) t) := by
  ktr_rel
  all_goals exact Ret.int (by k_asm) (by k_asm) rfl

open PySem.Calls PySem.Spec

local macro_rules | `(tactic| walk_at "storeName") => `(tactic| (k_here; k_dflt
  (refine' storeInt ?F ?N ?_ ?a ?b; (case F => k_asm); (case N => k_asm); (case a => rfl); (case b => rfl); k_whole; intro h' t' tk' F' N'; (try dsimp only); (try k_sweep))))

-- the walk's loop: it halts at an end
local macro_rules | `(tactic| ktr_unf) => `(tactic|
  repeat' (first | (k_unfold; (try dsimp only)) | ((fail_if_success (with_reducible show Ret _ _ _ _ _ _ _ _)); first | walk1 | (dsimp only; walk1) | (leave1; walk_say "STEP leave1"; (try dsimp only)) | fail "no step")))
-- a contract's start
local macro_rules | `(tactic| ktr_rel) => `(tactic| (
  unfold Con
  k_fill
  intro w loose mean mg mb news dp un gd cn cs a ccd cl outer A₀ base h₀ L m s B F X N T hk hd hu
  refine wpAny_call ?_
  k_dflt cell_enter
  ktr_unf))


local macro_rules | `(tactic| walk_at "call ref") => `(tactic| (k_here; k_dflt (
  (refine' Con.use ?kC ?k1 ?k2 ?k3 ?k4 ?k5 ?k6 ?k7 ?k8 ?_; (case kC => (first | exact leap_con _ _ | exact yearDays_con _ _ | exact toJd7_con _ _ _ _ _ | exact yearMonths_con _ _ | exact delay2_con _ _ | exact delay1_con _ _ | exact mid_con _ _)); (case k1 => k_asm); (case k2 => k_asm); (case k3 => k_asm); (case k4 => k_asm); (case k5 => k_asm); (case k6 => first | exact rfl | assumption); (case k7 => ktr_room); (case k8 => ktr_units); intro t9 h9 tk9 F9 N9; (try dsimp only); (try k_sweep)))))



def monthLen (y m : Int) : Int :=
  if m = 2 ∨ m = 4 ∨ m = 6 ∨ m = 10 ∨ m = 13 then 29
  else if m = 12 ∧ leapB y = false then 29
  else if m = 8 ∧ (yearDays y).fmod 10 ≠ 5 then 29
  else if m = 9 ∧ (yearDays y).fmod 10 = 3 then 29
  else 30
theorem ml_1 {y m : Int} (h : ([2, 4, 6, 10, 13].any fun x => x == m) = true) : 29 = monthLen y m := by
  simp only [List.any_cons, List.any_nil, Bool.or_eq_true, beq_iff_eq, Bool.or_false] at h
  unfold monthLen; rw [if_pos (by omega)]
theorem ml_0 {m : Int} (h : ([2, 4, 6, 10, 13].any fun x => x == m) = false) : ¬ (m = 2 ∨ m = 4 ∨ m = 6 ∨ m = 10 ∨ m = 13) := by
  simp only [List.any_cons, List.any_nil, Bool.or_eq_false_iff, beq_eq_false_iff_ne, ne_eq] at h; omega
theorem ml_2 {y m : Int} (h : ([2, 4, 6, 10, 13].any fun x => x == m) = false) (h1 : m = 12) (h2 : leapB y = false) : 29 = monthLen y m := by
  unfold monthLen; rw [if_neg (ml_0 h), if_pos ⟨h1, h2⟩]
theorem ml_3 {y m : Int} (h : ([2, 4, 6, 10, 13].any fun x => x == m) = false) (h1 : m = 8) (h2 : (yearDays y).fmod 10 ≠ 5) : 29 = monthLen y m := by
  unfold monthLen; rw [if_neg (ml_0 h), if_neg (by omega), if_pos ⟨h1, h2⟩]
theorem ml_4 {y m : Int} (h : ([2, 4, 6, 10, 13].any fun x => x == m) = false) (h1 : m = 9) (h2 : (yearDays y).fmod 10 = 3) : 29 = monthLen y m := by
  unfold monthLen; rw [if_neg (ml_0 h), if_neg (by omega), if_neg (by omega), if_pos ⟨h1, h2⟩]
theorem ml_5 {y m : Int} (h : ([2, 4, 6, 10, 13].any fun x => x == m) = false) (h1 : m = 12 → leapB y = true) (h2 : m = 8 → (yearDays y).fmod 10 = 5) (h3 : m = 9 → (yearDays y).fmod 10 ≠ 3) : 30 = monthLen y m := by
  unfold monthLen
  rw [if_neg (ml_0 h), if_neg (fun e => by rw [h1 e.1] at e; exact absurd e.2 (by decide)), if_neg (fun e => e.2 (h2 e.1)), if_neg (fun e => h3 e.1 e.2)]
theorem monthLen_con (y m : Int) (t t2 : Tok) (hm : m ≤ 13) : Con 5 63 [.int y t, .int m t2] (fun t => .int (monthLen y m) t) := by
  ktr_rel
  all_goals exact Ret.int (by k_asm) (by first | k_asm | exact cb_drop (by assumption) (fun p hp => List.mem_cons_of_mem _ hp)) (by first
    | exact ml_1 (by assumption)
    | exact ml_2 (by assumption) (by assumption) (by assumption)
    | exact ml_3 (by assumption) (by assumption) (by assumption)
    | exact ml_4 (by assumption) (by assumption) (by assumption)
    | (exfalso; omega)
    | exact ml_5 (by assumption) (by intro e; first | assumption | omega) (by intro e; first | assumption | omega) (by intro e; first | assumption | omega))

open PySem.Calls PySem.Spec

local macro_rules | `(tactic| walk_at "storeName") => `(tactic| (k_here; k_dflt
  (refine' storeInt ?F ?N ?_ ?a ?b; (case F => k_asm); (case N => k_asm); (case a => rfl); (case b => rfl); k_whole; intro h' t' tk' F' N'; (try dsimp only); (try k_sweep))))

-- the walk's loop: it halts at an end
local macro_rules | `(tactic| ktr_unf) => `(tactic|
  repeat' (first | (k_unfold; (try dsimp only)) | ((fail_if_success (with_reducible show Ret _ _ _ _ _ _ _ _)); first | walk1 | (dsimp only; walk1) | (leave1; walk_say "STEP leave1"; (try dsimp only)) | fail "no step")))
-- a contract's start
local macro_rules | `(tactic| ktr_rel) => `(tactic| (
  unfold Con
  k_fill
  intro w loose mean mg mb news dp un gd cn cs a ccd cl outer A₀ base h₀ L m s B F X N T hk hd hu
  refine wpAny_call ?_
  k_dflt cell_enter
  ktr_unf))


local macro_rules | `(tactic| walk_at "call ref") => `(tactic| (k_here; k_dflt (
  (refine' Con.use ?kC ?k1 ?k2 ?k3 ?k4 ?k5 ?k6 ?k7 ?k8 ?_; (case kC => (first | exact leap_con _ _ | exact monthLen_con _ _ _ _ (by first | assumption | omega) | exact yearDays_con _ _ | exact toJd7_con _ _ _ _ _ | exact yearMonths_con _ _ | exact delay2_con _ _ | exact delay1_con _ _ | exact mid_con _ _)); (case k1 => k_asm); (case k2 => k_asm); (case k3 => k_asm); (case k4 => k_asm); (case k5 => k_asm); (case k6 => first | exact rfl | assumption); (case k7 => ktr_room); (case k8 => ktr_units); intro t9 h9 tk9 F9 N9; (try dsimp only); (try k_sweep)))))




theorem monthDays_con (y m : Int) (t t2 : Tok) (hm : m ≤ 13) : Con 6 70 [.int y t, .int m t2] (fun t => .int (monthLen y m) t) := by
  ktr_rel
  all_goals exact Ret.int (by k_asm) (by k_asm) rfl

open PySem.Calls PySem.Spec

local macro_rules | `(tactic| walk_at "storeName") => `(tactic| (k_here; k_dflt
  (refine' storeInt ?F ?N ?_ ?a ?b; (case F => k_asm); (case N => k_asm); (case a => rfl); (case b => rfl); k_whole; intro h' t' tk' F' N'; (try dsimp only); (try k_sweep))))

-- the walk's loop: it halts at an end
local macro_rules | `(tactic| ktr_unf) => `(tactic|
  repeat' (first | (k_unfold; (try dsimp only)) | ((fail_if_success (with_reducible show Ret _ _ _ _ _ _ _ _)); first | walk1 | (dsimp only; walk1) | (leave1; walk_say "STEP leave1"; (try dsimp only)) | fail "no step")))
-- a contract's start
local macro_rules | `(tactic| ktr_rel) => `(tactic| (
  unfold Con
  k_fill
  intro w loose mean mg mb news dp un gd cn cs a ccd cl outer A₀ base h₀ L m s B F X N T hk hd hu
  refine wpAny_call ?_
  k_dflt cell_enter
  ktr_unf))


local macro_rules | `(tactic| walk_at "call ref") => `(tactic| (k_here; k_dflt (
  (refine' Con.use ?kC ?k1 ?k2 ?k3 ?k4 ?k5 ?k6 ?k7 ?k8 ?_; (case kC => (first | exact leap_con _ _ | exact monthDays_con _ _ _ _ (by first | assumption | omega) | exact monthLen_con _ _ _ _ (by first | assumption | omega) | exact yearDays_con _ _ | exact toJd7_con _ _ _ _ _ | exact yearMonths_con _ _ | exact delay2_con _ _ | exact delay1_con _ _ | exact mid_con _ _)); (case k1 => k_asm); (case k2 => k_asm); (case k3 => k_asm); (case k4 => k_asm); (case k5 => k_asm); (case k6 => first | exact rfl | assumption); (case k7 => ktr_room); (case k8 => ktr_units); intro t9 h9 tk9 F9 N9; (try dsimp only); (try k_sweep)))))





def toJd (y m d : Int) : Int :=
  if m < 7 then
    mid (List.foldl (fun a' k' => a' + monthLen y k')
      (List.foldl (fun a' k' => a' + monthLen y k') (347996 + delay1 y + delay2 y + d + 1) (rangeKs 7 (yearMonths y + 1 - 7).toNat))
      (rangeKs 1 (m - 1).toNat))
  else mid (List.foldl (fun a' k' => a' + monthLen y k') (347996 + delay1 y + delay2 y + d + 1) (rangeKs 7 (m - 7).toNat))
theorem toJd_con (y m d : Int) (t t2 t3 : Tok) (hm : m ≤ 13) (hm0 : 1 ≤ m) : Con 7 77 [.int y t, .int m t2, .int d t3] (fun t => .int (toJd y m d) t) := by
  have hy0 : yearMonths y ≤ 13 := by unfold yearMonths; split <;> omega
  have hy1 : 12 ≤ yearMonths y := by unfold yearMonths; split <;> omega
  ktr_rel
  all_goals exact Ret.int (by k_asm) (by k_asm) (by unfold toJd; first | (rw [if_pos (by omega)]; done) | (rw [if_neg (by omega)]; done))

section
open PySem.Calls PySem.Spec

/-- how many of the limits lie at or below b -/
def cnt (ns : List Int) (b : Int) : Nat := (ns.filter fun n => decide (n ≤ b)).length

theorem restLe_aux {prog : Program} {w : World} {A : Around} {h₀ : Heap} {L : Addr} {m : Str → Option Value} {env : Env} {x c : Str} {p1 p2 p3 p4 : Pos} {scope : Scope} {cl : List (Str × Addr)} {s : Shared} {ax ca : Addr} {its : Array Value} {oc : Obj} {b : Int} {tb : Tok}
    {Fin : List Value → List (Addr × Obj) → Prop} {news : List (Addr × Obj)}
    (hk : ∀ C, (compEnvC scope cl C env).scope.kind = .function) (hx : ∀ C, (compEnvC scope cl C env).kindOf x = some .local) (hc : ∀ C, (compEnvC scope cl C env).kindOf c = some .cell)
    (hxd : (x == ("__debug__" : Str)) = false) (hcd : (c == ("__debug__" : Str)) = false)
    (hcl : cl.lookup c = some ca) (hoc : (ca, oc) ∈ news) (hd : oc.data = .cell (some (.int b tb))) (hS : LCg.SrcAt h₀ ax its news) :
    ∀ {vs : List Value} {ns : List Int}, IntsAre vs ns → ∀ (i : Nat) (ys : List Value), (∀ j, vs[j]? = its[i + j]?) →
      (∀ zs : List Value, zs.length = ys.length + cnt ns b → Fin zs news) →
      LCt.CompRestT prog w A h₀ L m env (.Compare (.Name x p1) [.LtE] [.Name c p2] p3) (.Name x p4) x scope cl s (LCg.SrcAt h₀ ax its) (fun i v => its[i]? = some v) Fin vs.length i ys news
  | _, _, .nil, i, ys, _, hF => LCt.CompRestT.zero (hF ys rfl)
  | _, _, .cons n t (vs := vs) (ns := ns) hI, i, ys, hv, hF => by
    refine LCt.CompRestT.succ ?_
    intro v I oI C oC D m₂ h tk E' hvi hC hxm F N off ne
    have e0 : v = .int n t := by
      have := hv 0
      simp only [List.getElem?_cons_zero, Nat.add_zero] at this
      have hvi' : its[i]? = some v := hvi
      rw [hvi'] at this
      exact (Option.some.inj this).symm
    subst e0
    have ih := restLe_aux (prog := prog) (w := w) (A := A) (L := L) (m := m) (env := env) (p1 := p1) (p2 := p2) (p3 := p3) (p4 := p4) (s := s) (Fin := Fin) hk hx hc hxd hcd hcl hoc hd hS hI (i + 1)
    have hv' : ∀ j, vs[j]? = its[i + 1 + j]? := fun j => by
      have := hv (j + 1)
      rw [List.getElem?_cons_succ] at this
      rw [this, Nat.add_right_comm, Nat.add_assoc]
    have own {p : Pos} {Q : Value → Shared → Prop} (hq : Q (.int n t) { s with heap := h, toks := tk }) : wpAny (model prog w) A (eval (.Name x p) (compEnvC scope cl C env)) Q E' { s with heap := h, toks := tk } :=
      LCgL.ld_own N (List.mem_cons_of_mem _ List.mem_cons_self) hC hxm hq (hk C) (hx C) hxd
    refine wpAny_isTrue_Compare1 (own (lcf_cell N hcl (List.mem_cons_of_mem _ (List.mem_cons_of_mem _ (List.mem_cons_of_mem _ hoc))) hd (le_int (wpAny_truthy_bool ?_)) (hk C) (hc C) hcd))
    by_cases hb : n ≤ b
    · have hcnt : cnt (n :: ns) b = cnt ns b + 1 := by unfold cnt; rw [List.filter_cons_of_pos (by simpa using hb)]; rfl
      simp only [hb, decide_true, if_true]
      refine own (LCg.CompEnd.intro F N news (fun _ hp => hp) off hS ?_)
      refine ih _ hv' fun zs hz => hF zs ?_
      rw [hz, hcnt, List.length_append, List.length_singleton]; omega
    · have hcnt : cnt (n :: ns) b = cnt ns b := by unfold cnt; rw [List.filter_cons_of_neg (by simpa using hb)]
      simp only [hb, decide_false, Bool.false_eq_true, if_false]
      refine LCg.CompEnd.intro F N news (fun _ hp => hp) off hS ?_
      refine ih _ hv' fun zs hz => hF zs ?_
      rw [hz, hcnt]

theorem cnt_le (ns : List Int) (b : Int) : cnt ns b ≤ ns.length := List.length_filter_le _ _

section
variable {prog : Program} {w : World} {A : Around} {h₀ : Heap} {L : Addr} {m : Str → Option Value} {env : Env} {x c : Str} {p1 p2 p3 p4 : Pos} {scope : Scope} {cl : List (Str × Addr)} {s : Shared} {ax ca : Addr} {its : Array Value} {oc : Obj} {b : Int} {tb : Tok}
    {news : List (Addr × Obj)} {ns : List Int} {Q : Value → Shared → Prop} {k : Nat}

theorem compLe_rest (hk : ∀ C, (compEnvC scope cl C env).scope.kind = .function) (hx : ∀ C, (compEnvC scope cl C env).kindOf x = some .local) (hc : ∀ C, (compEnvC scope cl C env).kindOf c = some .cell)
    (hxd : (x == ("__debug__" : Str)) = false) (hcd : (c == ("__debug__" : Str)) = false)
    (hcl : cl.lookup c = some ca) (hoc : (ca, oc) ∈ news) (hd : oc.data = .cell (some (.int b tb))) (hS : LCg.SrcAt h₀ ax its news) (hI : IntsAre its.toList ns)
    (h : ∀ D zs h' tk', zs.length = cnt ns b → Fr h₀ L h' m → News h₀ L h' ((D, LCg.lst zs) :: news) → LCg.Off1 D news → Q (.ref D) { heap := h', gens := s.gens, drawn := s.drawn, toks := tk', os := s.os }) (g : Heap) :
    LCt.CompRestT prog w A h₀ L m env (.Compare (.Name x p1) [.LtE] [.Name c p2] p3) (.Name x p4) x scope cl { s with heap := g } (LCg.SrcAt h₀ ax its) (fun i v => its[i]? = some v) (LCg.FinE h₀ L m { s with heap := g } Q) its.size 0 [] news := by
  have := restLe_aux (prog := prog) (w := w) (A := A) (L := L) (m := m) (env := env) (p1 := p1) (p2 := p2) (p3 := p3) (p4 := p4) (s := { s with heap := g }) (Fin := LCg.FinE h₀ L m { s with heap := g } Q) hk hx hc hxd hcd hcl hoc hd hS hI 0 []
    (fun j => by rw [Nat.zero_add, Array.getElem?_toList]) (fun zs hz D h' tk' F' N' o => h D zs h' tk' (by rw [hz, List.length_nil, Nat.zero_add]) F' N' o)
  rw [Array.length_toList] at this
  exact this

theorem compLe_ledger (hk : ∀ C, (compEnvC scope cl C env).scope.kind = .function) (hx : ∀ C, (compEnvC scope cl C env).kindOf x = some .local) (hc : ∀ C, (compEnvC scope cl C env).kindOf c = some .cell)
    (hxd : (x == ("__debug__" : Str)) = false) (hcd : (c == ("__debug__" : Str)) = false) (hh : A.handled = none) (F : Fr h₀ L s.heap m) (N : News h₀ L s.heap news)
    (hm : (ax, ({ cls := .type "list", data := .seq its k } : Obj)) ∈ news) (hsz : its.size ≤ sizeLine) (hI : IntsAre its.toList ns)
    (hcl : cl.lookup c = some ca) (hoc : (ca, oc) ∈ news) (hd : oc.data = .cell (some (.int b tb)))
    (h : ∀ D zs h' tk', zs.length = cnt ns b → Fr h₀ L h' m → News h₀ L h' ((D, LCg.lst zs) :: news) → LCg.Off1 D news → Q (.ref D) { heap := h', gens := s.gens, drawn := s.drawn, toks := tk', os := s.os }) :
    LCt.CompSrcT prog w A h₀ L m env (.Compare (.Name x p1) [.LtE] [.Name c p2] p3) (.Name x p4) x scope cl (fun s₂ => LCg.FinE h₀ L m s₂ Q) (.ref ax) s :=
  LCt.CompSrcT.ledger hh F N hm hsz (compLe_rest hk hx hc hxd hcd hcl hoc hd (.inr ⟨_, hm, rfl, _, rfl⟩) hI h)

theorem compLe_base (hk : ∀ C, (compEnvC scope cl C env).scope.kind = .function) (hx : ∀ C, (compEnvC scope cl C env).kindOf x = some .local) (hc : ∀ C, (compEnvC scope cl C env).kindOf c = some .cell)
    (hxd : (x == ("__debug__" : Str)) = false) (hcd : (c == ("__debug__" : Str)) = false) (hh : A.handled = none) (F : Fr h₀ L s.heap m) (N : News h₀ L s.heap news)
    (hl : h₀.IsList ax its) (hsz : its.size ≤ sizeLine) (hI : IntsAre its.toList ns)
    (hcl : cl.lookup c = some ca) (hoc : (ca, oc) ∈ news) (hd : oc.data = .cell (some (.int b tb)))
    (h : ∀ D zs h' tk', zs.length = cnt ns b → Fr h₀ L h' m → News h₀ L h' ((D, LCg.lst zs) :: news) → LCg.Off1 D news → Q (.ref D) { heap := h', gens := s.gens, drawn := s.drawn, toks := tk', os := s.os }) :
    LCt.CompSrcT prog w A h₀ L m env (.Compare (.Name x p1) [.LtE] [.Name c p2] p3) (.Name x p4) x scope cl (fun s₂ => LCg.FinE h₀ L m s₂ Q) (.ref ax) s :=
  LCt.CompSrcT.base hh F N hl hsz (compLe_rest hk hx hc hxd hcd hcl hoc hd (.inl hl) hI h)

theorem len_cnt {E : Value → Shared → Prop} {D : Addr} {zs : List Value} (N : News h₀ L s.heap ((D, LCg.lst zs) :: news)) (hz : zs.length = cnt ns b) (hn : ns.length < 2 ^ 62)
    (h : ∀ t' tk', News h₀ L s.heap news → Q (.int (cnt ns b) t') { heap := s.heap, gens := s.gens, drawn := s.drawn, toks := tk', os := s.os }) :
    wpAny (model prog w) A (call (.builtin "len") [.ref D]) Q E s := by
  have hl : s.heap.IsList D zs.toArray := ⟨_, (N _ List.mem_cons_self).1, rfl, _, rfl⟩
  have hs : zs.toArray.size = cnt ns b := by rw [List.size_toArray, hz]
  refine len_list hl ?_ ?_
  · rw [hs]; have := cnt_le ns b; omega
  · rw [hs]; exact h _ _ (fun p hp => N p (List.mem_cons_of_mem _ hp))
end
end

open PySem.Calls PySem.Spec

local macro_rules | `(tactic| walk_at "storeName") => `(tactic| (k_here; k_dflt
  (refine' storeInt ?F ?N ?_ ?a ?b; (case F => k_asm); (case N => k_asm); (case a => rfl); (case b => rfl); k_whole; intro h' t' tk' F' N'; (try dsimp only); (try k_sweep))))

/-- what a call leaves that hands back a new pair of a text and an int -/
def RetT (h₀ : Heap) (L : Addr) (m : Str → Option Value) (news : List (Addr × Obj)) (s : Shared) (k : Str) (i : Int) (v : Value) (s' : Shared) : Prop :=
  ∃ (D : Addr) (t1 t2 : Tok) (c : Nat) (h' : Heap) (tk' : Nat), v = .ref D ∧ s' = { s with heap := h', toks := tk' } ∧ Fr h₀ L h' m ∧ News h₀ L h' ((D, ({ cls := .type "tuple", data := .seq #[.str k t1, .int i t2] c } : Obj)) :: news) ∧ AllLt D news

theorem RetT.mk {h₀ h' : Heap} {L D : Addr} {m : Str → Option Value} {news news' : List (Addr × Obj)} {s : Shared} {k k' : Str} {i i' : Int} {t1 t2 : Tok} {c : Nat} {tk' : Nat}
    (F : Fr h₀ L h' m) (N : News h₀ L h' news') (hm : (D, ({ cls := .type "tuple", data := .seq #[.str k' t1, .int i' t2] c } : Obj)) ∈ news') (hs : ∀ p ∈ news, p ∈ news') (hl : AllLt D news) (ek : k' = k) (ei : i' = i) :
    RetT h₀ L m news s k i (.ref D) { heap := h', gens := s.gens, drawn := s.drawn, toks := tk', os := s.os } := by
  subst ek; subst ei
  refine ⟨D, t1, t2, c, h', tk', rfl, rfl, F, fun p hp => ?_, hl⟩
  rcases List.mem_cons.mp hp with rfl | hp
  · exact N _ hm
  · exact N p (hs p hp)

def ConT (n : Nat) (f : Addr) (vs : List Value) (k : Str) (i : Int) : Prop :=
  ∀ (w : World) (loose : List Str) (mean : ExcName → Option Value) (mg mb : Str → Option Value) (news : List (Addr × Obj))
    (dp un : Nat) (gd : Option (List Code)) (cn : Str) (cs : Scope) (a : Addr) (ccd : Value) (cl : List (Str × Addr)) (outer : List Env) (A₀ : Around) (base h₀ : Heap) (L : Addr) (m : Str → Option Value) (s : Shared),
    Below A₀ base outer h₀ → Fr h₀ L s.heap m → (hd.heap_39 w.params).In h₀ → News h₀ L s.heap news → Top hd.view_39 loose mean mg mb h₀ → cs.kind = .function → dp + n < recursionLimit → un + 8 * n < cLine →
      wpAny (model PySem.Challenge.rw_ah0009_01.row.prog w) (ktrTop dp un gd cn cs L a ccd cl outer) (call (.ref f) vs) (RetT h₀ L m news s k i) (fun _ _ => False) s

theorem AllLt.mono {a b : Nat} : ∀ {l : List (Addr × Obj)}, AllLt a l → a ≤ b → AllLt b l
  | [], _, _ => trivial
  | _ :: _, h, e => ⟨Nat.lt_of_lt_of_le h.1 e, AllLt.mono h.2 e⟩

-- the walk's loop: it halts at an end
local macro_rules | `(tactic| ktr_unf) => `(tactic|
  repeat' (first | (k_unfold; (try dsimp only)) | ((fail_if_success (first | (with_reducible show Ret _ _ _ _ _ _ _ _) | (with_reducible show RetT _ _ _ _ _ _ _ _ _))); first | walk1 | (dsimp only; walk1) | (leave1; walk_say "STEP leave1"; (try dsimp only)) | fail "no step")))
-- a contract's start
local macro_rules | `(tactic| ktr_rel) => `(tactic| (
  first | unfold Con | unfold ConT
  k_fill
  intro w loose mean mg mb news dp un gd cn cs a ccd cl outer A₀ base h₀ L m s B F X N T hk hd hu
  refine wpAny_call ?_
  (first | k_dflt cell_enter | fail "the def is not entered")
  ktr_unf))


local macro_rules | `(tactic| walk_at "call ref") => `(tactic| (k_here; k_dflt (
  (refine' Con.use ?kC ?k1 ?k2 ?k3 ?k4 ?k5 ?k6 ?k7 ?k8 ?_; (case kC => (first | exact leap_con _ _ | exact toJd_con _ _ _ _ _ _ (by first | assumption | omega) (by first | assumption | omega) | exact monthDays_con _ _ _ _ (by first | assumption | omega) | exact monthLen_con _ _ _ _ (by first | assumption | omega) | exact yearDays_con _ _ | exact toJd7_con _ _ _ _ _ | exact yearMonths_con _ _ | exact delay2_con _ _ | exact delay1_con _ _ | exact mid_con _ _)); (case k1 => k_asm); (case k2 => k_asm); (case k3 => k_asm); (case k4 => k_asm); (case k5 => k_asm); (case k6 => first | exact rfl | assumption); (case k7 => ktr_room); (case k8 => ktr_units); intro t9 h9 tk9 F9 N9; (try dsimp only); (try k_sweep)))))






theorem divmod_M {prog : Program} {w : World} {A : Around} {E : Value → Shared → Prop} {s : Shared} {a b : Int} {t u : Tok} {Q : Value → Shared → Prop} {h₀ : Heap} {L : Addr} {m : Str → Option Value} {news : List (Addr × Obj)} (F : Fr h₀ L s.heap m) (N : News h₀ L s.heap news) (hb : b ≠ 0)
    (h : ∀ D t1 t2 h' tk', Fr h₀ L h' m → News h₀ L h' ((D, ({ cls := .type "tuple", data := .seq #[.int (a.fdiv b) t1, .int (a.fmod b) t2] } : Obj)) :: news) → AllLt D news →
      Q (.ref D) { heap := h', gens := s.gens, drawn := s.drawn, toks := tk', os := s.os })
    (hp : Builtin.divisionGoesByPylong a b = false ∨ PySem.PylongRoom (model prog w) A s) :
    wpAny (model prog w) A (call (.builtin "divmod") [.int a t, .int b u]) Q E s :=
  divmod_N F N hb (fun h' F' N' => h _ _ _ h' _ F' N' (allLt_of fun p hp => Heap.lt_size (N p hp).1)) hp

theorem neOfAllLt {d e : Nat} : ∀ {l : List (Addr × Obj)}, AllLt d l → d ≤ e → ∀ p ∈ l, p.1 ≠ e
  | [], _, _ => fun _ hp => nomatch hp
  | q :: r, hl, h => fun p hp => by
    rcases List.mem_cons.mp hp with rfl | hp
    · exact Nat.ne_of_lt (Nat.lt_of_lt_of_le hl.1 h)
    · exact neOfAllLt hl.2 h p hp

theorem storeCellInt {M : Model} {A : Around} {E : Value → Shared → Prop} {s : Shared} {h₀ : Heap} {L a : Addr} {m : Str → Option Value} {cn : Str} {cs : Scope} {ccd : Value} {cl : List (Str × Addr)}
    {x : Str} {i : Int} {t : Tok} {Q : Unit → Shared → Prop} {news : List (Addr × Obj)} {g : Obj → List (Addr × Obj)} {c : Addr} {o : Obj} {v₀ : Option Value}
    (F : Fr h₀ L s.heap m) (N : News h₀ L s.heap news) (hc : cl.lookup x = some c) (U : UpdF c o news g) (hd : o.data = .cell v₀)
    (h : ∀ h' o' t', Fr h₀ L h' m → News h₀ L h' (g o') → o'.data = .cell (some (.int i t')) → Q () { heap := h', gens := s.gens, drawn := s.drawn, toks := s.toks, os := s.os })
    (hk : cs.kind = .function := by rfl) (hx : (envX cn cs L a ccd cl).kindOf x = some .cell := by rfl) : wpAny M A (storeName (envX cn cs L a ccd cl) x (.int i t)) Q E s :=
  storeX_C F N hc U hd (fun h' o' F' N' d' => h h' o' t F' N' d') hk hx

local macro_rules | `(tactic| walk_at "storeName") => `(tactic| (k_here; k_dflt (refine' Mine.storeCellInt ?F ?N ?c ?U ?d ?_ ?a ?b; (case a => rfl); (case b => rfl); (case F => k_asm); (case N => k_asm); (case c => rfl); (case U => k_updF); (case d => k_asm); k_whole; intro h' o' t' F' N' d'; (try dsimp only at N'); (try dsimp only); (try k_sweep))))
local macro_rules | `(tactic| k_all) => `(tactic| (exact neOfAllLt (by assumption) (by omega)))
local macro_rules | `(tactic| walk_at "call builtin:divmod") => `(tactic| (k_here; (with_reducible show wpAny _ _ (call (Value.builtin _) [Value.int _ _, Value.int _ _]) _ _ _); refine divmod_M (by k_asm) (by k_asm) (by decide) ?_ (by first | exact Or.inl (PyProof.noPylong_of_log2 (by decide +kernel)) | exact Or.inl (PyProof.noPylong_small (by omega))); intro D' t1' t2' h' tk' F' N' l1; (try simp only [AllLt, and_true] at l1); (try k_sweep)))

-- a def with cells, entered
local macro_rules | `(tactic| cell_enter) => `(tactic| (refine' code_defC ?k1 ?k2 ?k3 ?k4 ?k5 ?kA ?kF ?kK ?k6 ?k7 ?k8 ?k9 ?kB ?kD ?_ ?c2 ?c3 ?c4; (case kA => exact rfl); (case kF => exact rfl); (case kK => assumption); (case k1 => k_asm); (case k2 => k_asm); (case k3 => k_asm); (case k4 => k_asm); (case k5 => k_asm); (case k6 => k_is); (case k7 => k_is); (case k8 => ktr_room); (case k9 => exact BindsTo.of_eq rfl); (case kB => exact rfl); (case kD => decide +kernel); (case c2 => exact rfl); (case c3 => exact rfl); (case c4 => exact rfl); k_whole; intro g' L' h' tk' cells' FG' F' N' Y' B' X' T' l1; replace l1 := allLt_of l1; k_cells Y'; (try simp only [List.cons_append, List.nil_append] at N'); (try dsimp only); (try k_lift B'); (try k_fold)))


local macro_rules | `(tactic| cell_enter) => `(tactic| (refine' code_def ?k1 ?k2 ?k3 ?k4 ?k5 ?kA ?kF ?kK ?k6 ?k7 ?k8 ?k9 ?kB ?_ ?c2 ?c3 ?c4 ?c5; (case kA => exact rfl); (case kF => exact rfl); (case kK => first | assumption | exact rfl); (case k1 => k_asm); (case k2 => k_asm); (case k3 => k_asm); (case k4 => k_asm); (case k5 => k_asm); (case k6 => k_is); (case k7 => k_is); (case k8 => ktr_room); (case k9 => exact BindsTo.of_eq rfl); (case c5 => decide); (case kB => exact locs rfl); (case c2 => exact rfl); (case c3 => exact rfl); (case c4 => exact rfl); k_whole; intro g' L' h' FG' F' N' B' X' T'; (try dsimp only); (try k_lift B'); (try k_fold)))
local macro_rules | `(tactic| walk_at "call ref") => `(tactic| (k_here; k_dflt ((refine wpAny_call ?_); cell_enter)))
local macro_rules | `(tactic| walk_at "eval ListComp") => `(tactic| (k_here; lct_look; k_dflt (refine LCt.ListComp_T (F₀ := by k_asm) (by with_unfolding_all rfl) (by decide) (by rfl) (by decide) (by rfl) ?_)))
local macro_rules | `(tactic| walk_at "CompSrcT") => `(tactic| (k_here; k_dflt (refine' Mine.compLe_ledger ?a1 ?a2 ?a3 ?a4 ?a5 ?a6 ?k1 ?k2 ?k3 ?sz ?iz ?cl ?oc ?d ?_; (case a1 => exact fun _ => rfl); (case a2 => exact fun _ => rfl); (case a3 => exact fun _ => rfl); (case a4 => decide); (case a5 => decide); (case a6 => rfl); (case k1 => k_asm); (case k2 => k_asm); (case k3 => k_mem); (case sz => exact Nat.le_of_ble_eq_true rfl); (case iz => exact .cons _ _ (.cons _ _ (.cons _ _ (.cons _ _ (.cons _ _ (.cons _ _ (.cons _ _ .nil))))))); (case cl => rfl); (case oc => k_mem); (case d => k_asm); k_whole; intro D' zs' h' tk' hz' F' N' o1'; (try simp only [LCg.Off1, and_true] at o1'); (try dsimp only); (try k_sweep))))
local macro_rules | `(tactic| walk_at "call builtin:len") => `(tactic| (k_here; k_dflt ((with_reducible rename News _ _ _ ((_, LCg.lst _) :: _) => Nold'); refine Mine.len_cnt Nold' (by assumption) (by decide) ?_; intro t' tk' N'; clear Nold')))

def longs : List Int := [3, 6, 8, 11, 14, 17, 19]
def kindOf (y : Int) : Str :=
  if (longs.any fun x => x == (y - 1).fmod 19 + 1) = true then "long"
  else if (([2, 5, 10, 13, 16] : List Int).any fun x => x == (y - 1).fmod 19 + 1) = true then "ahead"
  else if (([7, 18] : List Int).any fun x => x == (y - 1).fmod 19 + 1) = true then "between"
  else "behind"
def moon0 (y : Int) : Int := (38004 + 765433 * (235 * (y - 1).fdiv 19 + 12 * (y - 1).fmod 19 + (cnt longs ((y - 1).fmod 19) : Int))).fmod 181440

theorem kindOf_1 {y : Int} (h1 : (([3, 6, 8, 11, 14, 17, 19] : List Int).any fun x => x == (y - 1).fmod 19 + 1) = true) : "long" = kindOf y := by
  unfold kindOf longs; rw [if_pos h1]
theorem kindOf_2 {y : Int} (h1 : (([3, 6, 8, 11, 14, 17, 19] : List Int).any fun x => x == (y - 1).fmod 19 + 1) = false) (h2 : (([2, 5, 10, 13, 16] : List Int).any fun x => x == (y - 1).fmod 19 + 1) = true) : "ahead" = kindOf y := by
  unfold kindOf longs; rw [h1, h2]; rfl
theorem kindOf_3 {y : Int} (h1 : (([3, 6, 8, 11, 14, 17, 19] : List Int).any fun x => x == (y - 1).fmod 19 + 1) = false) (h2 : (([2, 5, 10, 13, 16] : List Int).any fun x => x == (y - 1).fmod 19 + 1) = false)
    (h3 : (([7, 18] : List Int).any fun x => x == (y - 1).fmod 19 + 1) = true) : "between" = kindOf y := by
  unfold kindOf longs; rw [h1, h2, h3]; rfl
theorem kindOf_4 {y : Int} (h1 : (([3, 6, 8, 11, 14, 17, 19] : List Int).any fun x => x == (y - 1).fmod 19 + 1) = false) (h2 : (([2, 5, 10, 13, 16] : List Int).any fun x => x == (y - 1).fmod 19 + 1) = false)
    (h3 : (([7, 18] : List Int).any fun x => x == (y - 1).fmod 19 + 1) = false) : "behind" = kindOf y := by
  unfold kindOf longs; rw [h1, h2, h3]; rfl

theorem lawStart_con (y : Int) (t : Tok) : ConT 2 124 [.int y t] (kindOf y) (moon0 y) := by
  ktr_rel
  all_goals refine RetT.mk (by k_asm) (by assumption) (by k_mem) (by kcj_all) (AllLt.mono (by assumption) (by omega)) ?_ rfl
  all_goals first
    | exact kindOf_1 (by assumption)
    | exact kindOf_2 (by assumption) (by assumption)
    | exact kindOf_3 (by assumption) (by assumption) (by assumption)
    | exact kindOf_4 (by assumption) (by assumption) (by assumption)

section
open PySem.Calls PySem.Spec PyProof.V

section
variable {prog : Program} {w : World} {A : Around} {E : Value → Shared → Prop} {s : Shared} {env : Env} {h₀ : Heap} {x : Str} {body : List Stmt} {Q : Flow → Shared → Prop}

/-- a for over a range by ones, by what holds ahead of its turn i -/
theorem iter_rangeJ {r : Addr} {a₀ b₀ : Int} {t₀ u₀ v₀ : Tok} {n : Nat} {m₀ : Str → Option Value} {news : List (Addr × Obj)}
    (J : Nat → (Str → Option Value) → List (Addr × Obj) → Prop)
    (hh : A.handled = none) (hr : IsRange s.heap r a₀ b₀ 1 t₀ u₀ v₀) (hsmall : Builtin.Range.small a₀ b₀ 1 = true) (hn : Builtin.Range.rangeSize a₀ b₀ 1 = (n : Int)) (F : Fr h₀ env.locals s.heap m₀) (N : News h₀ env.locals s.heap news) (hJ : J 0 m₀ news)
    (turn : ∀ (i : Nat) t m₁ nx h tk own, i < n → nx.map (·.1) = news.map (·.1) → OwnOff own (news.map (·.1)) → J i m₁ nx → Fr h₀ env.locals h (fun y => if y = x then some (.int (a₀ + (i : Int)) t) else m₁ y) → News h₀ env.locals h (nx ++ own) →
      wpAny (model prog w) A (execs body env) (InvPostN h₀ env.locals (J (i + 1)) own (news.map (·.1)) { s with heap := h, toks := tk } Q) E { s with heap := h, toks := tk })
    (done : ∀ m₁ nx h tk, J n m₁ nx → Fr h₀ env.locals h m₁ → News h₀ env.locals h nx → Q .next { s with heap := h, toks := tk }) :
    wpAny (model prog w) A (pyIter (.ref r)) (fun it s₂ => LoopAtV prog w A h₀ env x body Q E it s₂) E s := by
  have off : ∀ q ∈ news, q.1 ∉ [s.heap.objs.size] := fun q hq e => absurd (Heap.lt_size (N q hq).1) ((List.mem_singleton.mp e) ▸ Nat.lt_irrefl _)
  refine wpAny_pyIter_range hr hsmall (loop_invN (n := n) J (Walks.range hh _ a₀ 1 n).bound ?_ ?_ off off ?_ (F.push _) ?_ hJ ?_ done)
  · exact fun e => absurd F.ns.lt ((List.mem_singleton.mp e) ▸ Nat.lt_irrefl _)
  · exact fun b hb => (List.mem_singleton.mp hb) ▸ next_is_new F
  · show IsRangeIter _ _ _ _ _
    rw [hn]
    simpa using Heap.get?_push_size _ rfl
  · exact fun p hp => ⟨Heap.get?_push_of_some _ (N p hp).1, (N p hp).2⟩
  · intro i v m₁ nx h tk own hin hP hadr ho hj F' N'
    obtain ⟨_, t, rfl⟩ := hP
    rw [Int.mul_one] at F'
    exact turn i t m₁ nx h tk own hin hadr ho hj F' N'
end

section
variable {M : Model} {A : Around} {E : Value → Shared → Prop} {s : Shared} {h₀ : Heap} {L a : Addr} {m : Str → Option Value} {cn : Str} {cs : Scope} {ccd : Value} {cl : List (Str × Addr)}
    {x : Str} {i : Int} {t : Tok} {Q : Unit → Shared → Prop} {news : List (Addr × Obj)}

/-- a store of an int of which we keep P alone -/
theorem storeIntP (P : Int → Prop) (hP : P i) (F : Fr h₀ L s.heap m) (N : News h₀ L s.heap news)
    (h : ∀ j, P j → ∀ h' t' tk', Fr h₀ L h' (fun y => if y = x then some (.int j t') else m y) → News h₀ L h' news → Q () { heap := h', gens := s.gens, drawn := s.drawn, toks := tk', os := s.os })
    (hk : cs.kind = .function := by rfl) (hx : (envX cn cs L a ccd cl).kindOf x = some .local := by rfl) : wpAny M A (storeName (envX cn cs L a ccd cl) x (.int i t)) Q E s :=
  storeX_L F N (fun h' F' N' => h i hP h' t _ F' N') hk hx

/-- a store of an int under another name for it -/
theorem storeIntE {i' : Int} (e : i = i') (F : Fr h₀ L s.heap m) (N : News h₀ L s.heap news)
    (h : ∀ h' t' tk', Fr h₀ L h' (fun y => if y = x then some (.int i' t') else m y) → News h₀ L h' news → Q () { heap := h', gens := s.gens, drawn := s.drawn, toks := tk', os := s.os })
    (hk : cs.kind = .function := by rfl) (hx : (envX cn cs L a ccd cl).kindOf x = some .local := by rfl) : wpAny M A (storeName (envX cn cs L a ccd cl) x (.int i t)) Q E s := by
  subst e
  exact storeX_L F N (fun h' F' N' => h h' t _ F' N') hk hx
theorem news_one {h : Heap} {c : Addr} {o : Obj} (N : News h₀ L h news) (hm : (c, o) ∈ news) : News h₀ L h [(c, o)] := fun p hp => (List.mem_singleton.mp hp) ▸ N _ hm
end
end

section
open PySem.Calls PySem.Spec

inductive Kind | long | ahead | between | behind

def kStr : Kind → Str
  | .long => "long" | .ahead => "ahead" | .between => "between" | .behind => "behind"
def gates : Kind → List Int
  | .long => [0, 28571, 51840, 77760, 96815, 129600, 158171]
  | .ahead => [0, 16404, 51840, 68244, 120084, 129600, 146004]
  | .between => [0, 16404, 49189, 68244, 120084, 129600, 146004]
  | .behind => [0, 16404, 49189, 68244, 120084, 129600, 136488]
def isLong : Kind → Bool
  | .long => true | _ => false
def many : Kind → Int
  | .long => 13 | _ => 12
def rowsA : Kind → Nat
  | .long => 111 | _ => 119
def gatesA : Kind → Nat
  | .long => 100 | .ahead => 101 | .between => 102 | .behind => 103
def rowA (k : Kind) (g : Int) : Nat := (match k with | .long => 104 | _ => 112) + g.toNat
def row0 (g : Int) : Int := ([0, 0, 1, 3, 3, 5, 5] : List Int).getD g.toNat 0
def row1 (k : Kind) (g : Int) : Int := (match k with | .long => ([383, 385, 384, 383, 385, 383, 385] : List Int) | _ => [353, 355, 354, 354, 355, 353, 355]).getD g.toNat 0
def kOf (y : Int) : Kind :=
  if (longs.any fun x => x == (y - 1).fmod 19 + 1) = true then .long
  else if (([2, 5, 10, 13, 16] : List Int).any fun x => x == (y - 1).fmod 19 + 1) = true then .ahead
  else if (([7, 18] : List Int).any fun x => x == (y - 1).fmod 19 + 1) = true then .between
  else .behind
theorem kindOf_eq (y : Int) : kindOf y = kStr (kOf y) := by
  unfold kindOf kOf
  repeat' split
  all_goals rfl

theorem gates_len (k : Kind) : (gates k).length = 7 := by cases k <;> rfl
theorem many_ge (k : Kind) : 12 ≤ many k := by cases k <;> decide
theorem many_le (k : Kind) : many k ≤ 13 := by cases k <;> decide

section
variable {w : World} {A : Around} {E : Value → Shared → Prop} {s : Shared} {h₀ : Heap} {L : Addr} {m : Str → Option Value} {Q : Value → Shared → Prop} {value slice : Expr} {u : Tok}

theorem gates_at (F : Fr h₀ L s.heap m) (X : (hd.heap_39 w.params).In h₀) (k : Kind) (h : ∀ tk', Q (.ref (gatesA k)) { heap := s.heap, gens := s.gens, drawn := s.drawn, toks := tk', os := s.os })
    (hs : subscripted slice false (.ref 99) (.str (kStr k) u) = operate [.ref 99, .str (kStr k) u] (getItem (.ref 99) (.str (kStr k) u))) :
    wpAny (model PySem.Challenge.rw_ah0009_01.row.prog w) A (subscriptTail value slice (.ref 99) (.str (kStr k) u)) Q E s := by
  cases k
  all_goals exact topItem_K F X (by rfl) (by k_keys) (by rfl) (h _) hs

theorem gates_list (X : (hd.heap_39 w.params).In h₀) (k : Kind) : ∃ its, h₀.IsList (gatesA k) its ∧ IntsAre its.toList (gates k) ∧ its.size ≤ sizeLine := by
  cases k
  · exact ⟨_, ⟨_, X 100 _ rfl, rfl, _, rfl⟩, .cons _ _ (.cons _ _ (.cons _ _ (.cons _ _ (.cons _ _ (.cons _ _ (.cons _ _ .nil)))))), Nat.le_of_ble_eq_true rfl⟩
  · exact ⟨_, ⟨_, X 101 _ rfl, rfl, _, rfl⟩, .cons _ _ (.cons _ _ (.cons _ _ (.cons _ _ (.cons _ _ (.cons _ _ (.cons _ _ .nil)))))), Nat.le_of_ble_eq_true rfl⟩
  · exact ⟨_, ⟨_, X 102 _ rfl, rfl, _, rfl⟩, .cons _ _ (.cons _ _ (.cons _ _ (.cons _ _ (.cons _ _ (.cons _ _ (.cons _ _ .nil)))))), Nat.le_of_ble_eq_true rfl⟩
  · exact ⟨_, ⟨_, X 103 _ rfl, rfl, _, rfl⟩, .cons _ _ (.cons _ _ (.cons _ _ (.cons _ _ (.cons _ _ (.cons _ _ (.cons _ _ .nil)))))), Nat.le_of_ble_eq_true rfl⟩

theorem rows_at (F : Fr h₀ L s.heap m) (X : (hd.heap_39 w.params).In h₀) (k : Kind) {g : Int} (h0 : 0 ≤ g) (h6 : g ≤ 6) (h : Q (.ref (rowA k g)) s)
    (hs : ∀ a : Addr, subscripted slice false (.ref a) (.int g u) = operate [.ref a, .int g u] (getItem (.ref a) (.int g u))) :
    wpAny (model PySem.Challenge.rw_ah0009_01.row.prog w) A (subscriptTail value slice (.ref (rowsA k)) (.int g u)) Q E s := by
  have hg : g = 0 ∨ g = 1 ∨ g = 2 ∨ g = 3 ∨ g = 4 ∨ g = 5 ∨ g = 6 := by omega
  have long : ∀ (g : Int) (v : Value), (hs : ∀ a : Addr, subscripted slice false (.ref a) (.int g u) = operate [.ref a, .int g u] (getItem (.ref a) (.int g u))) → 0 ≤ g → g ≤ 6 → ([.ref 104, .ref 105, .ref 106, .ref 107, .ref 108, .ref 109, .ref 110] : List Value)[g.toNat]? = some v → Q v s →
      wpAny (model PySem.Challenge.rw_ah0009_01.row.prog w) A (subscriptTail value slice (.ref 111) (.int g u)) Q E s :=
    fun g v hs a b e q => topList_K F X (l := [.ref 104, .ref 105, .ref 106, .ref 107, .ref 108, .ref 109, .ref 110]) (by rfl) a (by omega) e q (hs _)
  have short : ∀ (g : Int) (v : Value), (hs : ∀ a : Addr, subscripted slice false (.ref a) (.int g u) = operate [.ref a, .int g u] (getItem (.ref a) (.int g u))) → 0 ≤ g → g ≤ 6 → ([.ref 112, .ref 113, .ref 114, .ref 115, .ref 116, .ref 117, .ref 118] : List Value)[g.toNat]? = some v → Q v s →
      wpAny (model PySem.Challenge.rw_ah0009_01.row.prog w) A (subscriptTail value slice (.ref 119) (.int g u)) Q E s :=
    fun g v hs a b e q => topList_K F X (l := [.ref 112, .ref 113, .ref 114, .ref 115, .ref 116, .ref 117, .ref 118]) (by rfl) a (by omega) e q (hs _)
  cases k
  · rcases hg with rfl | rfl | rfl | rfl | rfl | rfl | rfl <;> exact long _ _ hs (by decide) (by decide) rfl h
  all_goals (rcases hg with rfl | rfl | rfl | rfl | rfl | rfl | rfl <;> exact short _ _ hs (by decide) (by decide) rfl h)

theorem row0_at (F : Fr h₀ L s.heap m) (X : (hd.heap_39 w.params).In h₀) (k : Kind) {g : Int} (h0 : 0 ≤ g) (h6 : g ≤ 6) (h : ∀ t, Q (.int (row0 g) t) s)
    (hs : ∀ a : Addr, subscripted slice false (.ref a) (.int 0 u) = operate [.ref a, .int 0 u] (getItem (.ref a) (.int 0 u))) :
    wpAny (model PySem.Challenge.rw_ah0009_01.row.prog w) A (subscriptTail value slice (.ref (rowA k g)) (.int 0 u)) Q E s := by
  have hg : g = 0 ∨ g = 1 ∨ g = 2 ∨ g = 3 ∨ g = 4 ∨ g = 5 ∨ g = 6 := by omega
  have at_ : ∀ (a : Addr) (i j : Int) (t t' : Tok) (n : Nat), (hd.heap_39 w.params).lookup a = some ⟨.type "tuple", none, .seq [Value.int i t, Value.int j t'].toArray n, #[]⟩ → Q (.int i t) s →
      wpAny (model PySem.Challenge.rw_ah0009_01.row.prog w) A (subscriptTail value slice (.ref a) (.int 0 u)) Q E s :=
    fun a i j t t' n e q => topTup_K F X e (by decide) (by decide) rfl rfl q (hs _)
  cases k <;> (rcases hg with rfl | rfl | rfl | rfl | rfl | rfl | rfl <;> exact at_ _ _ _ _ _ _ rfl (h _))

theorem row1_at (F : Fr h₀ L s.heap m) (X : (hd.heap_39 w.params).In h₀) (k : Kind) {g : Int} (h0 : 0 ≤ g) (h6 : g ≤ 6) (h : ∀ t, Q (.int (row1 k g) t) s)
    (hs : ∀ a : Addr, subscripted slice false (.ref a) (.int 1 u) = operate [.ref a, .int 1 u] (getItem (.ref a) (.int 1 u))) :
    wpAny (model PySem.Challenge.rw_ah0009_01.row.prog w) A (subscriptTail value slice (.ref (rowA k g)) (.int 1 u)) Q E s := by
  have hg : g = 0 ∨ g = 1 ∨ g = 2 ∨ g = 3 ∨ g = 4 ∨ g = 5 ∨ g = 6 := by omega
  have at_ : ∀ (a : Addr) (i j : Int) (t t' : Tok) (n : Nat), (hd.heap_39 w.params).lookup a = some ⟨.type "tuple", none, .seq [Value.int i t, Value.int j t'].toArray n, #[]⟩ → Q (.int j t') s →
      wpAny (model PySem.Challenge.rw_ah0009_01.row.prog w) A (subscriptTail value slice (.ref a) (.int 1 u)) Q E s :=
    fun a i j t t' n e q => topTup_K F X e (by decide) (by decide) rfl rfl q (hs _)
  cases k <;> (rcases hg with rfl | rfl | rfl | rfl | rfl | rfl | rfl <;> exact at_ _ _ _ _ _ _ rfl (h _))

theorem long_test (k : Kind) : (kStr k == Str.ofString "long") = isLong k := by
  cases k <;> decide

section
variable {cn : Str} {cs : Scope} {a : Addr} {ccd : Value} {cl : List (Str × Addr)} {p : Program} {loose : List Str} {mg mb : Str → Option Value} {x xa xb : Str} {p1 p2 p3 p4 p5 p6 : Pos} {n0 n1 n2 : Nat} {t : Tok} {k : Kind}

theorem isLong_test {Q : Bool → Shared → Prop} (F : Fr h₀ L s.heap m) (hv : m x = some (.str (kStr k) t)) (hk : cs.kind = .function) (hx : (envX cn cs L a ccd cl).kindOf x = some .local) (hd : (x == ("__debug__" : Str)) = false)
    (h : ∀ tk', Q (isLong k) { heap := s.heap, gens := s.gens, drawn := s.drawn, toks := tk', os := s.os }) :
    wpAny (model PySem.Challenge.rw_ah0009_01.row.prog w) A (isTrue (.Compare (.Name x p1) [.Eq] [.Constant (.str (Str.ofString "long")) n0 p2] p3) (envX cn cs L a ccd cl) (eval (.Compare (.Name x p1) [.Eq] [.Constant (.str (Str.ofString "long")) n0 p2] p3) (envX cn cs L a ccd cl))) Q E s :=
  wpAny_isTrue_Compare1 (nameX_L F hv (wpAny_Constant_str (eq_str (wpAny_truthy_bool (by rw [long_test]; exact h _)))) hk hx hd)

theorem ifRows (F : Fr h₀ L s.heap m) (X : (hd.heap_39 w.params).In h₀) (T : TopRead p loose mg mb h₀) (hv : m x = some (.str (kStr k) t))
    (ea : nsIn (hd.heap_39 w.params) mainGlobals xa = some (some (.ref 111))) (eb : nsIn (hd.heap_39 w.params) mainGlobals xb = some (some (.ref 119)))
    (hk : cs.kind = .function) (hx : (envX cn cs L a ccd cl).kindOf x = some .local) (hxa : (envX cn cs L a ccd cl).kindOf xa = some .globalImplicit) (hxb : (envX cn cs L a ccd cl).kindOf xb = some .globalImplicit)
    (hd : (x == ("__debug__" : Str)) = false) (hda : (xa == ("__debug__" : Str)) = false) (hdb : (xb == ("__debug__" : Str)) = false)
    (h : ∀ tk', Q (.ref (rowsA k)) { heap := s.heap, gens := s.gens, drawn := s.drawn, toks := tk', os := s.os }) :
    wpAny (model PySem.Challenge.rw_ah0009_01.row.prog w) A (eval (.IfExp (.Compare (.Name x p1) [.Eq] [.Constant (.str (Str.ofString "long")) n0 p2] p3) (.Name xa p4) (.Name xb p5) p6) (envX cn cs L a ccd cl)) Q E s := by
  refine IfExp_ (isLong_test F hv hk hx hd fun tk' => ?_)
  cases k
  · exact nameX_K F X T ea (h _) hk hxa hda
  all_goals exact nameX_K F X T eb (h _) hk hxb hdb

theorem ifMany (F : Fr h₀ L s.heap m) (hv : m x = some (.str (kStr k) t))
    (hk : cs.kind = .function) (hx : (envX cn cs L a ccd cl).kindOf x = some .local) (hd : (x == ("__debug__" : Str)) = false)
    (h : ∀ t' tk', Q (.int (many k) t') { heap := s.heap, gens := s.gens, drawn := s.drawn, toks := tk', os := s.os }) :
    wpAny (model PySem.Challenge.rw_ah0009_01.row.prog w) A (eval (.IfExp (.Compare (.Name x p1) [.Eq] [.Constant (.str (Str.ofString "long")) n0 p2] p3) (.Constant (.int 13) n1 p4) (.Constant (.int 12) n2 p5) p6) (envX cn cs L a ccd cl)) Q E s := by
  refine IfExp_ (isLong_test F hv hk hx hd fun tk' => ?_)
  cases k
  · exact wpAny_Constant_int (h _ _)
  all_goals exact wpAny_Constant_int (h _ _)

theorem compGates {env : Env} {c : Str} {scope : Scope} {ca : Addr} {oc : Obj} {b : Int} {tb : Tok} {news : List (Addr × Obj)}
    (hk : ∀ C, (compEnvC scope cl C env).scope.kind = .function) (hx : ∀ C, (compEnvC scope cl C env).kindOf x = some .local) (hc : ∀ C, (compEnvC scope cl C env).kindOf c = some .cell)
    (hxd : (x == ("__debug__" : Str)) = false) (hcd : (c == ("__debug__" : Str)) = false) (hh : A.handled = none) (F : Fr h₀ L s.heap m) (N : News h₀ L s.heap news) (X : (hd.heap_39 w.params).In h₀)
    (hcl : cl.lookup c = some ca) (hoc : (ca, oc) ∈ news) (hd : oc.data = .cell (some (.int b tb)))
    (h : ∀ D zs h' tk', zs.length = cnt (gates k) b → Fr h₀ L h' m → News h₀ L h' ((D, LCg.lst zs) :: news) → LCg.Off1 D news → Q (.ref D) { heap := h', gens := s.gens, drawn := s.drawn, toks := tk', os := s.os }) :
    LCt.CompSrcT PySem.Challenge.rw_ah0009_01.row.prog w A h₀ L m env (.Compare (.Name x p1) [.LtE] [.Name c p2] p3) (.Name x p4) x scope cl (fun s₂ => LCg.FinE h₀ L m s₂ Q) (.ref (gatesA k)) s := by
  obtain ⟨its, hl, hI, hsz⟩ := gates_list X k
  exact compLe_base hk hx hc hxd hcd hh F N hl hsz hI hcl hoc hd h

/-- (kind == 'long') as a value -/
theorem eqLong (h : ∀ tk', Q (.bool (isLong k)) { heap := s.heap, gens := s.gens, drawn := s.drawn, toks := tk', os := s.os }) :
    wpAny (model PySem.Challenge.rw_ah0009_01.row.prog w) A (compareOp .Eq (.str (kStr k) t) (.str (Str.ofString "long") u)) Q E s :=
  eq_str (by rw [long_test]; exact h _)
end
end
end

section
/-- the gate of a year's moon -/
def gI (k : Kind) (y : Int) : Int := (cnt (gates k) (moon0 y) : Int) - 1
theorem cnt_pos (k : Kind) {b : Int} (h : 0 ≤ b) : 1 ≤ cnt (gates k) b := by
  have : ∀ r : List Int, 1 ≤ cnt (0 :: r) b := fun r => by
    unfold cnt; rw [List.filter_cons_of_pos (by simpa using h)]; simp
  cases k <;> exact this _
theorem moon0_ge (y : Int) : 0 ≤ moon0 y := by unfold moon0; rw [Int.fmod_eq_emod_of_nonneg _ (by decide)]; exact Int.emod_nonneg _ (by decide)
theorem gI_ge (k : Kind) (y : Int) : 0 ≤ gI k y := by have := cnt_pos k (moon0_ge y); unfold gI; omega
theorem gI_le (k : Kind) (y : Int) : gI k y ≤ 6 := by have := cnt_le (gates k) (moon0 y); rw [gates_len] at this; unfold gI; omega


end

section
theorem cnt_nil (x : Int) : cnt [] x = 0 := rfl
theorem cnt_cons (a : Int) (r : List Int) (x : Int) : cnt (a :: r) x = (if a ≤ x then 1 else 0) + cnt r x := by
  unfold cnt
  by_cases h : a ≤ x
  · rw [List.filter_cons_of_pos (by simpa using h), if_pos h, List.length_cons, Nat.add_comm]
  · rw [List.filter_cons_of_neg (by simpa using h), if_neg h, Nat.zero_add]

/-- the day of the moon's day number z / 25920, put off as the first rule says -/
def G (d : Int) : Int := if 3 * d % 7 < 3 then d + 1 else d
def F (z : Int) : Int := G (z / 25920)
def pv : Kind → Int
  | .long => 12 | .ahead => 12 | .between => 13 | .behind => 13
def nx : Kind → Int
  | .long => 12 | .ahead => 13 | .between => 13 | .behind => 12
def put (fm f0 f1 : Int) : Int := if f1 - f0 = 356 then 2 else if f0 - fm = 382 then 1 else 0

def Claim (k : Kind) (x : Int) : Prop :=
  F x + put (F (x - 765433 * pv k)) (F x) (F (x + 765433 * many k)) = 1 + row0 ((cnt (gates k) x : Int) - 1) ∧
  F (x + 765433 * many k) + put (F x) (F (x + 765433 * many k)) (F (x + 765433 * (many k + nx k))) - (F x + put (F (x - 765433 * pv k)) (F x) (F (x + 765433 * many k))) = row1 k ((cnt (gates k) x : Int) - 1)

theorem claim_of (k : Kind) (i dm d0 d1 d2 : Int) {x : Int} (hm : 25920 * dm ≤ x - 765433 * pv k ∧ x - 765433 * pv k < 25920 * (dm + 1)) (h0 : 25920 * d0 ≤ x ∧ x < 25920 * (d0 + 1))
    (h1 : 25920 * d1 ≤ x + 765433 * many k ∧ x + 765433 * many k < 25920 * (d1 + 1)) (h2 : 25920 * d2 ≤ x + 765433 * (many k + nx k) ∧ x + 765433 * (many k + nx k) < 25920 * (d2 + 1)) (hg : (cnt (gates k) x : Int) - 1 = i)
    (hc : G d0 + put (G dm) (G d0) (G d1) = 1 + row0 i ∧ G d1 + put (G d0) (G d1) (G d2) - (G d0 + put (G dm) (G d0) (G d1)) = row1 k i) : Claim k x := by
  have em : F (x - 765433 * pv k) = G dm := by unfold F; rw [show (x - 765433 * pv k) / 25920 = dm by omega]
  have e0 : F x = G d0 := by unfold F; rw [show x / 25920 = d0 by omega]
  have e1 : F (x + 765433 * many k) = G d1 := by unfold F; rw [show (x + 765433 * many k) / 25920 = d1 by omega]
  have e2 : F (x + 765433 * (many k + nx k)) = G d2 := by unfold F; rw [show (x + 765433 * (many k + nx k)) / 25920 = d2 by omega]
  unfold Claim
  rw [hg, em, e0, e1, e2]
  exact hc

theorem cnt_long_0 {x : Int} (h0 : 0 ≤ x) (h1 : x < 28571) : (cnt (gates .long) x : Int) - 1 = 0 := by
  simp only [gates, cnt_cons, cnt_nil]
  rw [if_pos (show (0 : Int) ≤ x by omega)]; rw [if_neg (show ¬ (28571 : Int) ≤ x by omega)]; rw [if_neg (show ¬ (51840 : Int) ≤ x by omega)]; rw [if_neg (show ¬ (77760 : Int) ≤ x by omega)]; rw [if_neg (show ¬ (96815 : Int) ≤ x by omega)]; rw [if_neg (show ¬ (129600 : Int) ≤ x by omega)]; rw [if_neg (show ¬ (158171 : Int) ≤ x by omega)]; rfl
theorem cnt_long_1 {x : Int} (h0 : 28571 ≤ x) (h1 : x < 51840) : (cnt (gates .long) x : Int) - 1 = 1 := by
  simp only [gates, cnt_cons, cnt_nil]
  rw [if_pos (show (0 : Int) ≤ x by omega)]; rw [if_pos (show (28571 : Int) ≤ x by omega)]; rw [if_neg (show ¬ (51840 : Int) ≤ x by omega)]; rw [if_neg (show ¬ (77760 : Int) ≤ x by omega)]; rw [if_neg (show ¬ (96815 : Int) ≤ x by omega)]; rw [if_neg (show ¬ (129600 : Int) ≤ x by omega)]; rw [if_neg (show ¬ (158171 : Int) ≤ x by omega)]; rfl
theorem cnt_long_2 {x : Int} (h0 : 51840 ≤ x) (h1 : x < 77760) : (cnt (gates .long) x : Int) - 1 = 2 := by
  simp only [gates, cnt_cons, cnt_nil]
  rw [if_pos (show (0 : Int) ≤ x by omega)]; rw [if_pos (show (28571 : Int) ≤ x by omega)]; rw [if_pos (show (51840 : Int) ≤ x by omega)]; rw [if_neg (show ¬ (77760 : Int) ≤ x by omega)]; rw [if_neg (show ¬ (96815 : Int) ≤ x by omega)]; rw [if_neg (show ¬ (129600 : Int) ≤ x by omega)]; rw [if_neg (show ¬ (158171 : Int) ≤ x by omega)]; rfl
theorem cnt_long_3 {x : Int} (h0 : 77760 ≤ x) (h1 : x < 96815) : (cnt (gates .long) x : Int) - 1 = 3 := by
  simp only [gates, cnt_cons, cnt_nil]
  rw [if_pos (show (0 : Int) ≤ x by omega)]; rw [if_pos (show (28571 : Int) ≤ x by omega)]; rw [if_pos (show (51840 : Int) ≤ x by omega)]; rw [if_pos (show (77760 : Int) ≤ x by omega)]; rw [if_neg (show ¬ (96815 : Int) ≤ x by omega)]; rw [if_neg (show ¬ (129600 : Int) ≤ x by omega)]; rw [if_neg (show ¬ (158171 : Int) ≤ x by omega)]; rfl
theorem cnt_long_4 {x : Int} (h0 : 96815 ≤ x) (h1 : x < 129600) : (cnt (gates .long) x : Int) - 1 = 4 := by
  simp only [gates, cnt_cons, cnt_nil]
  rw [if_pos (show (0 : Int) ≤ x by omega)]; rw [if_pos (show (28571 : Int) ≤ x by omega)]; rw [if_pos (show (51840 : Int) ≤ x by omega)]; rw [if_pos (show (77760 : Int) ≤ x by omega)]; rw [if_pos (show (96815 : Int) ≤ x by omega)]; rw [if_neg (show ¬ (129600 : Int) ≤ x by omega)]; rw [if_neg (show ¬ (158171 : Int) ≤ x by omega)]; rfl
theorem cnt_long_5 {x : Int} (h0 : 129600 ≤ x) (h1 : x < 158171) : (cnt (gates .long) x : Int) - 1 = 5 := by
  simp only [gates, cnt_cons, cnt_nil]
  rw [if_pos (show (0 : Int) ≤ x by omega)]; rw [if_pos (show (28571 : Int) ≤ x by omega)]; rw [if_pos (show (51840 : Int) ≤ x by omega)]; rw [if_pos (show (77760 : Int) ≤ x by omega)]; rw [if_pos (show (96815 : Int) ≤ x by omega)]; rw [if_pos (show (129600 : Int) ≤ x by omega)]; rw [if_neg (show ¬ (158171 : Int) ≤ x by omega)]; rfl
theorem cnt_long_6 {x : Int} (h0 : 158171 ≤ x) (h1 : x < 181440) : (cnt (gates .long) x : Int) - 1 = 6 := by
  simp only [gates, cnt_cons, cnt_nil]
  rw [if_pos (show (0 : Int) ≤ x by omega)]; rw [if_pos (show (28571 : Int) ≤ x by omega)]; rw [if_pos (show (51840 : Int) ≤ x by omega)]; rw [if_pos (show (77760 : Int) ≤ x by omega)]; rw [if_pos (show (96815 : Int) ≤ x by omega)]; rw [if_pos (show (129600 : Int) ≤ x by omega)]; rw [if_pos (show (158171 : Int) ≤ x by omega)]; rfl
theorem cnt_ahead_0 {x : Int} (h0 : 0 ≤ x) (h1 : x < 16404) : (cnt (gates .ahead) x : Int) - 1 = 0 := by
  simp only [gates, cnt_cons, cnt_nil]
  rw [if_pos (show (0 : Int) ≤ x by omega)]; rw [if_neg (show ¬ (16404 : Int) ≤ x by omega)]; rw [if_neg (show ¬ (51840 : Int) ≤ x by omega)]; rw [if_neg (show ¬ (68244 : Int) ≤ x by omega)]; rw [if_neg (show ¬ (120084 : Int) ≤ x by omega)]; rw [if_neg (show ¬ (129600 : Int) ≤ x by omega)]; rw [if_neg (show ¬ (146004 : Int) ≤ x by omega)]; rfl
theorem cnt_ahead_1 {x : Int} (h0 : 16404 ≤ x) (h1 : x < 51840) : (cnt (gates .ahead) x : Int) - 1 = 1 := by
  simp only [gates, cnt_cons, cnt_nil]
  rw [if_pos (show (0 : Int) ≤ x by omega)]; rw [if_pos (show (16404 : Int) ≤ x by omega)]; rw [if_neg (show ¬ (51840 : Int) ≤ x by omega)]; rw [if_neg (show ¬ (68244 : Int) ≤ x by omega)]; rw [if_neg (show ¬ (120084 : Int) ≤ x by omega)]; rw [if_neg (show ¬ (129600 : Int) ≤ x by omega)]; rw [if_neg (show ¬ (146004 : Int) ≤ x by omega)]; rfl
theorem cnt_ahead_2 {x : Int} (h0 : 51840 ≤ x) (h1 : x < 68244) : (cnt (gates .ahead) x : Int) - 1 = 2 := by
  simp only [gates, cnt_cons, cnt_nil]
  rw [if_pos (show (0 : Int) ≤ x by omega)]; rw [if_pos (show (16404 : Int) ≤ x by omega)]; rw [if_pos (show (51840 : Int) ≤ x by omega)]; rw [if_neg (show ¬ (68244 : Int) ≤ x by omega)]; rw [if_neg (show ¬ (120084 : Int) ≤ x by omega)]; rw [if_neg (show ¬ (129600 : Int) ≤ x by omega)]; rw [if_neg (show ¬ (146004 : Int) ≤ x by omega)]; rfl
theorem cnt_ahead_3 {x : Int} (h0 : 68244 ≤ x) (h1 : x < 120084) : (cnt (gates .ahead) x : Int) - 1 = 3 := by
  simp only [gates, cnt_cons, cnt_nil]
  rw [if_pos (show (0 : Int) ≤ x by omega)]; rw [if_pos (show (16404 : Int) ≤ x by omega)]; rw [if_pos (show (51840 : Int) ≤ x by omega)]; rw [if_pos (show (68244 : Int) ≤ x by omega)]; rw [if_neg (show ¬ (120084 : Int) ≤ x by omega)]; rw [if_neg (show ¬ (129600 : Int) ≤ x by omega)]; rw [if_neg (show ¬ (146004 : Int) ≤ x by omega)]; rfl
theorem cnt_ahead_4 {x : Int} (h0 : 120084 ≤ x) (h1 : x < 129600) : (cnt (gates .ahead) x : Int) - 1 = 4 := by
  simp only [gates, cnt_cons, cnt_nil]
  rw [if_pos (show (0 : Int) ≤ x by omega)]; rw [if_pos (show (16404 : Int) ≤ x by omega)]; rw [if_pos (show (51840 : Int) ≤ x by omega)]; rw [if_pos (show (68244 : Int) ≤ x by omega)]; rw [if_pos (show (120084 : Int) ≤ x by omega)]; rw [if_neg (show ¬ (129600 : Int) ≤ x by omega)]; rw [if_neg (show ¬ (146004 : Int) ≤ x by omega)]; rfl
theorem cnt_ahead_5 {x : Int} (h0 : 129600 ≤ x) (h1 : x < 146004) : (cnt (gates .ahead) x : Int) - 1 = 5 := by
  simp only [gates, cnt_cons, cnt_nil]
  rw [if_pos (show (0 : Int) ≤ x by omega)]; rw [if_pos (show (16404 : Int) ≤ x by omega)]; rw [if_pos (show (51840 : Int) ≤ x by omega)]; rw [if_pos (show (68244 : Int) ≤ x by omega)]; rw [if_pos (show (120084 : Int) ≤ x by omega)]; rw [if_pos (show (129600 : Int) ≤ x by omega)]; rw [if_neg (show ¬ (146004 : Int) ≤ x by omega)]; rfl
theorem cnt_ahead_6 {x : Int} (h0 : 146004 ≤ x) (h1 : x < 181440) : (cnt (gates .ahead) x : Int) - 1 = 6 := by
  simp only [gates, cnt_cons, cnt_nil]
  rw [if_pos (show (0 : Int) ≤ x by omega)]; rw [if_pos (show (16404 : Int) ≤ x by omega)]; rw [if_pos (show (51840 : Int) ≤ x by omega)]; rw [if_pos (show (68244 : Int) ≤ x by omega)]; rw [if_pos (show (120084 : Int) ≤ x by omega)]; rw [if_pos (show (129600 : Int) ≤ x by omega)]; rw [if_pos (show (146004 : Int) ≤ x by omega)]; rfl
theorem cnt_between_0 {x : Int} (h0 : 0 ≤ x) (h1 : x < 16404) : (cnt (gates .between) x : Int) - 1 = 0 := by
  simp only [gates, cnt_cons, cnt_nil]
  rw [if_pos (show (0 : Int) ≤ x by omega)]; rw [if_neg (show ¬ (16404 : Int) ≤ x by omega)]; rw [if_neg (show ¬ (49189 : Int) ≤ x by omega)]; rw [if_neg (show ¬ (68244 : Int) ≤ x by omega)]; rw [if_neg (show ¬ (120084 : Int) ≤ x by omega)]; rw [if_neg (show ¬ (129600 : Int) ≤ x by omega)]; rw [if_neg (show ¬ (146004 : Int) ≤ x by omega)]; rfl
theorem cnt_between_1 {x : Int} (h0 : 16404 ≤ x) (h1 : x < 49189) : (cnt (gates .between) x : Int) - 1 = 1 := by
  simp only [gates, cnt_cons, cnt_nil]
  rw [if_pos (show (0 : Int) ≤ x by omega)]; rw [if_pos (show (16404 : Int) ≤ x by omega)]; rw [if_neg (show ¬ (49189 : Int) ≤ x by omega)]; rw [if_neg (show ¬ (68244 : Int) ≤ x by omega)]; rw [if_neg (show ¬ (120084 : Int) ≤ x by omega)]; rw [if_neg (show ¬ (129600 : Int) ≤ x by omega)]; rw [if_neg (show ¬ (146004 : Int) ≤ x by omega)]; rfl
theorem cnt_between_2 {x : Int} (h0 : 49189 ≤ x) (h1 : x < 68244) : (cnt (gates .between) x : Int) - 1 = 2 := by
  simp only [gates, cnt_cons, cnt_nil]
  rw [if_pos (show (0 : Int) ≤ x by omega)]; rw [if_pos (show (16404 : Int) ≤ x by omega)]; rw [if_pos (show (49189 : Int) ≤ x by omega)]; rw [if_neg (show ¬ (68244 : Int) ≤ x by omega)]; rw [if_neg (show ¬ (120084 : Int) ≤ x by omega)]; rw [if_neg (show ¬ (129600 : Int) ≤ x by omega)]; rw [if_neg (show ¬ (146004 : Int) ≤ x by omega)]; rfl
theorem cnt_between_3 {x : Int} (h0 : 68244 ≤ x) (h1 : x < 120084) : (cnt (gates .between) x : Int) - 1 = 3 := by
  simp only [gates, cnt_cons, cnt_nil]
  rw [if_pos (show (0 : Int) ≤ x by omega)]; rw [if_pos (show (16404 : Int) ≤ x by omega)]; rw [if_pos (show (49189 : Int) ≤ x by omega)]; rw [if_pos (show (68244 : Int) ≤ x by omega)]; rw [if_neg (show ¬ (120084 : Int) ≤ x by omega)]; rw [if_neg (show ¬ (129600 : Int) ≤ x by omega)]; rw [if_neg (show ¬ (146004 : Int) ≤ x by omega)]; rfl
theorem cnt_between_4 {x : Int} (h0 : 120084 ≤ x) (h1 : x < 129600) : (cnt (gates .between) x : Int) - 1 = 4 := by
  simp only [gates, cnt_cons, cnt_nil]
  rw [if_pos (show (0 : Int) ≤ x by omega)]; rw [if_pos (show (16404 : Int) ≤ x by omega)]; rw [if_pos (show (49189 : Int) ≤ x by omega)]; rw [if_pos (show (68244 : Int) ≤ x by omega)]; rw [if_pos (show (120084 : Int) ≤ x by omega)]; rw [if_neg (show ¬ (129600 : Int) ≤ x by omega)]; rw [if_neg (show ¬ (146004 : Int) ≤ x by omega)]; rfl
theorem cnt_between_5 {x : Int} (h0 : 129600 ≤ x) (h1 : x < 146004) : (cnt (gates .between) x : Int) - 1 = 5 := by
  simp only [gates, cnt_cons, cnt_nil]
  rw [if_pos (show (0 : Int) ≤ x by omega)]; rw [if_pos (show (16404 : Int) ≤ x by omega)]; rw [if_pos (show (49189 : Int) ≤ x by omega)]; rw [if_pos (show (68244 : Int) ≤ x by omega)]; rw [if_pos (show (120084 : Int) ≤ x by omega)]; rw [if_pos (show (129600 : Int) ≤ x by omega)]; rw [if_neg (show ¬ (146004 : Int) ≤ x by omega)]; rfl
theorem cnt_between_6 {x : Int} (h0 : 146004 ≤ x) (h1 : x < 181440) : (cnt (gates .between) x : Int) - 1 = 6 := by
  simp only [gates, cnt_cons, cnt_nil]
  rw [if_pos (show (0 : Int) ≤ x by omega)]; rw [if_pos (show (16404 : Int) ≤ x by omega)]; rw [if_pos (show (49189 : Int) ≤ x by omega)]; rw [if_pos (show (68244 : Int) ≤ x by omega)]; rw [if_pos (show (120084 : Int) ≤ x by omega)]; rw [if_pos (show (129600 : Int) ≤ x by omega)]; rw [if_pos (show (146004 : Int) ≤ x by omega)]; rfl
theorem cnt_behind_0 {x : Int} (h0 : 0 ≤ x) (h1 : x < 16404) : (cnt (gates .behind) x : Int) - 1 = 0 := by
  simp only [gates, cnt_cons, cnt_nil]
  rw [if_pos (show (0 : Int) ≤ x by omega)]; rw [if_neg (show ¬ (16404 : Int) ≤ x by omega)]; rw [if_neg (show ¬ (49189 : Int) ≤ x by omega)]; rw [if_neg (show ¬ (68244 : Int) ≤ x by omega)]; rw [if_neg (show ¬ (120084 : Int) ≤ x by omega)]; rw [if_neg (show ¬ (129600 : Int) ≤ x by omega)]; rw [if_neg (show ¬ (136488 : Int) ≤ x by omega)]; rfl
theorem cnt_behind_1 {x : Int} (h0 : 16404 ≤ x) (h1 : x < 49189) : (cnt (gates .behind) x : Int) - 1 = 1 := by
  simp only [gates, cnt_cons, cnt_nil]
  rw [if_pos (show (0 : Int) ≤ x by omega)]; rw [if_pos (show (16404 : Int) ≤ x by omega)]; rw [if_neg (show ¬ (49189 : Int) ≤ x by omega)]; rw [if_neg (show ¬ (68244 : Int) ≤ x by omega)]; rw [if_neg (show ¬ (120084 : Int) ≤ x by omega)]; rw [if_neg (show ¬ (129600 : Int) ≤ x by omega)]; rw [if_neg (show ¬ (136488 : Int) ≤ x by omega)]; rfl
theorem cnt_behind_2 {x : Int} (h0 : 49189 ≤ x) (h1 : x < 68244) : (cnt (gates .behind) x : Int) - 1 = 2 := by
  simp only [gates, cnt_cons, cnt_nil]
  rw [if_pos (show (0 : Int) ≤ x by omega)]; rw [if_pos (show (16404 : Int) ≤ x by omega)]; rw [if_pos (show (49189 : Int) ≤ x by omega)]; rw [if_neg (show ¬ (68244 : Int) ≤ x by omega)]; rw [if_neg (show ¬ (120084 : Int) ≤ x by omega)]; rw [if_neg (show ¬ (129600 : Int) ≤ x by omega)]; rw [if_neg (show ¬ (136488 : Int) ≤ x by omega)]; rfl
theorem cnt_behind_3 {x : Int} (h0 : 68244 ≤ x) (h1 : x < 120084) : (cnt (gates .behind) x : Int) - 1 = 3 := by
  simp only [gates, cnt_cons, cnt_nil]
  rw [if_pos (show (0 : Int) ≤ x by omega)]; rw [if_pos (show (16404 : Int) ≤ x by omega)]; rw [if_pos (show (49189 : Int) ≤ x by omega)]; rw [if_pos (show (68244 : Int) ≤ x by omega)]; rw [if_neg (show ¬ (120084 : Int) ≤ x by omega)]; rw [if_neg (show ¬ (129600 : Int) ≤ x by omega)]; rw [if_neg (show ¬ (136488 : Int) ≤ x by omega)]; rfl
theorem cnt_behind_4 {x : Int} (h0 : 120084 ≤ x) (h1 : x < 129600) : (cnt (gates .behind) x : Int) - 1 = 4 := by
  simp only [gates, cnt_cons, cnt_nil]
  rw [if_pos (show (0 : Int) ≤ x by omega)]; rw [if_pos (show (16404 : Int) ≤ x by omega)]; rw [if_pos (show (49189 : Int) ≤ x by omega)]; rw [if_pos (show (68244 : Int) ≤ x by omega)]; rw [if_pos (show (120084 : Int) ≤ x by omega)]; rw [if_neg (show ¬ (129600 : Int) ≤ x by omega)]; rw [if_neg (show ¬ (136488 : Int) ≤ x by omega)]; rfl
theorem cnt_behind_5 {x : Int} (h0 : 129600 ≤ x) (h1 : x < 136488) : (cnt (gates .behind) x : Int) - 1 = 5 := by
  simp only [gates, cnt_cons, cnt_nil]
  rw [if_pos (show (0 : Int) ≤ x by omega)]; rw [if_pos (show (16404 : Int) ≤ x by omega)]; rw [if_pos (show (49189 : Int) ≤ x by omega)]; rw [if_pos (show (68244 : Int) ≤ x by omega)]; rw [if_pos (show (120084 : Int) ≤ x by omega)]; rw [if_pos (show (129600 : Int) ≤ x by omega)]; rw [if_neg (show ¬ (136488 : Int) ≤ x by omega)]; rfl
theorem cnt_behind_6 {x : Int} (h0 : 136488 ≤ x) (h1 : x < 181440) : (cnt (gates .behind) x : Int) - 1 = 6 := by
  simp only [gates, cnt_cons, cnt_nil]
  rw [if_pos (show (0 : Int) ≤ x by omega)]; rw [if_pos (show (16404 : Int) ≤ x by omega)]; rw [if_pos (show (49189 : Int) ≤ x by omega)]; rw [if_pos (show (68244 : Int) ≤ x by omega)]; rw [if_pos (show (120084 : Int) ≤ x by omega)]; rw [if_pos (show (129600 : Int) ≤ x by omega)]; rw [if_pos (show (136488 : Int) ≤ x by omega)]; rfl

theorem ltOrGe (a b : Int) : a < b ∨ b ≤ a := by omega
def gLo : Kind → Nat → Int
  | .long, 0 => 0
  | .long, 1 => 28571
  | .long, 2 => 51840
  | .long, 3 => 77760
  | .long, 4 => 96815
  | .long, 5 => 129600
  | .long, 6 => 158171
  | .ahead, 0 => 0
  | .ahead, 1 => 16404
  | .ahead, 2 => 51840
  | .ahead, 3 => 68244
  | .ahead, 4 => 120084
  | .ahead, 5 => 129600
  | .ahead, 6 => 146004
  | .between, 0 => 0
  | .between, 1 => 16404
  | .between, 2 => 49189
  | .between, 3 => 68244
  | .between, 4 => 120084
  | .between, 5 => 129600
  | .between, 6 => 146004
  | .behind, 0 => 0
  | .behind, 1 => 16404
  | .behind, 2 => 49189
  | .behind, 3 => 68244
  | .behind, 4 => 120084
  | .behind, 5 => 129600
  | .behind, 6 => 136488
  | _, _ => 181440
def gHi : Kind → Nat → Int
  | .long, 0 => 28571
  | .long, 1 => 51840
  | .long, 2 => 77760
  | .long, 3 => 96815
  | .long, 4 => 129600
  | .long, 5 => 158171
  | .long, 6 => 181440
  | .ahead, 0 => 16404
  | .ahead, 1 => 51840
  | .ahead, 2 => 68244
  | .ahead, 3 => 120084
  | .ahead, 4 => 129600
  | .ahead, 5 => 146004
  | .ahead, 6 => 181440
  | .between, 0 => 16404
  | .between, 1 => 49189
  | .between, 2 => 68244
  | .between, 3 => 120084
  | .between, 4 => 129600
  | .between, 5 => 146004
  | .between, 6 => 181440
  | .behind, 0 => 16404
  | .behind, 1 => 49189
  | .behind, 2 => 68244
  | .behind, 3 => 120084
  | .behind, 4 => 129600
  | .behind, 5 => 136488
  | .behind, 6 => 181440
  | _, _ => 0
theorem gate_at {x : Int} : ∀ (k : Kind) (i : Nat), gLo k i ≤ x → x < gHi k i → i < 7 → (cnt (gates k) x : Int) - 1 = (i : Int)
  | .long, 0, h, h', _ => cnt_long_0 h h'
  | .long, 1, h, h', _ => cnt_long_1 h h'
  | .long, 2, h, h', _ => cnt_long_2 h h'
  | .long, 3, h, h', _ => cnt_long_3 h h'
  | .long, 4, h, h', _ => cnt_long_4 h h'
  | .long, 5, h, h', _ => cnt_long_5 h h'
  | .long, 6, h, h', _ => cnt_long_6 h h'
  | .ahead, 0, h, h', _ => cnt_ahead_0 h h'
  | .ahead, 1, h, h', _ => cnt_ahead_1 h h'
  | .ahead, 2, h, h', _ => cnt_ahead_2 h h'
  | .ahead, 3, h, h', _ => cnt_ahead_3 h h'
  | .ahead, 4, h, h', _ => cnt_ahead_4 h h'
  | .ahead, 5, h, h', _ => cnt_ahead_5 h h'
  | .ahead, 6, h, h', _ => cnt_ahead_6 h h'
  | .between, 0, h, h', _ => cnt_between_0 h h'
  | .between, 1, h, h', _ => cnt_between_1 h h'
  | .between, 2, h, h', _ => cnt_between_2 h h'
  | .between, 3, h, h', _ => cnt_between_3 h h'
  | .between, 4, h, h', _ => cnt_between_4 h h'
  | .between, 5, h, h', _ => cnt_between_5 h h'
  | .between, 6, h, h', _ => cnt_between_6 h h'
  | .behind, 0, h, h', _ => cnt_behind_0 h h'
  | .behind, 1, h, h', _ => cnt_behind_1 h h'
  | .behind, 2, h, h', _ => cnt_behind_2 h h'
  | .behind, 3, h, h', _ => cnt_behind_3 h h'
  | .behind, 4, h, h', _ => cnt_behind_4 h h'
  | .behind, 5, h, h', _ => cnt_behind_5 h h'
  | .behind, 6, h, h', _ => cnt_behind_6 h h'
  | _, n + 7, _, _, h => absurd h (by omega)
theorem claim_at (k : Kind) (i : Nat) (dm d0 d1 d2 a b : Int) {x : Int} (l : a ≤ x) (h : x < b)
    (hc : (25920 * dm ≤ a - 765433 * pv k ∧ b - 765433 * pv k ≤ 25920 * (dm + 1)) ∧ (25920 * d0 ≤ a ∧ b ≤ 25920 * (d0 + 1)) ∧ (25920 * d1 ≤ a + 765433 * many k ∧ b + 765433 * many k ≤ 25920 * (d1 + 1)) ∧
      (25920 * d2 ≤ a + 765433 * (many k + nx k) ∧ b + 765433 * (many k + nx k) ≤ 25920 * (d2 + 1)) ∧ (gLo k i ≤ a ∧ b ≤ gHi k i ∧ i < 7) ∧
      (G d0 + put (G dm) (G d0) (G d1) = 1 + row0 (i : Int) ∧ G d1 + put (G d0) (G d1) (G d2) - (G d0 + put (G dm) (G d0) (G d1)) = row1 k (i : Int))) : Claim k x := by
  obtain ⟨c1, c2, c3, c4, c5, c6⟩ := hc
  exact claim_of k i dm d0 d1 d2 ⟨by omega, by omega⟩ ⟨by omega, by omega⟩ ⟨by omega, by omega⟩ ⟨by omega, by omega⟩ (gate_at k i (by omega) (by omega) c5.2.2) c6


theorem claim_long {x : Int} (h0 : 0 ≤ x) (h1 : x < 181440) : Claim .long x := by
  rcases ltOrGe x 2651 with h | l
  · exact claim_at .long 0 (-355) 0 383 738 0 2651 h0 h (by decide)
  rcases ltOrGe x 9516 with h | l'
  · exact claim_at .long 0 (-355) 0 384 738 2651 9516 l h (by decide)
  replace l := l'
  rcases ltOrGe x 19055 with h | l'
  · exact claim_at .long 0 (-354) 0 384 738 9516 19055 l h (by decide)
  replace l := l'
  rcases ltOrGe x 25920 with h | l'
  · exact claim_at .long 0 (-354) 0 384 739 19055 25920 l h (by decide)
  replace l := l'
  rcases ltOrGe x 28571 with h | l'
  · exact claim_at .long 0 (-354) 1 384 739 25920 28571 l h (by decide)
  replace l := l'
  rcases ltOrGe x 35436 with h | l'
  · exact claim_at .long 1 (-354) 1 385 739 28571 35436 l h (by decide)
  replace l := l'
  rcases ltOrGe x 44975 with h | l'
  · exact claim_at .long 1 (-353) 1 385 739 35436 44975 l h (by decide)
  replace l := l'
  rcases ltOrGe x 51840 with h | l'
  · exact claim_at .long 1 (-353) 1 385 740 44975 51840 l h (by decide)
  replace l := l'
  rcases ltOrGe x 54491 with h | l'
  · exact claim_at .long 2 (-353) 2 385 740 51840 54491 l h (by decide)
  replace l := l'
  rcases ltOrGe x 61356 with h | l'
  · exact claim_at .long 2 (-353) 2 386 740 54491 61356 l h (by decide)
  replace l := l'
  rcases ltOrGe x 70895 with h | l'
  · exact claim_at .long 2 (-352) 2 386 740 61356 70895 l h (by decide)
  replace l := l'
  rcases ltOrGe x 77760 with h | l'
  · exact claim_at .long 2 (-352) 2 386 741 70895 77760 l h (by decide)
  replace l := l'
  rcases ltOrGe x 80411 with h | l'
  · exact claim_at .long 3 (-352) 3 386 741 77760 80411 l h (by decide)
  replace l := l'
  rcases ltOrGe x 87276 with h | l'
  · exact claim_at .long 3 (-352) 3 387 741 80411 87276 l h (by decide)
  replace l := l'
  rcases ltOrGe x 96815 with h | l'
  · exact claim_at .long 3 (-351) 3 387 741 87276 96815 l h (by decide)
  replace l := l'
  rcases ltOrGe x 103680 with h | l'
  · exact claim_at .long 4 (-351) 3 387 742 96815 103680 l h (by decide)
  replace l := l'
  rcases ltOrGe x 106331 with h | l'
  · exact claim_at .long 4 (-351) 4 387 742 103680 106331 l h (by decide)
  replace l := l'
  rcases ltOrGe x 113196 with h | l'
  · exact claim_at .long 4 (-351) 4 388 742 106331 113196 l h (by decide)
  replace l := l'
  rcases ltOrGe x 122735 with h | l'
  · exact claim_at .long 4 (-350) 4 388 742 113196 122735 l h (by decide)
  replace l := l'
  rcases ltOrGe x 129600 with h | l'
  · exact claim_at .long 4 (-350) 4 388 743 122735 129600 l h (by decide)
  replace l := l'
  rcases ltOrGe x 132251 with h | l'
  · exact claim_at .long 5 (-350) 5 388 743 129600 132251 l h (by decide)
  replace l := l'
  rcases ltOrGe x 139116 with h | l'
  · exact claim_at .long 5 (-350) 5 389 743 132251 139116 l h (by decide)
  replace l := l'
  rcases ltOrGe x 148655 with h | l'
  · exact claim_at .long 5 (-349) 5 389 743 139116 148655 l h (by decide)
  replace l := l'
  rcases ltOrGe x 155520 with h | l'
  · exact claim_at .long 5 (-349) 5 389 744 148655 155520 l h (by decide)
  replace l := l'
  rcases ltOrGe x 158171 with h | l'
  · exact claim_at .long 5 (-349) 6 389 744 155520 158171 l h (by decide)
  replace l := l'
  rcases ltOrGe x 165036 with h | l'
  · exact claim_at .long 6 (-349) 6 390 744 158171 165036 l h (by decide)
  replace l := l'
  rcases ltOrGe x 174575 with h | l'
  · exact claim_at .long 6 (-348) 6 390 744 165036 174575 l h (by decide)
  replace l := l'
  exact claim_at .long 6 (-348) 6 390 745 174575 181440 l h1 (by decide)
theorem claim_ahead {x : Int} (h0 : 0 ≤ x) (h1 : x < 181440) : Claim .ahead x := by
  rcases ltOrGe x 9516 with h | l
  · exact claim_at .ahead 0 (-355) 0 354 738 0 9516 h0 h (by decide)
  rcases ltOrGe x 16404 with h | l'
  · exact claim_at .ahead 0 (-354) 0 354 738 9516 16404 l h (by decide)
  replace l := l'
  rcases ltOrGe x 19055 with h | l'
  · exact claim_at .ahead 1 (-354) 0 355 738 16404 19055 l h (by decide)
  replace l := l'
  rcases ltOrGe x 25920 with h | l'
  · exact claim_at .ahead 1 (-354) 0 355 739 19055 25920 l h (by decide)
  replace l := l'
  rcases ltOrGe x 35436 with h | l'
  · exact claim_at .ahead 1 (-354) 1 355 739 25920 35436 l h (by decide)
  replace l := l'
  rcases ltOrGe x 42324 with h | l'
  · exact claim_at .ahead 1 (-353) 1 355 739 35436 42324 l h (by decide)
  replace l := l'
  rcases ltOrGe x 44975 with h | l'
  · exact claim_at .ahead 1 (-353) 1 356 739 42324 44975 l h (by decide)
  replace l := l'
  rcases ltOrGe x 51840 with h | l'
  · exact claim_at .ahead 1 (-353) 1 356 740 44975 51840 l h (by decide)
  replace l := l'
  rcases ltOrGe x 61356 with h | l'
  · exact claim_at .ahead 2 (-353) 2 356 740 51840 61356 l h (by decide)
  replace l := l'
  rcases ltOrGe x 68244 with h | l'
  · exact claim_at .ahead 2 (-352) 2 356 740 61356 68244 l h (by decide)
  replace l := l'
  rcases ltOrGe x 70895 with h | l'
  · exact claim_at .ahead 3 (-352) 2 357 740 68244 70895 l h (by decide)
  replace l := l'
  rcases ltOrGe x 77760 with h | l'
  · exact claim_at .ahead 3 (-352) 2 357 741 70895 77760 l h (by decide)
  replace l := l'
  rcases ltOrGe x 87276 with h | l'
  · exact claim_at .ahead 3 (-352) 3 357 741 77760 87276 l h (by decide)
  replace l := l'
  rcases ltOrGe x 94164 with h | l'
  · exact claim_at .ahead 3 (-351) 3 357 741 87276 94164 l h (by decide)
  replace l := l'
  rcases ltOrGe x 96815 with h | l'
  · exact claim_at .ahead 3 (-351) 3 358 741 94164 96815 l h (by decide)
  replace l := l'
  rcases ltOrGe x 103680 with h | l'
  · exact claim_at .ahead 3 (-351) 3 358 742 96815 103680 l h (by decide)
  replace l := l'
  rcases ltOrGe x 113196 with h | l'
  · exact claim_at .ahead 3 (-351) 4 358 742 103680 113196 l h (by decide)
  replace l := l'
  rcases ltOrGe x 120084 with h | l'
  · exact claim_at .ahead 3 (-350) 4 358 742 113196 120084 l h (by decide)
  replace l := l'
  rcases ltOrGe x 122735 with h | l'
  · exact claim_at .ahead 4 (-350) 4 359 742 120084 122735 l h (by decide)
  replace l := l'
  rcases ltOrGe x 129600 with h | l'
  · exact claim_at .ahead 4 (-350) 4 359 743 122735 129600 l h (by decide)
  replace l := l'
  rcases ltOrGe x 139116 with h | l'
  · exact claim_at .ahead 5 (-350) 5 359 743 129600 139116 l h (by decide)
  replace l := l'
  rcases ltOrGe x 146004 with h | l'
  · exact claim_at .ahead 5 (-349) 5 359 743 139116 146004 l h (by decide)
  replace l := l'
  rcases ltOrGe x 148655 with h | l'
  · exact claim_at .ahead 6 (-349) 5 360 743 146004 148655 l h (by decide)
  replace l := l'
  rcases ltOrGe x 155520 with h | l'
  · exact claim_at .ahead 6 (-349) 5 360 744 148655 155520 l h (by decide)
  replace l := l'
  rcases ltOrGe x 165036 with h | l'
  · exact claim_at .ahead 6 (-349) 6 360 744 155520 165036 l h (by decide)
  replace l := l'
  rcases ltOrGe x 171924 with h | l'
  · exact claim_at .ahead 6 (-348) 6 360 744 165036 171924 l h (by decide)
  replace l := l'
  rcases ltOrGe x 174575 with h | l'
  · exact claim_at .ahead 6 (-348) 6 361 744 171924 174575 l h (by decide)
  replace l := l'
  exact claim_at .ahead 6 (-348) 6 361 745 174575 181440 l h1 (by decide)
theorem claim_between {x : Int} (h0 : 0 ≤ x) (h1 : x < 181440) : Claim .between x := by
  rcases ltOrGe x 16404 with h | l
  · exact claim_at .between 0 (-384) 0 354 738 0 16404 h0 h (by decide)
  rcases ltOrGe x 19055 with h | l'
  · exact claim_at .between 1 (-384) 0 355 738 16404 19055 l h (by decide)
  replace l := l'
  rcases ltOrGe x 23269 with h | l'
  · exact claim_at .between 1 (-384) 0 355 739 19055 23269 l h (by decide)
  replace l := l'
  rcases ltOrGe x 25920 with h | l'
  · exact claim_at .between 1 (-383) 0 355 739 23269 25920 l h (by decide)
  replace l := l'
  rcases ltOrGe x 42324 with h | l'
  · exact claim_at .between 1 (-383) 1 355 739 25920 42324 l h (by decide)
  replace l := l'
  rcases ltOrGe x 44975 with h | l'
  · exact claim_at .between 1 (-383) 1 356 739 42324 44975 l h (by decide)
  replace l := l'
  rcases ltOrGe x 49189 with h | l'
  · exact claim_at .between 1 (-383) 1 356 740 44975 49189 l h (by decide)
  replace l := l'
  rcases ltOrGe x 51840 with h | l'
  · exact claim_at .between 2 (-382) 1 356 740 49189 51840 l h (by decide)
  replace l := l'
  rcases ltOrGe x 68244 with h | l'
  · exact claim_at .between 2 (-382) 2 356 740 51840 68244 l h (by decide)
  replace l := l'
  rcases ltOrGe x 70895 with h | l'
  · exact claim_at .between 3 (-382) 2 357 740 68244 70895 l h (by decide)
  replace l := l'
  rcases ltOrGe x 75109 with h | l'
  · exact claim_at .between 3 (-382) 2 357 741 70895 75109 l h (by decide)
  replace l := l'
  rcases ltOrGe x 77760 with h | l'
  · exact claim_at .between 3 (-381) 2 357 741 75109 77760 l h (by decide)
  replace l := l'
  rcases ltOrGe x 94164 with h | l'
  · exact claim_at .between 3 (-381) 3 357 741 77760 94164 l h (by decide)
  replace l := l'
  rcases ltOrGe x 96815 with h | l'
  · exact claim_at .between 3 (-381) 3 358 741 94164 96815 l h (by decide)
  replace l := l'
  rcases ltOrGe x 101029 with h | l'
  · exact claim_at .between 3 (-381) 3 358 742 96815 101029 l h (by decide)
  replace l := l'
  rcases ltOrGe x 103680 with h | l'
  · exact claim_at .between 3 (-380) 3 358 742 101029 103680 l h (by decide)
  replace l := l'
  rcases ltOrGe x 120084 with h | l'
  · exact claim_at .between 3 (-380) 4 358 742 103680 120084 l h (by decide)
  replace l := l'
  rcases ltOrGe x 122735 with h | l'
  · exact claim_at .between 4 (-380) 4 359 742 120084 122735 l h (by decide)
  replace l := l'
  rcases ltOrGe x 126949 with h | l'
  · exact claim_at .between 4 (-380) 4 359 743 122735 126949 l h (by decide)
  replace l := l'
  rcases ltOrGe x 129600 with h | l'
  · exact claim_at .between 4 (-379) 4 359 743 126949 129600 l h (by decide)
  replace l := l'
  rcases ltOrGe x 146004 with h | l'
  · exact claim_at .between 5 (-379) 5 359 743 129600 146004 l h (by decide)
  replace l := l'
  rcases ltOrGe x 148655 with h | l'
  · exact claim_at .between 6 (-379) 5 360 743 146004 148655 l h (by decide)
  replace l := l'
  rcases ltOrGe x 152869 with h | l'
  · exact claim_at .between 6 (-379) 5 360 744 148655 152869 l h (by decide)
  replace l := l'
  rcases ltOrGe x 155520 with h | l'
  · exact claim_at .between 6 (-378) 5 360 744 152869 155520 l h (by decide)
  replace l := l'
  rcases ltOrGe x 171924 with h | l'
  · exact claim_at .between 6 (-378) 6 360 744 155520 171924 l h (by decide)
  replace l := l'
  rcases ltOrGe x 174575 with h | l'
  · exact claim_at .between 6 (-378) 6 361 744 171924 174575 l h (by decide)
  replace l := l'
  rcases ltOrGe x 178789 with h | l'
  · exact claim_at .between 6 (-378) 6 361 745 174575 178789 l h (by decide)
  replace l := l'
  exact claim_at .between 6 (-377) 6 361 745 178789 181440 l h1 (by decide)
theorem claim_behind {x : Int} (h0 : 0 ≤ x) (h1 : x < 181440) : Claim .behind x := by
  rcases ltOrGe x 6888 with h | l
  · exact claim_at .behind 0 (-384) 0 354 708 0 6888 h0 h (by decide)
  rcases ltOrGe x 16404 with h | l'
  · exact claim_at .behind 0 (-384) 0 354 709 6888 16404 l h (by decide)
  replace l := l'
  rcases ltOrGe x 23269 with h | l'
  · exact claim_at .behind 1 (-384) 0 355 709 16404 23269 l h (by decide)
  replace l := l'
  rcases ltOrGe x 25920 with h | l'
  · exact claim_at .behind 1 (-383) 0 355 709 23269 25920 l h (by decide)
  replace l := l'
  rcases ltOrGe x 32808 with h | l'
  · exact claim_at .behind 1 (-383) 1 355 709 25920 32808 l h (by decide)
  replace l := l'
  rcases ltOrGe x 42324 with h | l'
  · exact claim_at .behind 1 (-383) 1 355 710 32808 42324 l h (by decide)
  replace l := l'
  rcases ltOrGe x 49189 with h | l'
  · exact claim_at .behind 1 (-383) 1 356 710 42324 49189 l h (by decide)
  replace l := l'
  rcases ltOrGe x 51840 with h | l'
  · exact claim_at .behind 2 (-382) 1 356 710 49189 51840 l h (by decide)
  replace l := l'
  rcases ltOrGe x 58728 with h | l'
  · exact claim_at .behind 2 (-382) 2 356 710 51840 58728 l h (by decide)
  replace l := l'
  rcases ltOrGe x 68244 with h | l'
  · exact claim_at .behind 2 (-382) 2 356 711 58728 68244 l h (by decide)
  replace l := l'
  rcases ltOrGe x 75109 with h | l'
  · exact claim_at .behind 3 (-382) 2 357 711 68244 75109 l h (by decide)
  replace l := l'
  rcases ltOrGe x 77760 with h | l'
  · exact claim_at .behind 3 (-381) 2 357 711 75109 77760 l h (by decide)
  replace l := l'
  rcases ltOrGe x 84648 with h | l'
  · exact claim_at .behind 3 (-381) 3 357 711 77760 84648 l h (by decide)
  replace l := l'
  rcases ltOrGe x 94164 with h | l'
  · exact claim_at .behind 3 (-381) 3 357 712 84648 94164 l h (by decide)
  replace l := l'
  rcases ltOrGe x 101029 with h | l'
  · exact claim_at .behind 3 (-381) 3 358 712 94164 101029 l h (by decide)
  replace l := l'
  rcases ltOrGe x 103680 with h | l'
  · exact claim_at .behind 3 (-380) 3 358 712 101029 103680 l h (by decide)
  replace l := l'
  rcases ltOrGe x 110568 with h | l'
  · exact claim_at .behind 3 (-380) 4 358 712 103680 110568 l h (by decide)
  replace l := l'
  rcases ltOrGe x 120084 with h | l'
  · exact claim_at .behind 3 (-380) 4 358 713 110568 120084 l h (by decide)
  replace l := l'
  rcases ltOrGe x 126949 with h | l'
  · exact claim_at .behind 4 (-380) 4 359 713 120084 126949 l h (by decide)
  replace l := l'
  rcases ltOrGe x 129600 with h | l'
  · exact claim_at .behind 4 (-379) 4 359 713 126949 129600 l h (by decide)
  replace l := l'
  rcases ltOrGe x 136488 with h | l'
  · exact claim_at .behind 5 (-379) 5 359 713 129600 136488 l h (by decide)
  replace l := l'
  rcases ltOrGe x 146004 with h | l'
  · exact claim_at .behind 6 (-379) 5 359 714 136488 146004 l h (by decide)
  replace l := l'
  rcases ltOrGe x 152869 with h | l'
  · exact claim_at .behind 6 (-379) 5 360 714 146004 152869 l h (by decide)
  replace l := l'
  rcases ltOrGe x 155520 with h | l'
  · exact claim_at .behind 6 (-378) 5 360 714 152869 155520 l h (by decide)
  replace l := l'
  rcases ltOrGe x 162408 with h | l'
  · exact claim_at .behind 6 (-378) 6 360 714 155520 162408 l h (by decide)
  replace l := l'
  rcases ltOrGe x 171924 with h | l'
  · exact claim_at .behind 6 (-378) 6 360 715 162408 171924 l h (by decide)
  replace l := l'
  rcases ltOrGe x 178789 with h | l'
  · exact claim_at .behind 6 (-378) 6 361 715 171924 178789 l h (by decide)
  replace l := l'
  exact claim_at .behind 6 (-377) 6 361 715 178789 181440 l h1 (by decide)
end

section
theorem months_eq (y : Int) : months y = (235 * y - 234) / 19 := by unfold months; exact Int.fdiv_eq_ediv_of_nonneg _ (by decide)
def T (y : Int) : Int := 38004 + 765433 * months y

theorem delay1_F (y : Int) : delay1 y + 1 = F (T y) := by
  unfold delay1 F T
  have e : (38004 + 765433 * months y) / 25920 = day0 y + 1 := by
    unfold day0
    rw [Int.fdiv_eq_ediv_of_nonneg _ (by decide)]
    omega
  rw [e, Int.fmod_eq_emod_of_nonneg _ (by decide)]
  unfold G
  split <;> omega

def kOfR (r : Int) : Kind :=
  if (longs.any fun x => x == r + 1) = true then .long
  else if (([2, 5, 10, 13, 16] : List Int).any fun x => x == r + 1) = true then .ahead
  else if (([7, 18] : List Int).any fun x => x == r + 1) = true then .between
  else .behind
theorem kOf_R (y : Int) : kOf y = kOfR ((y - 1) % 19) := by
  unfold kOf kOfR
  rw [Int.fmod_eq_emod_of_nonneg _ (by decide)]

theorem placeR : ∀ n : Fin 19, (235 * (n.val : Int) + 1) / 19 = 12 * (n.val : Int) + (cnt longs (n.val : Int) : Int) ∧
    (235 * (n.val : Int) + 1) / 19 - (235 * ((n.val : Int) - 1) + 1) / 19 = pv (kOfR (n.val : Int)) ∧ (235 * ((n.val : Int) + 1) + 1) / 19 - (235 * (n.val : Int) + 1) / 19 = many (kOfR (n.val : Int)) ∧
    (235 * ((n.val : Int) + 2) + 1) / 19 - (235 * ((n.val : Int) + 1) + 1) / 19 = nx (kOfR (n.val : Int)) ∧ decide ((((n.val : Int) + 1) * 7 + 1) % 19 < 7) = isLong (kOfR (n.val : Int)) := by decide

theorem months_at {y q r : Int} (h : y - 1 = 19 * q + r) : months y = 235 * q + (235 * r + 1) / 19 := by rw [months_eq]; omega

/-- the places of a round -/
theorem place (y : Int) : months y - months (y - 1) = pv (kOf y) ∧ months (y + 1) - months y = many (kOf y) ∧ months (y + 2) - months (y + 1) = nx (kOf y) ∧
    leapB y = isLong (kOf y) ∧ moon0 y = T y % 181440 := by
  have hl : leapB y = decide ((y * 7 + 1) % 19 < 7) := by unfold leapB; rw [Int.fmod_eq_emod_of_nonneg _ (by decide)]
  have hm : moon0 y = (38004 + 765433 * (235 * ((y - 1) / 19) + 12 * ((y - 1) % 19) + (cnt longs ((y - 1) % 19) : Int))) % 181440 := by
    unfold moon0
    rw [Int.fmod_eq_emod_of_nonneg _ (show (0 : Int) ≤ 181440 by decide), Int.fmod_eq_emod_of_nonneg _ (show (0 : Int) ≤ 19 by decide), Int.fdiv_eq_ediv_of_nonneg _ (show (0 : Int) ≤ 19 by decide)]
  have h0 : 0 ≤ (y - 1) % 19 := Int.emod_nonneg _ (by decide)
  have h1 : (y - 1) % 19 < 19 := Int.emod_lt_of_pos _ (by decide)
  have hq : y - 1 = 19 * ((y - 1) / 19) + (y - 1) % 19 := (Int.mul_ediv_add_emod (y - 1) 19).symm
  have hn : (((y - 1) % 19).toNat : Int) = (y - 1) % 19 := Int.toNat_of_nonneg h0
  have hp := placeR ⟨((y - 1) % 19).toNat, by omega⟩
  simp only [hn] at hp
  have hd : (y * 7 + 1) % 19 = (((y - 1) % 19 + 1) * 7 + 1) % 19 := by omega
  rw [kOf_R]
  generalize (y - 1) / 19 = q at hq hm
  generalize (y - 1) % 19 = r at hq hm hp hd h0 h1
  obtain ⟨p1, p2, p3, p4, p5⟩ := hp
  have m0 := months_at hq
  have mm := months_at (y := y - 1) (q := q) (r := r - 1) (by omega)
  have m1 := months_at (y := y + 1) (q := q) (r := r + 1) (by omega)
  have m2 := months_at (y := y + 2) (q := q) (r := r + 2) (by omega)
  refine ⟨?_, ?_, ?_, ?_, ?_⟩
  · rw [m0, mm, ← p2]; omega
  · rw [m0, m1, ← p3]; omega
  · rw [m1, m2, ← p4]; omega
  · rw [hl, hd, p5]
  · rw [hm]
    unfold T
    rw [m0, p1, Int.add_assoc]

theorem kOf_step' (y : Int) (i : Nat) : kOf (y + 247 * (i : Int)) = kOf y := by
  rw [kOf_R, kOf_R, show (y + 247 * (i : Int) - 1) % 19 = (y - 1) % 19 by omega]
theorem T_step (y : Int) : T (y + 247) = T y + 181440 * 12888 - 905 := by
  unfold T
  simp only [months_eq]
  omega
theorem moon_step (y : Int) : (moon0 y - 905 < 0 ∧ moon0 (y + 247) = moon0 y - 905 + 181440) ∨ (¬ moon0 y - 905 < 0 ∧ moon0 (y + 247) = moon0 y - 905) := by
  have h1 := (place y).2.2.2.2
  have h2 := (place (y + 247)).2.2.2.2
  rw [T_step] at h2
  omega

theorem claim (k : Kind) {x : Int} (h0 : 0 ≤ x) (h1 : x < 181440) : Claim k x := by
  cases k
  · exact claim_long h0 h1
  · exact claim_ahead h0 h1
  · exact claim_between h0 h1
  · exact claim_behind h0 h1

theorem F_week (z j : Int) : F (z + 181440 * j) = F z + 7 * j := by
  unfold F G
  have e : (z + 181440 * j) / 25920 = z / 25920 + 7 * j := by omega
  rw [e, show 3 * (z / 25920 + 7 * j) % 7 = 3 * (z / 25920) % 7 by omega]
  split <;> omega

/-- week of the new moon -/
def wk (y : Int) : Int := T y / 181440

theorem put_shift (a b c j : Int) : put (a + j) (b + j) (c + j) = put a b c := by
  unfold put
  rw [show c + j - (b + j) = c - b by omega, show b + j - (a + j) = b - a by omega]

theorem delay2_put (y : Int) : delay2 y = put (delay1 (y - 1) + 1) (delay1 y + 1) (delay1 (y + 1) + 1) := by
  unfold delay2 put
  rw [show delay1 (y + 1) + 1 - (delay1 y + 1) = delay1 (y + 1) - delay1 y by omega, show delay1 y + 1 - (delay1 (y - 1) + 1) = delay1 y - delay1 (y - 1) by omega]

/-- the delays told by the moon -/
theorem delays (y : Int) : delay1 y + delay2 y = 7 * wk y + row0 (gI (kOf y) y) ∧
    delay1 (y + 1) + delay2 (y + 1) - (delay1 y + delay2 y) = row1 (kOf y) (gI (kOf y) y) := by
  obtain ⟨p1, p2, p3, _, p5⟩ := place y
  have hx0 : 0 ≤ moon0 y := moon0_ge y
  have hx1 : moon0 y < 181440 := by rw [p5]; omega
  have hT : T y = moon0 y + 181440 * wk y := by rw [p5]; unfold wk; omega
  have t0 : T (y - 1) = moon0 y - 765433 * pv (kOf y) + 181440 * wk y := by
    have : T (y - 1) = T y - 765433 * pv (kOf y) := by unfold T; omega
    omega
  have t1 : T (y + 1) = moon0 y + 765433 * many (kOf y) + 181440 * wk y := by
    have : T (y + 1) = T y + 765433 * many (kOf y) := by unfold T; omega
    omega
  have t2 : T (y + 2) = moon0 y + 765433 * (many (kOf y) + nx (kOf y)) + 181440 * wk y := by
    have : T (y + 2) = T y + 765433 * (many (kOf y) + nx (kOf y)) := by unfold T; omega
    omega
  have f0 : delay1 (y - 1) + 1 = F (moon0 y - 765433 * pv (kOf y)) + 7 * wk y := by rw [delay1_F, t0, F_week]
  have f1 : delay1 y + 1 = F (moon0 y) + 7 * wk y := by rw [delay1_F, hT, F_week]
  have f2 : delay1 (y + 1) + 1 = F (moon0 y + 765433 * many (kOf y)) + 7 * wk y := by rw [delay1_F, t1, F_week]
  have f3 : delay1 (y + 2) + 1 = F (moon0 y + 765433 * (many (kOf y) + nx (kOf y))) + 7 * wk y := by rw [delay1_F, t2, F_week]
  have d0 : delay2 y = put (F (moon0 y - 765433 * pv (kOf y))) (F (moon0 y)) (F (moon0 y + 765433 * many (kOf y))) := by
    rw [delay2_put, f0, f1, f2, put_shift]
  have d1 : delay2 (y + 1) = put (F (moon0 y)) (F (moon0 y + 765433 * many (kOf y))) (F (moon0 y + 765433 * (many (kOf y) + nx (kOf y)))) := by
    rw [delay2_put, show y + 1 - 1 = y by omega, show y + 1 + 1 = y + 2 by omega, f1, f2, f3, put_shift]
  obtain ⟨c1, c2⟩ := claim (kOf y) hx0 hx1
  unfold gI
  constructor
  · omega
  · omega
end

section
theorem row0_in {g : Int} (h0 : 0 ≤ g) (h6 : g ≤ 6) : 0 ≤ row0 g ∧ row0 g ≤ 5 := by
  have hg : g = 0 ∨ g = 1 ∨ g = 2 ∨ g = 3 ∨ g = 4 ∨ g = 5 ∨ g = 6 := by omega
  rcases hg with rfl | rfl | rfl | rfl | rfl | rfl | rfl <;> decide
theorem row1_in (k : Kind) {g : Int} (h0 : 0 ≤ g) (h6 : g ≤ 6) : 353 ≤ row1 k g := by
  have hg : g = 0 ∨ g = 1 ∨ g = 2 ∨ g = 3 ∨ g = 4 ∨ g = 5 ∨ g = 6 := by omega
  cases k <;> (rcases hg with rfl | rfl | rfl | rfl | rfl | rfl | rfl <;> decide)
theorem wk_ge {y : Int} (hy : -900 ≤ y) : -47013 ≤ wk y := by
  have h : -11144 ≤ months y := by rw [months_eq]; omega
  unfold wk T
  omega
theorem mid_pos {x : Int} (h : 0 < x) : mid x = x := by unfold mid; rw [if_pos h]
theorem nyr {y d : Int} (hy : -900 ≤ y) (hd : 1 ≤ d) : newYear y d = 7 * wk y + row0 (gI (kOf y) y) + 347997 + d := by
  have h1 := (delays y).1
  have h2 := wk_ge hy
  have h3 := row0_in (gI_ge (kOf y) y) (gI_le (kOf y) y)
  unfold newYear
  rw [mid_pos (by omega)]
  omega

theorem m_first' {y : Int} (hy : -900 ≤ y) : (newYear y 1).fmod 7 = row0 (gI (kOf y) y) := by
  have h3 := row0_in (gI_ge (kOf y) y) (gI_le (kOf y) y)
  rw [Int.fmod_eq_emod_of_nonneg _ (by decide), nyr hy (by decide)]
  omega
theorem m_days' {y : Int} (hy : -900 ≤ y) : yearDays y = row1 (kOf y) (gI (kOf y) y) := by
  have h2 := (delays y).2
  have h3 := row1_in (kOf y) (gI_ge (kOf y) y) (gI_le (kOf y) y)
  have h4 := nyr hy (show (1 : Int) ≤ 1 by decide)
  have h5 := nyr (y := y + 1) (by omega) (show (1 : Int) ≤ 1 by decide)
  have h6 := (delays y).1
  have h7 := (delays (y + 1)).1
  unfold yearDays
  omega
theorem m_leap' (y : Int) : leapB y = isLong (kOf y) := (place y).2.2.2.1
theorem m_months' (y : Int) : yearMonths y = many (kOf y) := by
  unfold yearMonths
  rw [m_leap']
  cases kOf y <;> rfl
theorem wk_step (y : Int) : (moon0 y - 905 < 0 → wk (y + 247) = wk y + 12887) ∧ (¬ moon0 y - 905 < 0 → wk (y + 247) = wk y + 12888) := by
  have h1 := (place y).2.2.2.2
  have h2 := T_step y
  unfold wk
  omega
theorem kOf_247 (y : Int) : kOf (y + 247) = kOf y := kOf_step' y 1
theorem m_step' {y : Int} (hy : -900 ≤ y) : (moon0 y - 905 < 0 → newYear (y + 247) 1 = newYear y 1 + 90216 - row0 (gI (kOf y) y) - 7 + row0 (gI (kOf y) (y + 247))) ∧
    (¬ moon0 y - 905 < 0 → newYear (y + 247) 1 = newYear y 1 + 90216 - row0 (gI (kOf y) y) + row0 (gI (kOf y) (y + 247))) := by
  have h1 := nyr hy (show (1 : Int) ≤ 1 by decide)
  have h2 := nyr (y := y + 247) (by omega) (show (1 : Int) ≤ 1 by decide)
  rw [kOf_247] at h2
  obtain ⟨w1, w2⟩ := wk_step y
  constructor
  · intro h; have := w1 h; omega
  · intro h; have := w2 h; omega

theorem monthLen_congr {y y' : Int} (h1 : leapB y' = leapB y) (h2 : yearDays y' = yearDays y) (m : Int) : monthLen y' m = monthLen y m := by
  unfold monthLen
  rw [h1, h2]
theorem monthLen_pos (y m : Int) : 0 ≤ monthLen y m := by
  unfold monthLen
  repeat' split
  all_goals decide
theorem fold_shift (f : Int → Int) (c : Int) : ∀ (l : List Int) (b : Int), List.foldl (fun a k => a + f k) (b + c) l = List.foldl (fun a k => a + f k) b l + c
  | [], _ => rfl
  | k :: r, b => by
    simp only [List.foldl_cons]
    rw [show b + c + f k = b + f k + c by omega]
    exact fold_shift f c r _
theorem fold_ge {f : Int → Int} (hf : ∀ k, 0 ≤ f k) : ∀ (l : List Int) (b : Int), b ≤ List.foldl (fun a k => a + f k) b l
  | [], b => Int.le_refl b
  | k :: r, b => by
    simp only [List.foldl_cons]
    have := fold_ge hf r (b + f k)
    have := hf k
    omega
theorem gate_last (k : Kind) {x : Int} (h : 180535 ≤ x) (h' : x < 181440) : (cnt (gates k) x : Int) - 1 = 6 := by
  cases k
  · exact cnt_long_6 (by omega) h'
  · exact cnt_ahead_6 (by omega) h'
  · exact cnt_between_6 (by omega) h'
  · exact cnt_behind_6 (by omega) h'
theorem gate_first (k : Kind) {x : Int} (h : 0 ≤ x) (h' : x < 905) : (cnt (gates k) x : Int) - 1 = 0 := by
  cases k
  · exact cnt_long_0 h (by omega)
  · exact cnt_ahead_0 h (by omega)
  · exact cnt_between_0 h (by omega)
  · exact cnt_behind_0 h (by omega)

theorem m_jd' {y m d : Int} (hy : -900 ≤ y) (hd : 1 ≤ d) (hg : gI (kOf y) (y + 247) = gI (kOf y) y) : toJd (y + 247) m d - toJd y m d = 90216 := by
  have hnw : ¬ moon0 y - 905 < 0 := by
    intro hw
    have e1 : gI (kOf y) y = 0 := gate_first _ (moon0_ge y) (by omega)
    have e2 : gI (kOf y) (y + 247) = 6 := by
      have hx1 : moon0 y - 905 + 181440 = moon0 (y + 247) := by have := moon_step y; omega
      have hge := moon0_ge y
      unfold gI
      rw [← hx1]
      exact gate_last _ (by omega) (by omega)
    omega
  have hw := (wk_step y).2 hnw
  have hk := kOf_247 y
  have hleap : leapB (y + 247) = leapB y := by rw [m_leap', m_leap', hk]
  have hdays : yearDays (y + 247) = yearDays y := by rw [m_days' (by omega), m_days' hy, hk, hg]
  have hml : monthLen (y + 247) = monthLen y := funext (monthLen_congr hleap hdays)
  have hym : yearMonths (y + 247) = yearMonths y := by rw [m_months', m_months', hk]
  have b0 := (delays y).1
  have b1 := (delays (y + 247)).1
  rw [hk, hg] at b1
  have hb : 347996 + delay1 (y + 247) + delay2 (y + 247) + d + 1 = 347996 + delay1 y + delay2 y + d + 1 + 90216 := by omega
  have hpos : 0 < 347996 + delay1 y + delay2 y + d + 1 := by
    have h2 := wk_ge hy
    have h3 := row0_in (gI_ge (kOf y) y) (gI_le (kOf y) y)
    omega
  have sum : ∀ (l : List Int) (b : Int), 0 < b → mid (List.foldl (fun a' k' => a' + monthLen y k') (b + 90216) l) - mid (List.foldl (fun a' k' => a' + monthLen y k') b l) = 90216 := by
    intro l b hb
    have h1 := fold_ge (monthLen_pos y) l b
    rw [fold_shift (monthLen y) 90216 l b, mid_pos (by omega), mid_pos (by omega)]
    omega
  unfold toJd
  rw [hml, hym, hb]
  split
  · rw [fold_shift (monthLen y) 90216]
    refine sum _ _ ?_
    have := fold_ge (monthLen_pos y) (rangeKs 7 (yearMonths y + 1 - 7).toNat) (347996 + delay1 y + delay2 y + d + 1)
    omega
  · exact sum _ _ hpos
end

section
/-- all that a turn asks -/
structure TurnFacts (k : Kind) (y m d : Int) (i : Nat) : Prop where
  moon : (moon0 (y + 247 * (i : Int)) - 905 < 0 ∧ moon0 (y + 247 * ((i + 1 : Nat) : Int)) = moon0 (y + 247 * (i : Int)) - 905 + 181440) ∨ (¬ moon0 (y + 247 * (i : Int)) - 905 < 0 ∧ moon0 (y + 247 * ((i + 1 : Nat) : Int)) = moon0 (y + 247 * (i : Int)) - 905)
  first : (moon0 (y + 247 * (i : Int)) - 905 < 0 → newYear (y + 247 * ((i + 1 : Nat) : Int)) 1 = newYear (y + 247 * (i : Int)) 1 + 90216 - row0 (gI k (y + 247 * (i : Int))) - 7 + row0 (gI k (y + 247 * ((i + 1 : Nat) : Int)))) ∧
    (¬ moon0 (y + 247 * (i : Int)) - 905 < 0 → newYear (y + 247 * ((i + 1 : Nat) : Int)) 1 = newYear (y + 247 * (i : Int)) 1 + 90216 - row0 (gI k (y + 247 * (i : Int))) + row0 (gI k (y + 247 * ((i + 1 : Nat) : Int))))
  days : yearDays (y + 247 * ((i + 1 : Nat) : Int)) = row1 k (gI k (y + 247 * ((i + 1 : Nat) : Int)))
  leap : leapB (y + 247 * ((i + 1 : Nat) : Int)) = isLong k
  months : yearMonths (y + 247 * ((i + 1 : Nat) : Int)) = many k
  jd : (i : Int) = 0 → gI k (y + 247 * ((i + 1 : Nat) : Int)) = gI k (y + 247 * (i : Int)) → toJd (y + 247 * ((i + 1 : Nat) : Int)) m d - toJd y m d = 90216

theorem turnFacts {k : Kind} {y m d : Int} (hk : k = kOf y) (hy : -900 ≤ y) (h1 : 1 ≤ m) (h13 : m ≤ 13) (hd : 1 ≤ d) (i : Nat) : TurnFacts k y m d i := by
  have hs : y + 247 * ((i + 1 : Nat) : Int) = y + 247 * (i : Int) + 247 := by omega
  have hyi : -900 ≤ y + 247 * (i : Int) := by omega
  have hki : kOf (y + 247 * (i : Int)) = k := by rw [kOf_step', hk]
  have hki' : kOf (y + 247 * ((i + 1 : Nat) : Int)) = k := by rw [kOf_step', hk]
  refine ⟨?_, ?_, ?_, ?_, ?_, ?_⟩
  · rw [hs]; exact moon_step _
  · rw [hs]; have := m_step' hyi; rw [hki] at this; exact this
  · have := m_days' (y := y + 247 * ((i + 1 : Nat) : Int)) (by omega); rw [hki'] at this; exact this
  · rw [m_leap', hki']
  · rw [m_months', hki']
  · intro h0 hg
    have e0 : y + 247 * (i : Int) = y := by omega
    rw [hs, e0] at hg ⊢
    subst hk
    exact m_jd' hy hd hg
end

section
/-- what holds ahead of turn i of the law's loop: the names, and the cell c of moon -/
def JJ (k : Kind) (y mo da : Int) (c : Addr) (i : Nat) (m : Str → Option Value) (nx : List (Addr × Obj)) : Prop :=
  ∃ (o : Obj) (t t1 t2 t3 t4 t5 t6 t7 : Tok), nx = [(c, o)] ∧ o.data = .cell (some (.int (moon0 (y + 247 * (i : Int))) t)) ∧
    m "first" = some (.int (newYear (y + 247 * (i : Int)) 1) t1) ∧ m "gate" = some (.int (gI k (y + 247 * (i : Int))) t2) ∧ m "year" = some (.int y t3) ∧ m "kind" = some (.str (kStr k) t4) ∧
    m "rows" = some (.ref (rowsA k)) ∧ m "many" = some (.int (many k) t5) ∧ m "month" = some (.int mo t6) ∧ m "day" = some (.int da t7)

theorem JJ.start {k : Kind} {y mo da : Int} {c : Addr} {m : Str → Option Value} {o : Obj} {t t1 t2 t3 t4 t5 t6 t7 : Tok}
    (hd : o.data = .cell (some (.int (moon0 y) t)))
    (h1 : m "first" = some (.int (newYear y 1) t1)) (h2 : m "gate" = some (.int (gI k y) t2)) (h3 : m "year" = some (.int y t3)) (h4 : m "kind" = some (.str (kStr k) t4))
    (h5 : m "rows" = some (.ref (rowsA k))) (h6 : m "many" = some (.int (many k) t5)) (h7 : m "month" = some (.int mo t6)) (h8 : m "day" = some (.int da t7)) : JJ k y mo da c 0 m [(c, o)] := by
  have e : y + 247 * ((0 : Nat) : Int) = y := by omega
  refine ⟨o, t, t1, t2, t3, t4, t5, t6, t7, rfl, ?_⟩
  rw [e]
  exact ⟨hd, h1, h2, h3, h4, h5, h6, h7, h8⟩

/-- the frame's map with the names written out -/
abbrev mapJ (v1 v2 v3 v4 v5 v6 v7 v8 : Value) (m : Str → Option Value) : Str → Option Value := fun z =>
  if z = "first" then some v1 else if z = "gate" then some v2 else if z = "year" then some v3 else if z = "kind" then some v4 else if z = "rows" then some v5 else if z = "many" then some v6 else if z = "month" then some v7 else if z = "day" then some v8 else m z
theorem mapJ_eq {v1 v2 v3 v4 v5 v6 v7 v8 : Value} {m : Str → Option Value} (h1 : m "first" = some v1) (h2 : m "gate" = some v2) (h3 : m "year" = some v3) (h4 : m "kind" = some v4) (h5 : m "rows" = some v5) (h6 : m "many" = some v6) (h7 : m "month" = some v7) (h8 : m "day" = some v8) :
    m = mapJ v1 v2 v3 v4 v5 v6 v7 v8 m := by
  funext z
  unfold mapJ
  split
  · subst_vars; assumption
  split
  · subst_vars; assumption
  split
  · subst_vars; assumption
  split
  · subst_vars; assumption
  split
  · subst_vars; assumption
  split
  · subst_vars; assumption
  split
  · subst_vars; assumption
  split
  · subst_vars; assumption
  rfl

open PySem.Calls in
theorem loop_law {prog : Program} {w : World} {A : Around} {E : Value → Shared → Prop} {s : Shared} {env : Env} {h₀ : Heap} {body : List Stmt} {Q : Flow → Shared → Prop} {r : Addr} {t₀ u₀ v₀ : Tok} {m₀ : Str → Option Value} {news : List (Addr × Obj)}
    {k : Kind} {y mo da : Int} {c : Addr} {o : Obj} {t t1 t2 t3 t4 t5 t6 t7 : Tok}
    (hk : k = kOf y) (hy : -900 ≤ y) (hm : 1 ≤ mo ∧ mo ≤ 13) (hda : 1 ≤ da) (hd : o.data = .cell (some (.int (moon0 y) t)))
    (hr : IsRange s.heap r 1 9 1 t₀ u₀ v₀) (F : Fr h₀ env.locals s.heap m₀) (N : News h₀ env.locals s.heap news) (hc : (c, o) ∈ news) (hh : A.handled = none)
    (h1 : m₀ "first" = some (.int (newYear y 1) t1)) (h2 : m₀ "gate" = some (.int (gI k y) t2)) (h3 : m₀ "year" = some (.int y t3)) (h4 : m₀ "kind" = some (.str (kStr k) t4))
    (h5 : m₀ "rows" = some (.ref (rowsA k))) (h6 : m₀ "many" = some (.int (many k) t5)) (h7 : m₀ "month" = some (.int mo t6)) (h8 : m₀ "day" = some (.int da t7))
    (turn : ∀ (i : Nat) (o : Obj) (t t0 t1 t2 t3 t4 t5 t6 t7 : Tok) (u : Str → Option Value) (h : Heap) (tk : Nat) (own : List (Addr × Obj)), i < 8 → TurnFacts k y mo da i → OwnOff own [c] → o.data = .cell (some (.int (moon0 (y + 247 * (i : Int))) t)) →
      Fr h₀ env.locals h (fun z => if z = "step" then some (.int (1 + (i : Int)) t0) else mapJ (.int (newYear (y + 247 * (i : Int)) 1) t1) (.int (gI k (y + 247 * (i : Int))) t2) (.int y t3) (.str (kStr k) t4) (.ref (rowsA k)) (.int (many k) t5) (.int mo t6) (.int da t7) u z) →
      News h₀ env.locals h ((c, o) :: own) →
      wpAny (model prog w) A (execs body env) (InvPostN h₀ env.locals (JJ k y mo da c (i + 1)) own [c] { s with heap := h, toks := tk } Q) E { s with heap := h, toks := tk })
    (done : ∀ m₁ nx h tk, Fr h₀ env.locals h m₁ → News h₀ env.locals h nx → Q .next { s with heap := h, toks := tk }) :
    wpAny (model prog w) A (pyIter (.ref r)) (fun it s₂ => LoopAtV prog w A h₀ env "step" body Q E it s₂) E s := by
  refine iter_rangeJ (n := 8) (JJ k y mo da c) hh hr (by decide) (by rfl) F (news_one N hc) (JJ.start hd h1 h2 h3 h4 h5 h6 h7 h8) ?_ fun m₁ nx h tk _ F' N' => done m₁ nx h tk F' N'
  intro i t0 m₁ nx h tk own hi _ ho hJ F' N'
  obtain ⟨o, t, t1, t2, t3, t4, t5, t6, t7, rfl, hd, h1, h2, h3, h4, h5, h6, h7, h8⟩ := hJ
  rw [mapJ_eq h1 h2 h3 h4 h5 h6 h7 h8] at F'
  exact turn i o t t0 t1 t2 t3 t4 t5 t6 t7 m₁ h tk own hi (turnFacts hk hy hm.1 hm.2 hda i) ho hd F' N'

theorem leap_no {a b : Bool} (h : a = b) (h' : (a != b) = true) : False := by subst h; simp at h'
theorem laterE (y : Int) (i : Nat) : y + 247 * (1 + (i : Int)) = y + 247 * ((i + 1 : Nat) : Int) := by omega
theorem behindE {k : Kind} {y b : Int} (hb : b = moon0 y) : ((cnt (gates k) b : Nat) : Int) - 1 = gI k y := by rw [hb]; rfl
theorem behindT {k : Kind} {y m d b : Int} {i : Nat} (tf : TurnFacts k y m d i) (hb : b = moon0 (y + 247 * ((i + 1 : Nat) : Int))) : ((cnt (gates k) b : Nat) : Int) - 1 = gI k (y + 247 * ((i + 1 : Nat) : Int)) := let _ := tf; behindE hb
theorem JJ.next {k : Kind} {y mo da b : Int} {c : Addr} {i : Nat} {m : Str → Option Value} {o : Obj} {t t1 t2 t3 t4 t5 t6 t7 : Tok}
    (hd : o.data = .cell (some (.int b t))) (hb : b = moon0 (y + 247 * ((i + 1 : Nat) : Int)))
    (h1 : m "first" = some (.int (newYear (y + 247 * ((i + 1 : Nat) : Int)) 1) t1)) (h2 : m "gate" = some (.int (gI k (y + 247 * ((i + 1 : Nat) : Int))) t2)) (h3 : m "year" = some (.int y t3)) (h4 : m "kind" = some (.str (kStr k) t4))
    (h5 : m "rows" = some (.ref (rowsA k))) (h6 : m "many" = some (.int (many k) t5)) (h7 : m "month" = some (.int mo t6)) (h8 : m "day" = some (.int da t7)) : JJ k y mo da c (i + 1) m [(c, o)] := by
  subst hb
  exact ⟨o, t, t1, t2, t3, t4, t5, t6, t7, rfl, hd, h1, h2, h3, h4, h5, h6, h7, h8⟩
end

open PySem.Calls PySem.Spec

theorem pre_first {k : Kind} {y : Int} (hk : k = kOf y) (hy : -900 ≤ y) : (newYear y 1).fmod 7 = row0 (gI k y) := by rw [hk]; exact m_first' hy
theorem pre_days {k : Kind} {y : Int} (hk : k = kOf y) (hy : -900 ≤ y) : yearDays y = row1 k (gI k y) := by rw [hk]; exact m_days' hy

theorem lawStart_use {y : Int} {t : Tok}
    {w : World} {loose : List Str} {mean : ExcName → Option Value} {mg mb : Str → Option Value} {news : List (Addr × Obj)}
    {dp un : Nat} {gd : Option (List Code)} {cn : Str} {cs : Scope} {a : Addr} {ccd : Value} {cl : List (Str × Addr)} {outer : List Env} {A₀ : Around} {base h₀ : Heap} {L : Addr} {m : Str → Option Value} {s : Shared} {Q E : Value → Shared → Prop}
    (B : Below A₀ base outer h₀) (F : Fr h₀ L s.heap m) (X : (hd.heap_39 w.params).In h₀) (N : News h₀ L s.heap news) (T : Top hd.view_39 loose mean mg mb h₀) (hk : cs.kind = .function) (hd : dp + 2 < recursionLimit) (hu : un + 8 * 2 < cLine)
    (hret : ∀ (k : Kind) (D : Addr) (t1 t2 : Tok) (c : Nat) (h' : Heap) (tk' : Nat), k = kOf y → Fr h₀ L h' m → News h₀ L h' ((D, ({ cls := .type "tuple", data := .seq #[.str (kStr k) t1, .int (moon0 y) t2] c } : Obj)) :: news) → AllLt D news →
      Q (.ref D) { heap := h', gens := s.gens, drawn := s.drawn, toks := tk', os := s.os }) :
    wpAny (model PySem.Challenge.rw_ah0009_01.row.prog w) (ktrTop dp un gd cn cs L a ccd cl outer) (call (.ref 124) [.int y t]) Q E s := by
  refine wpAny_mono (lawStart_con y t w loose mean mg mb news dp un gd cn cs a ccd cl outer A₀ base h₀ L m s B F X N T hk hd hu) (fun v s' h => ?_) fun _ _ h => h.elim
  obtain ⟨D, t1, t2, c, h', tk', rfl, rfl, F', N', hl⟩ := h
  rw [kindOf_eq] at N'
  exact hret (kOf y) D t1 t2 c h' tk' rfl F' N' hl

local macro_rules | `(tactic| walk_at "storeName") => `(tactic| (k_here; k_dflt
  (refine' storeInt ?F ?N ?_ ?a ?b; (case F => k_asm); (case N => k_asm); (case a => rfl); (case b => rfl); k_whole; intro h' t' tk' F' N'; (try dsimp only); (try k_sweep))))

local macro_rules | `(tactic| walk_at "storeName") => `(tactic| (k_here; k_dflt (refine' Mine.storeCellInt ?F ?N ?c ?U ?d ?_ ?a ?b; (case a => rfl); (case b => rfl); (case F => k_asm); (case N => k_asm); (case c => rfl); (case U => k_updF); (case d => k_asm); k_whole; intro h' o' t' F' N' d'; (try dsimp only at N'); (try dsimp only); (try k_sweep))))
local macro_rules | `(tactic| walk_at "storeName") => `(tactic| (k_here; (with_reducible show wpAny _ _ (storeName _ (Str.ofString "year") (Value.int _ _)) _ _ _); k_dflt
  (refine' storeIntP (fun j => -900 ≤ j) ?P ?F ?N ?_ ?a ?b; (case F => k_asm); (case N => k_asm); (case a => rfl); (case b => rfl); (case P => ((try dsimp only); split <;> omega)); k_whole; intro j' hj' h' t' tk' F' N'; (try dsimp only at hj'); (try dsimp only); (try k_sweep))))
local macro_rules | `(tactic| walk_at "call ref") => `(tactic| (k_here; k_dflt (
  (refine' Con.use ?kC ?k1 ?k2 ?k3 ?k4 ?k5 ?k6 ?k7 ?k8 ?_; (case kC => (first | exact leap_con _ _ | exact monthDays_con _ _ _ _ (by first | assumption | omega) | exact monthLen_con _ _ _ _ (by first | assumption | omega) | exact yearDays_con _ _ | exact toJd7_con _ _ _ _ _ | exact toJd_con _ _ _ _ _ _ (by first | assumption | omega) (by first | assumption | omega) | exact yearMonths_con _ _ | exact delay2_con _ _ | exact delay1_con _ _ | exact mid_con _ _)); (case k1 => k_asm); (case k2 => k_asm); (case k3 => k_asm); (case k4 => k_asm); (case k5 => k_asm); (case k6 => first | exact rfl | assumption); (case k7 => ktr_room); (case k8 => ktr_units); intro t9 h9 tk9 F9 N9; (try dsimp only); (try k_sweep)))))
local macro_rules | `(tactic| walk_at "call ref") => `(tactic| (k_here; k_dflt
  (refine' lawStart_use ?k1 ?k2 ?k3 ?k4 ?k5 ?k6 ?k7 ?k8 ?_; (case k1 => k_asm); (case k2 => k_asm); (case k3 => k_asm); (case k4 => k_asm); (case k5 => k_asm); (case k6 => first | exact rfl | assumption); (case k7 => ktr_room); (case k8 => ktr_units); intro k' D' t1' t2' c' h' tk' hk' F' N' l1; (have hm1' := many_ge k'); (have hm2' := many_le k'); (have hf1' := pre_first hk' (by assumption)); (have hf2' := pre_days hk' (by assumption)); (try simp only [AllLt, and_true] at l1); (try dsimp only); (try k_sweep))))
local macro_rules | `(tactic| walk_at "eval ListComp") => `(tactic| (k_here; lct_look; k_dflt (refine LCt.ListComp_T (F₀ := by k_asm) (by with_unfolding_all rfl) (by decide) (by rfl) (by decide) (by rfl) ?_)))
local macro_rules | `(tactic| walk_at "call builtin:len") => `(tactic| (k_here; k_dflt ((with_reducible rename News _ _ _ ((_, LCg.lst _) :: _) => Nold'); refine Mine.len_cnt Nold' (by assumption) (by first | decide | (rw [gates_len]; decide)) ?_; intro t' tk' N'; clear Nold')))
local macro_rules | `(tactic| walk_at "eval IfExp") => `(tactic| (k_here; k_dflt (first
  | (refine' ifRows ?F ?X ?T ?v ?ea ?eb ?a1 ?a2 ?a3 ?a4 ?d1 ?d2 ?d3 ?_; (case F => k_asm); (case X => k_asm); (case T => k_asm); (case v => rfl); (case ea => k_is); (case eb => k_is); (case a1 => rfl); (case a2 => rfl); (case a3 => rfl); (case a4 => rfl); (case d1 => decide); (case d2 => decide); (case d3 => decide); intro tk'; (try dsimp only))
  | (refine' ifMany ?F ?v ?a1 ?a2 ?d1 ?_; (case F => k_asm); (case v => rfl); (case a1 => rfl); (case a2 => rfl); (case d1 => decide); intro t' tk'; (try dsimp only)))))

theorem gateE (k : Kind) (y : Int) : ((cnt (gates k) (moon0 y) : Nat) : Int) - 1 = gI k y := rfl
local macro_rules | `(tactic| walk_at "subscriptTail") => `(tactic| (k_here; (with_reducible show wpAny _ _ (subscriptTail _ _ (Value.ref _) (Value.str (kStr _) _)) _ _ _); k_dflt (refine' gates_at ?F ?X _ ?_ ?hs; (case F => k_asm); (case X => k_asm); (case hs => with_unfolding_all rfl); intro tk'; (try dsimp only))))
local macro_rules | `(tactic| walk_at "subscriptTail") => `(tactic| (k_here; (with_reducible show wpAny _ _ (subscriptTail _ _ (Value.ref (rowsA _)) (Value.int _ _)) _ _ _); k_dflt (refine' rows_at ?F ?X _ ?h0 ?h6 ?_ ?hs; (case F => k_asm); (case X => k_asm); (case h0 => exact gI_ge _ _); (case h6 => exact gI_le _ _); (case hs => (intro a; with_unfolding_all rfl)); (try dsimp only))))
local macro_rules | `(tactic| walk_at "subscriptTail") => `(tactic| (k_here; (with_reducible show wpAny _ _ (subscriptTail _ _ (Value.ref (rowA _ _)) (Value.int 0 _)) _ _ _); k_dflt (refine' row0_at ?F ?X _ ?h0 ?h6 ?_ ?hs; (case F => k_asm); (case X => k_asm); (case h0 => exact gI_ge _ _); (case h6 => exact gI_le _ _); (case hs => (intro a; with_unfolding_all rfl)); intro t'; (try dsimp only))))
local macro_rules | `(tactic| walk_at "subscriptTail") => `(tactic| (k_here; (with_reducible show wpAny _ _ (subscriptTail _ _ (Value.ref (rowA _ _)) (Value.int 1 _)) _ _ _); k_dflt (refine' row1_at ?F ?X _ ?h0 ?h6 ?_ ?hs; (case F => k_asm); (case X => k_asm); (case h0 => exact gI_ge _ _); (case h6 => exact gI_le _ _); (case hs => (intro a; with_unfolding_all rfl)); intro t'; (try dsimp only))))
local macro_rules | `(tactic| walk_at "CompSrcT") => `(tactic| (k_here; k_dflt (refine' Mine.compGates ?a1 ?a2 ?a3 ?a4 ?a5 ?a6 ?k1 ?k2 ?k3 ?cl ?oc ?d ?_; (case a1 => exact fun _ => rfl); (case a2 => exact fun _ => rfl); (case a3 => exact fun _ => rfl); (case a4 => decide); (case a5 => decide); (case a6 => rfl); (case k1 => k_asm); (case k2 => k_asm); (case k3 => k_asm); (case cl => rfl); (case oc => k_mem); (case d => k_asm); k_whole; intro D' zs' h' tk' hz' F' N' o1'; (try simp only [LCg.Off1, and_true] at o1'); (try dsimp only); (try k_sweep))))
local macro_rules | `(tactic| walk_at "compareOp Eq str str") => `(tactic| (k_here; k_dflt (refine' eqLong ?_; intro tk'; (try dsimp only))))
local macro_rules | `(tactic| walk_at "storeName") => `(tactic| (k_here; (with_reducible show wpAny _ _ (storeName _ (Str.ofString "gate") (Value.int _ _)) _ _ _); k_dflt
  (refine' storeIntE ?e ?F ?N ?_ ?a ?b; (case e => exact gateE _ _); (case F => k_asm); (case N => k_asm); (case a => rfl); (case b => rfl); k_whole; intro h' t' tk' F' N'; (try dsimp only); (try k_sweep))))
theorem monthP (a : Int) (k : Kind) : 1 ≤ 1 + a.fmod (many k) ∧ 1 + a.fmod (many k) ≤ 13 := by
  have h1 := many_ge k
  have h2 := many_le k
  rw [Int.fmod_eq_emod_of_nonneg _ (by omega)]
  have := Int.emod_nonneg a (b := many k) (by omega)
  have := Int.emod_lt_of_pos a (b := many k) (by omega)
  omega
theorem dayP (a : Int) : 1 ≤ 1 + a.fmod 29 := by
  rw [Int.fmod_eq_emod_of_nonneg _ (by omega)]
  have := Int.emod_nonneg a (b := 29) (by omega)
  omega
local macro_rules | `(tactic| walk_at "storeName") => `(tactic| (k_here; (with_reducible show wpAny _ _ (storeName _ (Str.ofString "month") (Value.int _ _)) _ _ _); k_dflt
  (refine' storeIntP (fun j => 1 ≤ j ∧ j ≤ 13) ?P ?F ?N ?_ ?a ?b; (case F => k_asm); (case N => k_asm); (case a => rfl); (case b => rfl); (case P => exact monthP _ _); k_whole; intro j' hj' h' t' tk' F' N'; (try dsimp only at hj'); (try dsimp only); (try k_sweep))))
local macro_rules | `(tactic| walk_at "storeName") => `(tactic| (k_here; (with_reducible show wpAny _ _ (storeName _ (Str.ofString "day") (Value.int _ _)) _ _ _); k_dflt
  (refine' storeIntP (fun j => 1 ≤ j) ?P ?F ?N ?_ ?a ?b; (case F => k_asm); (case N => k_asm); (case a => rfl); (case b => rfl); (case P => exact dayP _); k_whole; intro j' hj' h' t' tk' F' N'; (try dsimp only at hj'); (try dsimp only); (try k_sweep))))

local macro_rules | `(tactic| walk_at "storeName") => `(tactic| (k_here; (with_reducible show wpAny _ _ (storeName _ (Str.ofString "later") (Value.int _ _)) _ _ _); k_dflt
  (refine' storeIntE ?e ?F ?N ?_ ?a ?b; (case e => exact laterE _ _); (case F => k_asm); (case N => k_asm); (case a => rfl); (case b => rfl); k_whole; intro h' t' tk' F' N'; (try dsimp only); (try k_sweep))))
local macro_rules | `(tactic| walk_at "storeName") => `(tactic| (k_here; (with_reducible show wpAny _ _ (storeName _ (Str.ofString "behind") (Value.int _ _)) _ _ _); k_dflt
  (refine' storeIntE ?e ?F ?N ?_ ?a ?b; (case e => exact behindT (by assumption) (by omega)); (case F => k_asm); (case N => k_asm); (case a => rfl); (case b => rfl); k_whole; intro h' t' tk' F' N'; (try dsimp only); (try k_sweep))))

theorem cw : PySem.Challenge.rw_ah0009_01.Holds := hd (by
  clear cw
  k_go0
  (all_goals try k_fold)
  repeat' (first | (k_unfold; (try dsimp only)) | ((fail_if_success (with_reducible show wpAny _ _ (pyIter _) _ _ _)); first | walk1 | (dsimp only; walk1) | (leave1; walk_say "STEP leave1"; (try dsimp only)) | fail "no step"))
  all_goals (try contradiction)
  (with_reducible rename News _ _ _ _ => N0)
  (with_reducible rename Fr _ _ _ _ => F0)
  (with_reducible rename IsRange _ _ _ _ _ _ _ _ => R0)
  (with_reducible rename Obj.data _ = Data.cell (some _) => d0)
  (with_reducible rename (_ : Kind) = kOf _ => hk0)
  (with_reducible rename (-900 : Int) ≤ _ => hy0)
  (with_reducible rename (1 : Int) ≤ _ ∧ _ ≤ (13 : Int) => hm0)
  (with_reducible rename (1 : Int) ≤ _ => hd0)
  k_dflt refine' loop_law hk0 hy0 hm0 hd0 d0 R0 F0 N0 ?zc ?zhh ?z1 ?z2 ?z3 ?z4 ?z5 ?z6 ?z7 ?z8 ?zturn ?zdone
  case zc => k_mem
  case zhh => rfl
  case z1 => rfl
  case z2 => rfl
  case z3 => rfl
  case z4 => rfl
  case z5 => rfl
  case z6 => rfl
  case z7 => rfl
  case z8 => rfl
  case zturn =>
    clear N0 F0 R0 d0
    intro i o t t0 t1 t2 t3 t4 t5 t6 t7 u h tk own hi T ho hd F N
    have q1 := T.moon
    have q2 := T.first
    have q3 := T.days
    have q4 := T.leap
    have q5 := T.months
    have q6 := T.jd
    (try k_fold)
    repeat' (first | (k_unfold; (try dsimp only)) | ((fail_if_success (with_reducible show InvEndN _ _ _ _ _ _ _)); first | walk1 | (dsimp only; walk1) | (leave1; walk_say "STEP leave1"; (try dsimp only)) | fail "no step"))
    all_goals first
      | exact InvEndN.intro (by k_asm) (by k_asm) (JJ.next (by assumption) (by omega) rfl rfl rfl rfl rfl rfl rfl rfl) rfl (List.forall_mem_singleton.mpr (by k_mem)) (by (intro p hp; k_ownIn))
      | (exfalso; first | contradiction | exact leap_no q4 (by assumption) | exact absurd (q6 (by omega) (by assumption)) (by assumption) | omega)
  case zdone =>
    intro m₁ nx h tk F N
    (try k_fold)
    repeat' (first | (k_unfold; (try dsimp only)) | (k_end; kc_close) | walk1 | (dsimp only; walk1) | (leave1; walk_say "STEP leave1"; (try dsimp only)) | fail "no step")
  all_goals exact default)

end Mine

theorem PySem.Challenge.cw_ah0009_01_holds : PySem.Challenge.rw_ah0009_01.Holds :=
  Mine.cw
