import PyProof.Rows.All
import Wide.All
import OpenK.AllK
import Wide.FinOn
import PySem.Challenge.RW_bn0008_01
set_option Elab.async false
section
open PySem PySem.W PyProof.Rows
namespace Mine
set_option maxRecDepth 100000 in
set_option maxHeartbeats 8000000 in
open_top hd for PySem.Challenge.rw_bn0008_01
end Mine
end
section
open PySem PySem.W PyProof.Rows PySem.Spec PySem.Calls
namespace Mine
def leapB (y : Int) : Bool := decide ((y * 7 + 1).fmod 19 < 7)
def mo (y : Int) : Int := (235 * y - 234).fdiv 19
def dy (y : Int) : Int := mo y * 29 + (12084 + 13753 * mo y).fdiv 25920
def d1 (y : Int) : Int := if (3 * (dy y + 1)).fmod 7 < 3 then dy y + 1 else dy y
def d2 (y : Int) : Int := if d1 (y + 1) - d1 y = 356 then 2 else if d1 y - d1 (y - 1) = 382 then 1 else 0
def ym (y : Int) : Int := if leapB y then 13 else 12
def mid (j : Int) : Int := if j > 0 then j else j + 1
def isl (y : Int) : Bool := if y.fmod 4 = 0 then (if y.fmod 100 = 0 then decide (y.fmod 400 = 0) else true) else false
/-- what a call of the def at f with the arguments vs gives back, from within any def's frame, with `need` frames of room -/
abbrev Cl (w : World) (loose : List Str) (mean : ExcName → Option Value) (mg mb : Str → Option Value) (f : Addr) (need : Nat) (news : List (Addr × Obj)) (vs : List Value) (R : Tok → Value) : Prop :=
  ∀ {dp un : Nat} {gd : Option (List Code)} {cn : Str} {cs : Scope} {a : Addr} {ccd : Value} {cl : List (Str × Addr)} {outer : List Env} {A₀ : Around} {base h₀ : Heap} {L : Addr} {m : Str → Option Value} {s : Shared} {Q E : Value → Shared → Prop},
    Below A₀ base outer h₀ → Fr h₀ L s.heap m → (hd.heap_39 w.params).In h₀ → News h₀ L s.heap news → Top hd.view_39 loose mean mg mb h₀ → cs.kind = .function →
    dp + need < recursionLimit → un + 8 * need < cLine → CbRet h₀ L m news s Q R →
      wpAny (model PySem.Challenge.rw_bn0008_01.row.prog w) (ktrTop dp un gd cn cs L a ccd cl outer) (call (.ref f) vs) Q E s
theorem ite_dpos {p : Prop} [Decidable p] {a b : Prop} (hc : p) (h : a) : if decide p = true then a else b := by rw [if_pos (decide_eq_true hc)]; exact h
theorem ite_dneg {p : Prop} [Decidable p] {a b : Prop} (hc : ¬ p) (h : b) : if decide p = true then a else b := by rw [if_neg (by simpa using hc)]; exact h
theorem ite_bneg {p : Bool} {a b : Prop} (hc : p = false) (h : b) : if p = true then a else b := by rw [if_neg (by simp [hc])]; exact h
theorem ite_epos {x y : Int} {a b : Prop} (hc : x = y) (h : a) : if (x == y) = true then a else b := by rw [if_pos (by simp [hc])]; exact h
theorem ite_eneg {x y : Int} {a b : Prop} (hc : ¬ x = y) (h : b) : if (x == y) = true then a else b := by rw [if_neg (by simp [hc])]; exact h
theorem ifexp_ints {M : Model} {A : Around} {E : Value → Shared → Prop} {s : Shared} {env : Env} {test : PySem.Expr} {x y : Int} {k1 k2 : Nat} {p1 p2 pos : Pos} {Q : Value → Shared → Prop}
    (h : wpAny M A (isTrue test env (eval test env)) (fun c s' => Q (.int (if c = true then x else y) s'.toks) { s' with toks := s'.toks + 1 }) E s) :
    wpAny M A (eval (.IfExp test (.Constant (.int x) k1 p1) (.Constant (.int y) k2 p2) pos) env) Q E s :=
  IfExp_ (wpAny_mono h (fun c s' hq => by cases c <;> exact wpAny_Constant_int hq) fun _ _ e => e)
local macro_rules | `(tactic| walk_at "eval Call") => `(tactic| (k_here; (with_reducible show wpAny _ _ (eval (Expr.Call (Expr.Name _ _) _ [] _) _) _ _ _); k_dflt (refine Call_ ?_)))
set_option maxRecDepth 100000 in
set_option maxHeartbeats 2000000 in
theorem leap_c {w loose mean mg mb news} {y : Int} {t : Tok} : Cl w loose mean mg mb 57 1 news [.int y t] (fun _ => .bool (leapB y)) := by
  unfold Cl
  k_fill
  intro dp un gd cn cs a ccd cl outer A₀ base h₀ L m s Q E B F X N T hk hdp hun hret
  refine wpAny_call ?_
  k_dflt cell_enter
  repeat' (first | (k_unfold; (try dsimp only)) | (walk1; all_goals (try dsimp only)))
  all_goals (
    refine cb_retB (Q := Q) hret ?_ (by first | with_reducible assumption | k_asm) (by first | with_reducible assumption | (refine cb_drop (by with_reducible assumption) (by intro _ hp9; (repeat (first | with_reducible exact hp9 | with_reducible refine List.mem_cons_of_mem _ ?_)); done)) | k_asm | (refine cb_drop (by assumption) (by kcj_all)))
    (
      law_clear
      rfl))
set_option maxRecDepth 100000 in
set_option maxHeartbeats 2000000 in
theorem d1_c {w loose mean mg mb news} {y : Int} {t : Tok} : Cl w loose mean mg mb 71 1 news [.int y t] (fun t => .int (d1 y) t) := by
  unfold Cl
  k_fill
  intro dp un gd cn cs a ccd cl outer A₀ base h₀ L m s Q E B F X N T hk hdp hun hret
  refine wpAny_call ?_
  k_dflt cell_enter
  repeat' (first | (k_unfold; (try dsimp only)) | (walk1; all_goals (try dsimp only)))
  all_goals (
    refine cb_retI (Q := Q) hret ?_ (by first | with_reducible assumption | k_asm) (by first | with_reducible assumption | (refine cb_drop (by with_reducible assumption) (by intro _ hp9; (repeat (first | with_reducible exact hp9 | with_reducible refine List.mem_cons_of_mem _ ?_)); done)) | k_asm | (refine cb_drop (by assumption) (by kcj_all)))
    (
      law_clear
      (try simp only [d1, dy, mo])
      (try simp only [decide_eq_true_eq, decide_eq_false_iff_not, Bool.not_eq_true, Bool.not_eq_false, Bool.beq_eq_decide_eq] at *)
      first | done | rfl | omega | ((repeat' split) <;> first | rfl | omega | (simp_all; done)) | (simp_all; done)))
set_option maxRecDepth 100000 in
set_option maxHeartbeats 2000000 in
theorem mid_c {w loose mean mg mb news} {y : Int} {t : Tok} : Cl w loose mean mg mb 28 1 news [.int y t] (fun t => .int (mid y) t) := by
  unfold Cl
  k_fill
  intro dp un gd cn cs a ccd cl outer A₀ base h₀ L m s Q E B F X N T hk hdp hun hret
  refine wpAny_call ?_
  k_dflt cell_enter
  repeat' (first | (k_unfold; (try dsimp only)) | (walk1; all_goals (try dsimp only)))
  all_goals (
    refine cb_retI (Q := Q) hret ?_ (by first | with_reducible assumption | k_asm) (by first | with_reducible assumption | (refine cb_drop (by with_reducible assumption) (by intro _ hp9; (repeat (first | with_reducible exact hp9 | with_reducible refine List.mem_cons_of_mem _ ?_)); done)) | k_asm | (refine cb_drop (by assumption) (by kcj_all)))
    (
      law_clear
      (try simp only [mid])
      (try simp only [decide_eq_true_eq, decide_eq_false_iff_not, Bool.not_eq_true, Bool.not_eq_false, Bool.beq_eq_decide_eq] at *)
      first | done | rfl | omega | ((repeat' split) <;> first | rfl | omega | (simp_all; done)) | (simp_all; done)))
set_option maxRecDepth 100000 in
set_option maxHeartbeats 2000000 in
theorem isl_c {w loose mean mg mb news} {y : Int} {t : Tok} : Cl w loose mean mg mb 21 1 news [.int y t] (fun _ => .bool (isl y)) := by
  unfold Cl
  k_fill
  intro dp un gd cn cs a ccd cl outer A₀ base h₀ L m s Q E B F X N T hk hdp hun hret
  refine wpAny_call ?_
  k_dflt cell_enter
  repeat' (first | (k_unfold; (try dsimp only)) | (walk1; all_goals (try dsimp only)))
  all_goals (
    refine cb_retB (Q := Q) hret ?_ (by first | with_reducible assumption | k_asm) (by first | with_reducible assumption | (refine cb_drop (by with_reducible assumption) (by intro _ hp9; (repeat (first | with_reducible exact hp9 | with_reducible refine List.mem_cons_of_mem _ ?_)); done)) | k_asm | (refine cb_drop (by assumption) (by kcj_all)))
    (
      law_clear
      (try simp only [isl])
      (try simp only [decide_eq_true_eq, decide_eq_false_iff_not, Bool.not_eq_true, Bool.not_eq_false, Bool.beq_eq_decide_eq] at *)
      first | done | rfl | omega | ((repeat' split) <;> first | rfl | omega | (simp_all; done)) | (simp_all; done)))
local macro_rules | `(tactic| walk_at "call ref") => `(tactic| (
  k_here
  (with_reducible show wpAny _ _ (call (Value.ref 57) _) _ _ _)
  k_dflt (
  refine' leap_c ?k1 ?k2 ?k3 ?k4 ?k5 ?kK ?kd ?ku ?_
  (case k1 => first | k_asm | ktn_no "use: the frames below")
  (case k2 => first | k_asm | ktn_no "use: the frame")
  (case k3 => first | k_asm | ktn_no "use: the written part")
  (case k4 => first | k_asm | ktn_no "use: the ledger")
  (case k5 => first | k_asm | ktn_no "use: the top's facts")
  (case kK => first | exact rfl | assumption | ktn_no "use: the caller is no def")
  (case kd => first | ktr_room | ktn_no "use: the frames' room")
  (case ku => first | ktr_units | ktn_no "use: the C units")
  intro t9 h9 tk9 F9 N9
  (try k_sweep)
  (try dsimp only)
  (try k_fold))))
local macro_rules | `(tactic| walk_at "call ref") => `(tactic| (
  k_here
  (with_reducible show wpAny _ _ (call (Value.ref 71) _) _ _ _)
  k_dflt (
  refine' d1_c ?k1 ?k2 ?k3 ?k4 ?k5 ?kK ?kd ?ku ?_
  (case k1 => first | k_asm | ktn_no "use: the frames below")
  (case k2 => first | k_asm | ktn_no "use: the frame")
  (case k3 => first | k_asm | ktn_no "use: the written part")
  (case k4 => first | k_asm | ktn_no "use: the ledger")
  (case k5 => first | k_asm | ktn_no "use: the top's facts")
  (case kK => first | exact rfl | assumption | ktn_no "use: the caller is no def")
  (case kd => first | ktr_room | ktn_no "use: the frames' room")
  (case ku => first | ktr_units | ktn_no "use: the C units")
  intro t9 h9 tk9 F9 N9
  (try k_sweep)
  (try dsimp only)
  (try k_fold))))
local macro_rules | `(tactic| walk_at "call ref") => `(tactic| (
  k_here
  (with_reducible show wpAny _ _ (call (Value.ref 28) _) _ _ _)
  k_dflt (
  refine' mid_c ?k1 ?k2 ?k3 ?k4 ?k5 ?kK ?kd ?ku ?_
  (case k1 => first | k_asm | ktn_no "use: the frames below")
  (case k2 => first | k_asm | ktn_no "use: the frame")
  (case k3 => first | k_asm | ktn_no "use: the written part")
  (case k4 => first | k_asm | ktn_no "use: the ledger")
  (case k5 => first | k_asm | ktn_no "use: the top's facts")
  (case kK => first | exact rfl | assumption | ktn_no "use: the caller is no def")
  (case kd => first | ktr_room | ktn_no "use: the frames' room")
  (case ku => first | ktr_units | ktn_no "use: the C units")
  intro t9 h9 tk9 F9 N9
  (try k_sweep)
  (try dsimp only)
  (try k_fold))))
local macro_rules | `(tactic| walk_at "call ref") => `(tactic| (
  k_here
  (with_reducible show wpAny _ _ (call (Value.ref 21) _) _ _ _)
  k_dflt (
  refine' isl_c ?k1 ?k2 ?k3 ?k4 ?k5 ?kK ?kd ?ku ?_
  (case k1 => first | k_asm | ktn_no "use: the frames below")
  (case k2 => first | k_asm | ktn_no "use: the frame")
  (case k3 => first | k_asm | ktn_no "use: the written part")
  (case k4 => first | k_asm | ktn_no "use: the ledger")
  (case k5 => first | k_asm | ktn_no "use: the top's facts")
  (case kK => first | exact rfl | assumption | ktn_no "use: the caller is no def")
  (case kd => first | ktr_room | ktn_no "use: the frames' room")
  (case ku => first | ktr_units | ktn_no "use: the C units")
  intro t9 h9 tk9 F9 N9
  (try k_sweep)
  (try dsimp only)
  (try k_fold))))
set_option maxRecDepth 100000 in
set_option maxHeartbeats 2000000 in
theorem ym_c {w loose mean mg mb news} {y : Int} {t : Tok} : Cl w loose mean mg mb 64 2 news [.int y t] (fun t => .int (ym y) t) := by
  unfold Cl
  k_fill
  intro dp un gd cn cs a ccd cl outer A₀ base h₀ L m s Q E B F X N T hk hdp hun hret
  refine wpAny_call ?_
  k_dflt cell_enter
  repeat' (first | (k_unfold; (try dsimp only)) | (walk1; all_goals (try dsimp only)))
  all_goals (
    refine cb_retI (Q := Q) hret ?_ (by first | with_reducible assumption | k_asm) (by first | with_reducible assumption | (refine cb_drop (by with_reducible assumption) (by intro _ hp9; (repeat (first | with_reducible exact hp9 | with_reducible refine List.mem_cons_of_mem _ ?_)); done)) | k_asm | (refine cb_drop (by assumption) (by kcj_all)))
    (
      law_clear
      (try simp only [ym])
      (try simp only [decide_eq_true_eq, decide_eq_false_iff_not, Bool.not_eq_true, Bool.not_eq_false, Bool.beq_eq_decide_eq] at *)
      first | done | rfl | omega | ((repeat' split) <;> first | rfl | omega | (simp_all; done)) | (simp_all; done)))
set_option maxRecDepth 100000 in
set_option maxHeartbeats 2000000 in
theorem d2_c {w loose mean mg mb news} {y : Int} {t : Tok} : Cl w loose mean mg mb 78 2 news [.int y t] (fun t => .int (d2 y) t) := by
  unfold Cl
  k_fill
  intro dp un gd cn cs a ccd cl outer A₀ base h₀ L m s Q E B F X N T hk hdp hun hret
  refine wpAny_call ?_
  k_dflt cell_enter
  repeat' (first | (k_unfold; (try dsimp only)) | (walk1; all_goals (try dsimp only)))
  all_goals (
    refine cb_retI (Q := Q) hret ?_ (by first | with_reducible assumption | k_asm) (by first | with_reducible assumption | (refine cb_drop (by with_reducible assumption) (by intro _ hp9; (repeat (first | with_reducible exact hp9 | with_reducible refine List.mem_cons_of_mem _ ?_)); done)) | k_asm | (refine cb_drop (by assumption) (by kcj_all)))
    (
      law_clear
      (try simp only [d2])
      (try simp only [decide_eq_true_eq, decide_eq_false_iff_not, Bool.not_eq_true, Bool.not_eq_false, Bool.beq_eq_decide_eq] at *)
      first | done | rfl | omega | ((repeat' split) <;> first | rfl | omega | (simp_all; done)) | (simp_all; done)))
end Mine
end
section
open PySem PySem.W PyProof.Rows PySem.Spec PySem.Calls
namespace Mine
local macro_rules | `(tactic| walk_at "no such step") => `(tactic| fail)
local macro_rules | `(tactic| walk_at "no such step") => `(tactic| fail)
def hj (y : Int) : Int := mid (347996 + d1 y + d2 y + 1 + 1)
def yd (y : Int) : Int := hj (y + 1) - hj y
def ml (y m : Int) : Int := if 2 = m ∨ 4 = m ∨ 6 = m ∨ 10 = m ∨ 13 = m then 29 else if m = 12 ∧ leapB y = false then 29 else if m = 8 ∧ ¬ (yd y).fmod 10 = 5 then 29 else if m = 9 ∧ (yd y).fmod 10 = 3 then 29 else 30
theorem ym_or (y : Int) : ym y = 12 ∨ ym y = 13 := by unfold ym; split <;> simp
local macro_rules | `(tactic| walk_at "eval Call") => `(tactic| (k_here; (with_reducible show wpAny _ _ (eval (Expr.Call (Expr.Name _ _) _ [] _) _) _ _ _); k_dflt (refine Call_ ?_)))
local macro_rules | `(tactic| walk_at "call ref") => `(tactic| (
  k_here
  (with_reducible show wpAny _ _ (call (Value.ref 57) _) _ _ _)
  k_dflt (
  refine' leap_c ?k1 ?k2 ?k3 ?k4 ?k5 ?kK ?kd ?ku ?_
  (case k1 => first | k_asm | ktn_no "use: the frames below")
  (case k2 => first | k_asm | ktn_no "use: the frame")
  (case k3 => first | k_asm | ktn_no "use: the written part")
  (case k4 => first | k_asm | ktn_no "use: the ledger")
  (case k5 => first | k_asm | ktn_no "use: the top's facts")
  (case kK => first | exact rfl | assumption | ktn_no "use: the caller is no def")
  (case kd => first | ktr_room | ktn_no "use: the frames' room")
  (case ku => first | ktr_units | ktn_no "use: the C units")
  intro t9 h9 tk9 F9 N9
  (try k_sweep)
  (try dsimp only)
  (try k_fold))))
local macro_rules | `(tactic| walk_at "call ref") => `(tactic| (
  k_here
  (with_reducible show wpAny _ _ (call (Value.ref 71) _) _ _ _)
  k_dflt (
  refine' d1_c ?k1 ?k2 ?k3 ?k4 ?k5 ?kK ?kd ?ku ?_
  (case k1 => first | k_asm | ktn_no "use: the frames below")
  (case k2 => first | k_asm | ktn_no "use: the frame")
  (case k3 => first | k_asm | ktn_no "use: the written part")
  (case k4 => first | k_asm | ktn_no "use: the ledger")
  (case k5 => first | k_asm | ktn_no "use: the top's facts")
  (case kK => first | exact rfl | assumption | ktn_no "use: the caller is no def")
  (case kd => first | ktr_room | ktn_no "use: the frames' room")
  (case ku => first | ktr_units | ktn_no "use: the C units")
  intro t9 h9 tk9 F9 N9
  (try k_sweep)
  (try dsimp only)
  (try k_fold))))
local macro_rules | `(tactic| walk_at "call ref") => `(tactic| (
  k_here
  (with_reducible show wpAny _ _ (call (Value.ref 28) _) _ _ _)
  k_dflt (
  refine' mid_c ?k1 ?k2 ?k3 ?k4 ?k5 ?kK ?kd ?ku ?_
  (case k1 => first | k_asm | ktn_no "use: the frames below")
  (case k2 => first | k_asm | ktn_no "use: the frame")
  (case k3 => first | k_asm | ktn_no "use: the written part")
  (case k4 => first | k_asm | ktn_no "use: the ledger")
  (case k5 => first | k_asm | ktn_no "use: the top's facts")
  (case kK => first | exact rfl | assumption | ktn_no "use: the caller is no def")
  (case kd => first | ktr_room | ktn_no "use: the frames' room")
  (case ku => first | ktr_units | ktn_no "use: the C units")
  intro t9 h9 tk9 F9 N9
  (try k_sweep)
  (try dsimp only)
  (try k_fold))))
local macro_rules | `(tactic| walk_at "call ref") => `(tactic| (
  k_here
  (with_reducible show wpAny _ _ (call (Value.ref 21) _) _ _ _)
  k_dflt (
  refine' isl_c ?k1 ?k2 ?k3 ?k4 ?k5 ?kK ?kd ?ku ?_
  (case k1 => first | k_asm | ktn_no "use: the frames below")
  (case k2 => first | k_asm | ktn_no "use: the frame")
  (case k3 => first | k_asm | ktn_no "use: the written part")
  (case k4 => first | k_asm | ktn_no "use: the ledger")
  (case k5 => first | k_asm | ktn_no "use: the top's facts")
  (case kK => first | exact rfl | assumption | ktn_no "use: the caller is no def")
  (case kd => first | ktr_room | ktn_no "use: the frames' room")
  (case ku => first | ktr_units | ktn_no "use: the C units")
  intro t9 h9 tk9 F9 N9
  (try k_sweep)
  (try dsimp only)
  (try k_fold))))
local macro_rules | `(tactic| walk_at "call ref") => `(tactic| (
  k_here
  (with_reducible show wpAny _ _ (call (Value.ref 64) _) _ _ _)
  k_dflt (
  refine' ym_c ?k1 ?k2 ?k3 ?k4 ?k5 ?kK ?kd ?ku ?_
  (case k1 => first | k_asm | ktn_no "use: the frames below")
  (case k2 => first | k_asm | ktn_no "use: the frame")
  (case k3 => first | k_asm | ktn_no "use: the written part")
  (case k4 => first | k_asm | ktn_no "use: the ledger")
  (case k5 => first | k_asm | ktn_no "use: the top's facts")
  (case kK => first | exact rfl | assumption | ktn_no "use: the caller is no def")
  (case kd => first | ktr_room | ktn_no "use: the frames' room")
  (case ku => first | ktr_units | ktn_no "use: the C units")
  intro t9 h9 tk9 F9 N9
  (try k_sweep)
  (try dsimp only)
  (try k_fold))))
local macro_rules | `(tactic| walk_at "call ref") => `(tactic| (
  k_here
  (with_reducible show wpAny _ _ (call (Value.ref 78) _) _ _ _)
  k_dflt (
  refine' d2_c ?k1 ?k2 ?k3 ?k4 ?k5 ?kK ?kd ?ku ?_
  (case k1 => first | k_asm | ktn_no "use: the frames below")
  (case k2 => first | k_asm | ktn_no "use: the frame")
  (case k3 => first | k_asm | ktn_no "use: the written part")
  (case k4 => first | k_asm | ktn_no "use: the ledger")
  (case k5 => first | k_asm | ktn_no "use: the top's facts")
  (case kK => first | exact rfl | assumption | ktn_no "use: the caller is no def")
  (case kd => first | ktr_room | ktn_no "use: the frames' room")
  (case ku => first | ktr_units | ktn_no "use: the C units")
  intro t9 h9 tk9 F9 N9
  (try k_sweep)
  (try dsimp only)
  (try k_fold))))
set_option maxRecDepth 100000 in
set_option maxHeartbeats 2000000 in
theorem hj_c {w loose mean mg mb news} {y : Int} {t t1 t2 : Tok} : Cl w loose mean mg mb 106 3 news [.int y t, .int 7 t1, .int 1 t2] (fun t => .int (hj y) t) := by
  unfold Cl
  k_fill
  intro dp un gd cn cs a ccd cl outer A₀ base h₀ L m s Q E B F X N T hk hdp hun hret
  refine wpAny_call ?_
  k_dflt cell_enter
  repeat' (first | (k_unfold; (try dsimp only)) | (walk1; all_goals (try dsimp only)))
  all_goals (
    refine cb_retI (Q := Q) hret ?_ (by first | with_reducible assumption | k_asm) (by first | with_reducible assumption | (refine cb_drop (by with_reducible assumption) (by intro _ hp9; (repeat (first | with_reducible exact hp9 | with_reducible refine List.mem_cons_of_mem _ ?_)); done)) | k_asm | (refine cb_drop (by assumption) (by kcj_all)))
    (
      law_clear
      (try simp only [hj])
      (try simp only [decide_eq_true_eq, decide_eq_false_iff_not, Bool.not_eq_true, Bool.not_eq_false, Bool.beq_eq_decide_eq] at *)
      first | done | rfl | omega | ((repeat' split) <;> first | rfl | omega | (simp_all; done)) | (simp_all; done)))
local macro_rules | `(tactic| walk_at "call ref") => `(tactic| (
  k_here
  (with_reducible show wpAny _ _ (call (Value.ref 106) _) _ _ _)
  k_dflt (
  refine' hj_c ?k1 ?k2 ?k3 ?k4 ?k5 ?kK ?kd ?ku ?_
  (case k1 => first | k_asm | ktn_no "use: the frames below")
  (case k2 => first | k_asm | ktn_no "use: the frame")
  (case k3 => first | k_asm | ktn_no "use: the written part")
  (case k4 => first | k_asm | ktn_no "use: the ledger")
  (case k5 => first | k_asm | ktn_no "use: the top's facts")
  (case kK => first | exact rfl | assumption | ktn_no "use: the caller is no def")
  (case kd => first | ktr_room | ktn_no "use: the frames' room")
  (case ku => first | ktr_units | ktn_no "use: the C units")
  intro t9 h9 tk9 F9 N9
  (try k_sweep)
  (try dsimp only)
  (try k_fold))))
set_option maxRecDepth 100000 in
set_option maxHeartbeats 2000000 in
theorem yd_c {w loose mean mg mb news} {y : Int} {t : Tok} : Cl w loose mean mg mb 85 4 news [.int y t] (fun t => .int (yd y) t) := by
  unfold Cl
  k_fill
  intro dp un gd cn cs a ccd cl outer A₀ base h₀ L m s Q E B F X N T hk hdp hun hret
  refine wpAny_call ?_
  k_dflt cell_enter
  repeat' (first | (k_unfold; (try dsimp only)) | (walk1; all_goals (try dsimp only)))
  all_goals (
    refine cb_retI (Q := Q) hret ?_ (by first | with_reducible assumption | k_asm) (by first | with_reducible assumption | (refine cb_drop (by with_reducible assumption) (by intro _ hp9; (repeat (first | with_reducible exact hp9 | with_reducible refine List.mem_cons_of_mem _ ?_)); done)) | k_asm | (refine cb_drop (by assumption) (by kcj_all)))
    (
      law_clear
      (try simp only [yd])
      (try simp only [decide_eq_true_eq, decide_eq_false_iff_not, Bool.not_eq_true, Bool.not_eq_false, Bool.beq_eq_decide_eq] at *)
      first | done | rfl | omega | ((repeat' split) <;> first | rfl | omega | (simp_all; done)) | (simp_all; done)))
local macro_rules | `(tactic| walk_at "call ref") => `(tactic| (
  k_here
  (with_reducible show wpAny _ _ (call (Value.ref 85) _) _ _ _)
  k_dflt (
  refine' yd_c ?k1 ?k2 ?k3 ?k4 ?k5 ?kK ?kd ?ku ?_
  (case k1 => first | k_asm | ktn_no "use: the frames below")
  (case k2 => first | k_asm | ktn_no "use: the frame")
  (case k3 => first | k_asm | ktn_no "use: the written part")
  (case k4 => first | k_asm | ktn_no "use: the ledger")
  (case k5 => first | k_asm | ktn_no "use: the top's facts")
  (case kK => first | exact rfl | assumption | ktn_no "use: the caller is no def")
  (case kd => first | ktr_room | ktn_no "use: the frames' room")
  (case ku => first | ktr_units | ktn_no "use: the C units")
  intro t9 h9 tk9 F9 N9
  (try k_sweep)
  (try dsimp only)
  (try k_fold))))
set_option maxRecDepth 100000 in
set_option maxHeartbeats 2000000 in
theorem ml_c {w loose mean mg mb news} {y m : Int} {t tm : Tok} (hm : m ≤ 13) : Cl w loose mean mg mb 92 5 news [.int y t, .int m tm] (fun t => .int (ml y m) t) := by
  unfold Cl
  k_fill
  intro dp un gd cn cs a ccd cl outer A₀ base h₀ L m s Q E B F X N T hk hdp hun hret
  refine wpAny_call ?_
  k_dflt cell_enter
  repeat' (first | (k_unfold; (try dsimp only)) | (walk1; all_goals (try dsimp only)))
  all_goals (
    refine cb_retI (Q := Q) hret ?_ (by first | with_reducible assumption | k_asm) (by first | with_reducible assumption | (refine cb_drop (by with_reducible assumption) (by intro _ hp9; (repeat (first | with_reducible exact hp9 | with_reducible refine List.mem_cons_of_mem _ ?_)); done)) | k_asm | (refine cb_drop (by assumption) (by kcj_all)))
    (
      law_clear
      (try simp only [ml])
      (try simp only [decide_eq_true_eq, decide_eq_false_iff_not, Bool.not_eq_true, Bool.not_eq_false, Bool.beq_eq_decide_eq] at *)
      first | done | rfl | omega | ((repeat' split) <;> first | rfl | omega | (simp_all; done)) | (simp_all; done)))
local macro_rules | `(tactic| walk_at "call ref") => `(tactic| (
  k_here
  (with_reducible show wpAny _ _ (call (Value.ref 92) _) _ _ _)
  k_dflt (
  refine' (ml_c ?kp) ?k1 ?k2 ?k3 ?k4 ?k5 ?kK ?kd ?ku ?_
  (case k1 => first | k_asm | ktn_no "use: the frames below")
  (case k2 => first | k_asm | ktn_no "use: the frame")
  (case k3 => first | k_asm | ktn_no "use: the written part")
  (case k4 => first | k_asm | ktn_no "use: the ledger")
  (case k5 => first | k_asm | ktn_no "use: the top's facts")
  (case kK => first | exact rfl | assumption | ktn_no "use: the caller is no def")
  (case kd => first | ktr_room | ktn_no "use: the frames' room")
  (case ku => first | ktr_units | ktn_no "use: the C units")
  (case kp => first | assumption | omega | l_fact | ktn_no "use: the premise")
  intro t9 h9 tk9 F9 N9
  (try k_sweep)
  (try dsimp only)
  (try k_fold))))
set_option maxRecDepth 100000 in
set_option maxHeartbeats 2000000 in
theorem md_c {w loose mean mg mb news} {y m : Int} {t tm : Tok} (hm : m ≤ 13) : Cl w loose mean mg mb 99 6 news [.int y t, .int m tm] (fun t => .int (ml y m) t) := by
  unfold Cl
  k_fill
  intro dp un gd cn cs a ccd cl outer A₀ base h₀ L m s Q E B F X N T hk hdp hun hret
  refine wpAny_call ?_
  k_dflt cell_enter
  repeat' (first | (k_unfold; (try dsimp only)) | (walk1; all_goals (try dsimp only)))
  all_goals (
    refine cb_retI (Q := Q) hret ?_ (by first | with_reducible assumption | k_asm) (by first | with_reducible assumption | (refine cb_drop (by with_reducible assumption) (by intro _ hp9; (repeat (first | with_reducible exact hp9 | with_reducible refine List.mem_cons_of_mem _ ?_)); done)) | k_asm | (refine cb_drop (by assumption) (by kcj_all)))
    (
      law_clear
      (try simp only [ml])
      (try simp only [decide_eq_true_eq, decide_eq_false_iff_not, Bool.not_eq_true, Bool.not_eq_false, Bool.beq_eq_decide_eq] at *)
      first | done | rfl | omega | ((repeat' split) <;> first | rfl | omega | (simp_all; done)) | (simp_all; done)))
end Mine
end
section
open PySem PySem.W PyProof.Rows PySem.Spec PySem.Calls
namespace Mine
local macro_rules | `(tactic| walk_at "no such step") => `(tactic| fail)
local macro_rules | `(tactic| walk_at "no such step") => `(tactic| fail)
def msum (y a m : Int) (n : Nat) : Int := List.foldl (fun a' k' => a' + ml y k') a (rangeKs m n)
def hjd (y m d : Int) : Int := if m < 7 then mid (msum y (msum y (347996 + d1 y + d2 y + d + 1) 7 (ym y + 1 - 7).toNat) 1 (m.toNat - 1)) else mid (msum y (347996 + d1 y + d2 y + d + 1) 7 (m - 7).toNat)
local macro_rules | `(tactic| walk_at "eval Call") => `(tactic| (k_here; (with_reducible show wpAny _ _ (eval (Expr.Call (Expr.Name _ _) _ [] _) _) _ _ _); k_dflt (refine Call_ ?_)))
local macro_rules | `(tactic| walk_at "call ref") => `(tactic| (
  k_here
  (with_reducible show wpAny _ _ (call (Value.ref 57) _) _ _ _)
  k_dflt (
  refine' leap_c ?k1 ?k2 ?k3 ?k4 ?k5 ?kK ?kd ?ku ?_
  (case k1 => first | k_asm | ktn_no "use: the frames below")
  (case k2 => first | k_asm | ktn_no "use: the frame")
  (case k3 => first | k_asm | ktn_no "use: the written part")
  (case k4 => first | k_asm | ktn_no "use: the ledger")
  (case k5 => first | k_asm | ktn_no "use: the top's facts")
  (case kK => first | exact rfl | assumption | ktn_no "use: the caller is no def")
  (case kd => first | ktr_room | ktn_no "use: the frames' room")
  (case ku => first | ktr_units | ktn_no "use: the C units")
  intro t9 h9 tk9 F9 N9
  (try k_sweep)
  (try dsimp only)
  (try k_fold))))
local macro_rules | `(tactic| walk_at "call ref") => `(tactic| (
  k_here
  (with_reducible show wpAny _ _ (call (Value.ref 71) _) _ _ _)
  k_dflt (
  refine' d1_c ?k1 ?k2 ?k3 ?k4 ?k5 ?kK ?kd ?ku ?_
  (case k1 => first | k_asm | ktn_no "use: the frames below")
  (case k2 => first | k_asm | ktn_no "use: the frame")
  (case k3 => first | k_asm | ktn_no "use: the written part")
  (case k4 => first | k_asm | ktn_no "use: the ledger")
  (case k5 => first | k_asm | ktn_no "use: the top's facts")
  (case kK => first | exact rfl | assumption | ktn_no "use: the caller is no def")
  (case kd => first | ktr_room | ktn_no "use: the frames' room")
  (case ku => first | ktr_units | ktn_no "use: the C units")
  intro t9 h9 tk9 F9 N9
  (try k_sweep)
  (try dsimp only)
  (try k_fold))))
local macro_rules | `(tactic| walk_at "call ref") => `(tactic| (
  k_here
  (with_reducible show wpAny _ _ (call (Value.ref 28) _) _ _ _)
  k_dflt (
  refine' mid_c ?k1 ?k2 ?k3 ?k4 ?k5 ?kK ?kd ?ku ?_
  (case k1 => first | k_asm | ktn_no "use: the frames below")
  (case k2 => first | k_asm | ktn_no "use: the frame")
  (case k3 => first | k_asm | ktn_no "use: the written part")
  (case k4 => first | k_asm | ktn_no "use: the ledger")
  (case k5 => first | k_asm | ktn_no "use: the top's facts")
  (case kK => first | exact rfl | assumption | ktn_no "use: the caller is no def")
  (case kd => first | ktr_room | ktn_no "use: the frames' room")
  (case ku => first | ktr_units | ktn_no "use: the C units")
  intro t9 h9 tk9 F9 N9
  (try k_sweep)
  (try dsimp only)
  (try k_fold))))
local macro_rules | `(tactic| walk_at "call ref") => `(tactic| (
  k_here
  (with_reducible show wpAny _ _ (call (Value.ref 21) _) _ _ _)
  k_dflt (
  refine' isl_c ?k1 ?k2 ?k3 ?k4 ?k5 ?kK ?kd ?ku ?_
  (case k1 => first | k_asm | ktn_no "use: the frames below")
  (case k2 => first | k_asm | ktn_no "use: the frame")
  (case k3 => first | k_asm | ktn_no "use: the written part")
  (case k4 => first | k_asm | ktn_no "use: the ledger")
  (case k5 => first | k_asm | ktn_no "use: the top's facts")
  (case kK => first | exact rfl | assumption | ktn_no "use: the caller is no def")
  (case kd => first | ktr_room | ktn_no "use: the frames' room")
  (case ku => first | ktr_units | ktn_no "use: the C units")
  intro t9 h9 tk9 F9 N9
  (try k_sweep)
  (try dsimp only)
  (try k_fold))))
local macro_rules | `(tactic| walk_at "call ref") => `(tactic| (
  k_here
  (with_reducible show wpAny _ _ (call (Value.ref 64) _) _ _ _)
  k_dflt (
  refine' ym_c ?k1 ?k2 ?k3 ?k4 ?k5 ?kK ?kd ?ku ?_
  (case k1 => first | k_asm | ktn_no "use: the frames below")
  (case k2 => first | k_asm | ktn_no "use: the frame")
  (case k3 => first | k_asm | ktn_no "use: the written part")
  (case k4 => first | k_asm | ktn_no "use: the ledger")
  (case k5 => first | k_asm | ktn_no "use: the top's facts")
  (case kK => first | exact rfl | assumption | ktn_no "use: the caller is no def")
  (case kd => first | ktr_room | ktn_no "use: the frames' room")
  (case ku => first | ktr_units | ktn_no "use: the C units")
  intro t9 h9 tk9 F9 N9
  (try k_sweep)
  (try dsimp only)
  (try k_fold))))
local macro_rules | `(tactic| walk_at "call ref") => `(tactic| (
  k_here
  (with_reducible show wpAny _ _ (call (Value.ref 78) _) _ _ _)
  k_dflt (
  refine' d2_c ?k1 ?k2 ?k3 ?k4 ?k5 ?kK ?kd ?ku ?_
  (case k1 => first | k_asm | ktn_no "use: the frames below")
  (case k2 => first | k_asm | ktn_no "use: the frame")
  (case k3 => first | k_asm | ktn_no "use: the written part")
  (case k4 => first | k_asm | ktn_no "use: the ledger")
  (case k5 => first | k_asm | ktn_no "use: the top's facts")
  (case kK => first | exact rfl | assumption | ktn_no "use: the caller is no def")
  (case kd => first | ktr_room | ktn_no "use: the frames' room")
  (case ku => first | ktr_units | ktn_no "use: the C units")
  intro t9 h9 tk9 F9 N9
  (try k_sweep)
  (try dsimp only)
  (try k_fold))))
local macro_rules | `(tactic| walk_at "call ref") => `(tactic| (
  k_here
  (with_reducible show wpAny _ _ (call (Value.ref 106) _) _ _ _)
  k_dflt (
  refine' hj_c ?k1 ?k2 ?k3 ?k4 ?k5 ?kK ?kd ?ku ?_
  (case k1 => first | k_asm | ktn_no "use: the frames below")
  (case k2 => first | k_asm | ktn_no "use: the frame")
  (case k3 => first | k_asm | ktn_no "use: the written part")
  (case k4 => first | k_asm | ktn_no "use: the ledger")
  (case k5 => first | k_asm | ktn_no "use: the top's facts")
  (case kK => first | exact rfl | assumption | ktn_no "use: the caller is no def")
  (case kd => first | ktr_room | ktn_no "use: the frames' room")
  (case ku => first | ktr_units | ktn_no "use: the C units")
  intro t9 h9 tk9 F9 N9
  (try k_sweep)
  (try dsimp only)
  (try k_fold))))
local macro_rules | `(tactic| walk_at "call ref") => `(tactic| (
  k_here
  (with_reducible show wpAny _ _ (call (Value.ref 85) _) _ _ _)
  k_dflt (
  refine' yd_c ?k1 ?k2 ?k3 ?k4 ?k5 ?kK ?kd ?ku ?_
  (case k1 => first | k_asm | ktn_no "use: the frames below")
  (case k2 => first | k_asm | ktn_no "use: the frame")
  (case k3 => first | k_asm | ktn_no "use: the written part")
  (case k4 => first | k_asm | ktn_no "use: the ledger")
  (case k5 => first | k_asm | ktn_no "use: the top's facts")
  (case kK => first | exact rfl | assumption | ktn_no "use: the caller is no def")
  (case kd => first | ktr_room | ktn_no "use: the frames' room")
  (case ku => first | ktr_units | ktn_no "use: the C units")
  intro t9 h9 tk9 F9 N9
  (try k_sweep)
  (try dsimp only)
  (try k_fold))))
local macro_rules | `(tactic| walk_at "call ref") => `(tactic| (
  k_here
  (with_reducible show wpAny _ _ (call (Value.ref 92) _) _ _ _)
  k_dflt (
  refine' (ml_c ?kp) ?k1 ?k2 ?k3 ?k4 ?k5 ?kK ?kd ?ku ?_
  (case k1 => first | k_asm | ktn_no "use: the frames below")
  (case k2 => first | k_asm | ktn_no "use: the frame")
  (case k3 => first | k_asm | ktn_no "use: the written part")
  (case k4 => first | k_asm | ktn_no "use: the ledger")
  (case k5 => first | k_asm | ktn_no "use: the top's facts")
  (case kK => first | exact rfl | assumption | ktn_no "use: the caller is no def")
  (case kd => first | ktr_room | ktn_no "use: the frames' room")
  (case ku => first | ktr_units | ktn_no "use: the C units")
  (case kp => first | assumption | omega | l_fact | ktn_no "use: the premise")
  intro t9 h9 tk9 F9 N9
  (try k_sweep)
  (try dsimp only)
  (try k_fold))))
local macro_rules | `(tactic| walk_at "call ref") => `(tactic| (
  k_here
  (with_reducible show wpAny _ _ (call (Value.ref 99) _) _ _ _)
  k_dflt (
  refine' (md_c ?kp) ?k1 ?k2 ?k3 ?k4 ?k5 ?kK ?kd ?ku ?_
  (case k1 => first | k_asm | ktn_no "use: the frames below")
  (case k2 => first | k_asm | ktn_no "use: the frame")
  (case k3 => first | k_asm | ktn_no "use: the written part")
  (case k4 => first | k_asm | ktn_no "use: the ledger")
  (case k5 => first | k_asm | ktn_no "use: the top's facts")
  (case kK => first | exact rfl | assumption | ktn_no "use: the caller is no def")
  (case kd => first | ktr_room | ktn_no "use: the frames' room")
  (case ku => first | ktr_units | ktn_no "use: the C units")
  (case kp => first | assumption | omega | l_fact | ktn_no "use: the premise")
  intro t9 h9 tk9 F9 N9
  (try k_sweep)
  (try dsimp only)
  (try k_fold))))
set_option maxRecDepth 100000 in
set_option maxHeartbeats 2000000 in
theorem tj_c {w loose mean mg mb news} {y m d : Int} {t tm td : Tok} (h1 : 1 ≤ m) (h2 : m ≤ 13) : Cl w loose mean mg mb 106 7 news [.int y t, .int m tm, .int d td] (fun t => .int (hjd y m d) t) := by
  unfold Cl
  k_fill
  intro dp un gd cn cs a ccd cl outer A₀ base h₀ L m s Q E B F X N T hk hdp hun hret
  refine wpAny_call ?_
  k_dflt cell_enter
  have hym := ym_or y
  repeat' (first | (k_unfold; (try dsimp only)) | (walk1; all_goals (try dsimp only)))
  all_goals (
    refine cb_retI (Q := Q) hret ?_ (by first | with_reducible assumption | k_asm) (by first | with_reducible assumption | (refine cb_drop (by with_reducible assumption) (by intro _ hp9; (repeat (first | with_reducible exact hp9 | with_reducible refine List.mem_cons_of_mem _ ?_)); done)) | k_asm | (refine cb_drop (by assumption) (by kcj_all)))
    (
      law_clear
      (try simp only [hjd, msum])
      (try simp only [decide_eq_true_eq, decide_eq_false_iff_not, Bool.not_eq_true, Bool.not_eq_false, Bool.beq_eq_decide_eq] at *)
      first | done | rfl | omega | ((repeat' split) <;> first | rfl | omega | (simp_all; done)) | (simp_all; done)))
end Mine
end
section
open PySem PySem.W PyProof.Rows PySem.Spec PySem.Calls
namespace Mine
local macro_rules | `(tactic| walk_at "no such step") => `(tactic| fail)
local macro_rules | `(tactic| walk_at "no such step") => `(tactic| fail)
local macro_rules | `(tactic| walk_at "no such step") => `(tactic| fail)
local macro_rules | `(tactic| walk_at "no such step") => `(tactic| fail)
local macro_rules | `(tactic| walk_at "no such step") => `(tactic| fail)
local macro_rules | `(tactic| walk_at "no such step") => `(tactic| fail)
local macro_rules | `(tactic| walk_at "no such step") => `(tactic| fail)
def has30 (m : Int) : Bool := ([4, 6, 9, 11] : List Int).any (· == m)
def dim (y m : Int) : Int := if m = 2 then (if isl y = true then 29 else 28) else if has30 m = true then 30 else 31
theorem dim_or {y m d : Int} (h : 0 < d ∧ d ≤ dim y m) : (m = 2 ∧ 0 < d ∧ d ≤ (if isl y = true then 29 else 28)) ∨ (¬ m = 2 ∧ 0 < d ∧ d ≤ (if has30 m = true then 30 else 31)) := by
  unfold dim at h
  split at h
  · exact .inl ⟨by assumption, h.1, h.2⟩
  · exact .inr ⟨by assumption, h.1, h.2⟩
theorem dim_not {y m d : Int} (h : ¬ (0 < d ∧ d ≤ dim y m)) : (m = 2 ∧ ¬ 0 < d) ∨ (m = 2 ∧ 0 < d ∧ ¬ d ≤ (if isl y = true then 29 else 28)) ∨ (¬ m = 2 ∧ ¬ 0 < d) ∨ (¬ m = 2 ∧ 0 < d ∧ ¬ d ≤ (if has30 m = true then 30 else 31)) := by
  unfold dim at h
  by_cases h0 : 0 < d <;> by_cases h2 : m = 2 <;> simp only [h0, h2, if_true, if_false, true_and, not_true, not_false_iff, false_and, or_false, false_or, true_or, or_true] at h ⊢
  · exact h
  · exact h
def gj (y m d : Int) : Int := 1721426 - 1 + 365 * (y - 1) + (y - 1).fdiv 4 + -((y - 1).fdiv 100) + (y - 1).fdiv 400 + ((367 * m - 362).fdiv 12 + (if m ≤ 2 then 0 else if isl y then -1 else -2) + d)
theorem dim_one (y m : Int) : 0 < (1 : Int) ∧ 1 ≤ dim y m := by unfold dim; refine ⟨by omega, ?_⟩; (repeat' split) <;> omega
def dep (j : Int) : Int := j - 1721426
def dqc (j : Int) : Int := (dep j).fmod 146097
def ce (j : Int) : Int := (dqc j).fdiv 36524
def dce (j : Int) : Int := (dqc j).fmod 36524
def dqd (j : Int) : Int := (dce j).fmod 1461
def yi (j : Int) : Int := (dqd j).fdiv 365
def y0 (j : Int) : Int := (dep j).fdiv 146097 * 400 + ce j * 100 + (dce j).fdiv 1461 * 4 + yi j
def gy (j : Int) : Int := if ce j = 4 then y0 j else if yi j = 4 then y0 j else y0 j + 1
def yday (j : Int) : Int := j - gj (gy j) 1 1
def gm (j : Int) : Int := ((yday j + (if yday j < 58 + (if isl (gy j) then 1 else 0) then 0 else if isl (gy j) then 1 else 2)) * 12 + 373).fdiv 367
def gd (j : Int) : Int := j - gj (gy j) (gm j) 1 + 1
/-- a tuple of three ints comes back -/
abbrev Ret3 (h₀ : Heap) (L : Addr) (m : Str → Option Value) (news : List (Addr × Obj)) (s : Shared) (Q : Value → Shared → Prop) (x y z : Int) : Prop :=
  ∀ (D : Addr) (t1 t2 t3 : Tok) (c : Nat) (h' : Heap) (tk' : Nat), Fr h₀ L h' m → News h₀ L h' ((D, ({ cls := .type "tuple", data := .seq #[.int x t1, .int y t2, .int z t3] c } : Obj)) :: news) → AllLt D news → Q (.ref D) { s with heap := h', toks := tk' }
abbrev Cl3 (w : World) (loose : List Str) (mean : ExcName → Option Value) (mg mb : Str → Option Value) (f : Addr) (need : Nat) (news : List (Addr × Obj)) (vs : List Value) (x y z : Int) : Prop :=
  ∀ {dp un : Nat} {gd : Option (List Code)} {cn : Str} {cs : Scope} {a : Addr} {ccd : Value} {cl : List (Str × Addr)} {outer : List Env} {A₀ : Around} {base h₀ : Heap} {L : Addr} {m : Str → Option Value} {s : Shared} {Q E : Value → Shared → Prop},
    Below A₀ base outer h₀ → Fr h₀ L s.heap m → (hd.heap_39 w.params).In h₀ → News h₀ L s.heap news → Top hd.view_39 loose mean mg mb h₀ → cs.kind = .function →
    dp + need < recursionLimit → un + 8 * need < cLine → Ret3 h₀ L m news s Q x y z →
      wpAny (model PySem.Challenge.rw_bn0008_01.row.prog w) (ktrTop dp un gd cn cs L a ccd cl outer) (call (.ref f) vs) Q E s
theorem ret3 {h₀ h' : Heap} {L D : Addr} {m : Str → Option Value} {news : List (Addr × Obj)} {s : Shared} {Q : Value → Shared → Prop} {x y z x' y' z' : Int} {t1 t2 t3 : Tok} {c tk' : Nat}
    (hret : Ret3 h₀ L m news s Q x y z) (e1 : x' = x) (e2 : y' = y) (e3 : z' = z) (F : Fr h₀ L h' m) (N : News h₀ L h' ((D, ({ cls := .type "tuple", data := .seq #[.int x' t1, .int y' t2, .int z' t3] c } : Obj)) :: news)) (hl : AllLt D news) : Q (.ref D) { s with heap := h', toks := tk' } := by
  subst e1; subst e2; subst e3
  exact hret D t1 t2 t3 c h' tk' F N hl
local macro_rules | `(tactic| walk_at "eval Call") => `(tactic| (k_here; (with_reducible show wpAny _ _ (eval (Expr.Call (Expr.Name _ _) _ [] _) _) _ _ _); k_dflt (refine Call_ ?_)))
local macro_rules | `(tactic| walk_at "call ref") => `(tactic| (
  k_here
  (with_reducible show wpAny _ _ (call (Value.ref 57) _) _ _ _)
  k_dflt (
  refine' leap_c ?k1 ?k2 ?k3 ?k4 ?k5 ?kK ?kd ?ku ?_
  (case k1 => first | k_asm | ktn_no "use: the frames below")
  (case k2 => first | k_asm | ktn_no "use: the frame")
  (case k3 => first | k_asm | ktn_no "use: the written part")
  (case k4 => first | k_asm | ktn_no "use: the ledger")
  (case k5 => first | k_asm | ktn_no "use: the top's facts")
  (case kK => first | exact rfl | assumption | ktn_no "use: the caller is no def")
  (case kd => first | ktr_room | ktn_no "use: the frames' room")
  (case ku => first | ktr_units | ktn_no "use: the C units")
  intro t9 h9 tk9 F9 N9
  (try k_sweep)
  (try dsimp only)
  (try k_fold))))
local macro_rules | `(tactic| walk_at "call ref") => `(tactic| (
  k_here
  (with_reducible show wpAny _ _ (call (Value.ref 71) _) _ _ _)
  k_dflt (
  refine' d1_c ?k1 ?k2 ?k3 ?k4 ?k5 ?kK ?kd ?ku ?_
  (case k1 => first | k_asm | ktn_no "use: the frames below")
  (case k2 => first | k_asm | ktn_no "use: the frame")
  (case k3 => first | k_asm | ktn_no "use: the written part")
  (case k4 => first | k_asm | ktn_no "use: the ledger")
  (case k5 => first | k_asm | ktn_no "use: the top's facts")
  (case kK => first | exact rfl | assumption | ktn_no "use: the caller is no def")
  (case kd => first | ktr_room | ktn_no "use: the frames' room")
  (case ku => first | ktr_units | ktn_no "use: the C units")
  intro t9 h9 tk9 F9 N9
  (try k_sweep)
  (try dsimp only)
  (try k_fold))))
local macro_rules | `(tactic| walk_at "call ref") => `(tactic| (
  k_here
  (with_reducible show wpAny _ _ (call (Value.ref 28) _) _ _ _)
  k_dflt (
  refine' mid_c ?k1 ?k2 ?k3 ?k4 ?k5 ?kK ?kd ?ku ?_
  (case k1 => first | k_asm | ktn_no "use: the frames below")
  (case k2 => first | k_asm | ktn_no "use: the frame")
  (case k3 => first | k_asm | ktn_no "use: the written part")
  (case k4 => first | k_asm | ktn_no "use: the ledger")
  (case k5 => first | k_asm | ktn_no "use: the top's facts")
  (case kK => first | exact rfl | assumption | ktn_no "use: the caller is no def")
  (case kd => first | ktr_room | ktn_no "use: the frames' room")
  (case ku => first | ktr_units | ktn_no "use: the C units")
  intro t9 h9 tk9 F9 N9
  (try k_sweep)
  (try dsimp only)
  (try k_fold))))
local macro_rules | `(tactic| walk_at "call ref") => `(tactic| (
  k_here
  (with_reducible show wpAny _ _ (call (Value.ref 21) _) _ _ _)
  k_dflt (
  refine' isl_c ?k1 ?k2 ?k3 ?k4 ?k5 ?kK ?kd ?ku ?_
  (case k1 => first | k_asm | ktn_no "use: the frames below")
  (case k2 => first | k_asm | ktn_no "use: the frame")
  (case k3 => first | k_asm | ktn_no "use: the written part")
  (case k4 => first | k_asm | ktn_no "use: the ledger")
  (case k5 => first | k_asm | ktn_no "use: the top's facts")
  (case kK => first | exact rfl | assumption | ktn_no "use: the caller is no def")
  (case kd => first | ktr_room | ktn_no "use: the frames' room")
  (case ku => first | ktr_units | ktn_no "use: the C units")
  intro t9 h9 tk9 F9 N9
  (try k_sweep)
  (try dsimp only)
  (try k_fold))))
local macro_rules | `(tactic| walk_at "call ref") => `(tactic| (
  k_here
  (with_reducible show wpAny _ _ (call (Value.ref 64) _) _ _ _)
  k_dflt (
  refine' ym_c ?k1 ?k2 ?k3 ?k4 ?k5 ?kK ?kd ?ku ?_
  (case k1 => first | k_asm | ktn_no "use: the frames below")
  (case k2 => first | k_asm | ktn_no "use: the frame")
  (case k3 => first | k_asm | ktn_no "use: the written part")
  (case k4 => first | k_asm | ktn_no "use: the ledger")
  (case k5 => first | k_asm | ktn_no "use: the top's facts")
  (case kK => first | exact rfl | assumption | ktn_no "use: the caller is no def")
  (case kd => first | ktr_room | ktn_no "use: the frames' room")
  (case ku => first | ktr_units | ktn_no "use: the C units")
  intro t9 h9 tk9 F9 N9
  (try k_sweep)
  (try dsimp only)
  (try k_fold))))
local macro_rules | `(tactic| walk_at "call ref") => `(tactic| (
  k_here
  (with_reducible show wpAny _ _ (call (Value.ref 78) _) _ _ _)
  k_dflt (
  refine' d2_c ?k1 ?k2 ?k3 ?k4 ?k5 ?kK ?kd ?ku ?_
  (case k1 => first | k_asm | ktn_no "use: the frames below")
  (case k2 => first | k_asm | ktn_no "use: the frame")
  (case k3 => first | k_asm | ktn_no "use: the written part")
  (case k4 => first | k_asm | ktn_no "use: the ledger")
  (case k5 => first | k_asm | ktn_no "use: the top's facts")
  (case kK => first | exact rfl | assumption | ktn_no "use: the caller is no def")
  (case kd => first | ktr_room | ktn_no "use: the frames' room")
  (case ku => first | ktr_units | ktn_no "use: the C units")
  intro t9 h9 tk9 F9 N9
  (try k_sweep)
  (try dsimp only)
  (try k_fold))))
theorem in30 {prog : Program} {w : World} {A : Around} {E : Value → Shared → Prop} {s : Shared} {K : Frag} {x : Int} {u : Tok} {Q : Value → Shared → Prop} {t1 t2 t3 t4 : Tok} {n : Nat} {dd : Option Addr} {sl : Array (Option Value)} (X : K.In s.heap) (hl : K.lookup 29 = some ⟨.type "tuple", dd, .seq [.int 4 t1, .int 6 t2, .int 9 t3, .int 11 t4].toArray n, sl⟩)
    (h : Q (.bool (has30 x)) s) : wpAny (model prog w) A (compareOp .In (.int x u) (.ref 29)) Q E s := in_tuple_ints (tupK X hl) (.cons _ _ (.cons _ _ (.cons _ _ (.cons _ _ .nil)))) h
local macro_rules | `(tactic| walk_at "compareOp In int ref") => `(tactic| (k_here; (with_reducible show wpAny _ _ (compareOp CmpOp.In (Value.int _ _) (Value.ref 29)) _ _ _); k_dflt (refine' in30 ?X ?l ?_; (case X => first | assumption | exact Frag.In.keeps (by k_asm) (Fr.keep (by k_asm))); (case l => k_is))))
local macro_rules | `(tactic| walk_at "ite") => `(tactic| (k_here; first | with_reducible refine ite_epos (by with_reducible assumption) ?_ | with_reducible refine ite_eneg (by with_reducible assumption) ?_ | with_reducible refine ite_dpos (by with_reducible assumption) ?_ | with_reducible refine ite_dneg (by with_reducible assumption) ?_ | with_reducible refine ite_pos (by with_reducible assumption) ?_ | with_reducible refine ite_bneg (by with_reducible assumption) ?_ | with_reducible refine ite_neg (by with_reducible assumption) ?_))
local macro_rules | `(tactic| walk_at "eval IfExp") => `(tactic| (k_here; k_dflt (refine ifexp_ints ?_)))
set_option maxRecDepth 100000 in
set_option maxHeartbeats 2000000 in
theorem lg_c {w loose mean mg mb news} {y m d : Int} {t tm td : Tok} (h : 0 < d ∧ d ≤ dim y m) : Cl w loose mean mg mb 36 2 news [.int y t, .int m tm, .int d td] (fun _ => .bool true) := by
  rcases dim_or h with ⟨h1, h2, h3⟩ | ⟨h1, h2, h3⟩
  all_goals (
    unfold Cl
    k_fill
    intro dp un gd cn cs a ccd cl outer A₀ base h₀ L m s Q E B F X N T hk hdp hun hret
    refine wpAny_call ?_
    k_dflt cell_enter
    repeat' (first | (k_unfold; (try dsimp only)) | (walk1; all_goals (try dsimp only))))
  all_goals (
    first | (exfalso; law_clear; (try simp only [decide_eq_true_eq, decide_eq_false_iff_not, Bool.not_eq_true, Bool.not_eq_false, Bool.not_eq_true', Bool.not_eq_false', Bool.or_eq_true, beq_iff_eq, Bool.or_eq_false_iff, beq_eq_false_iff_ne] at *); first | omega | (simp_all; done) | (simp_all; omega)) | (
    refine cb_retB (Q := Q) hret ?_ (by first | with_reducible assumption | k_asm) (by first | with_reducible assumption | (refine cb_drop (by with_reducible assumption) (by intro _ hp9; (repeat (first | with_reducible exact hp9 | with_reducible refine List.mem_cons_of_mem _ ?_)); done)) | k_asm | (refine cb_drop (by assumption) (by kcj_all)))
    (
      law_clear
      rfl)))
local macro_rules | `(tactic| walk_at "call ref") => `(tactic| (
  k_here
  (with_reducible show wpAny _ _ (call (Value.ref 36) _) _ _ _)
  k_dflt (
  refine' (lg_c ?kp) ?k1 ?k2 ?k3 ?k4 ?k5 ?kK ?kd ?ku ?_
  (case k1 => first | k_asm | ktn_no "use: the frames below")
  (case k2 => first | k_asm | ktn_no "use: the frame")
  (case k3 => first | k_asm | ktn_no "use: the written part")
  (case k4 => first | k_asm | ktn_no "use: the ledger")
  (case k5 => first | k_asm | ktn_no "use: the top's facts")
  (case kK => first | exact rfl | assumption | ktn_no "use: the caller is no def")
  (case kd => first | ktr_room | ktn_no "use: the frames' room")
  (case ku => first | ktr_units | ktn_no "use: the C units")
  (case kp => first | assumption | omega | l_fact | ktn_no "use: the premise")
  intro t9 h9 tk9 F9 N9
  (try k_sweep)
  (try dsimp only)
  (try k_fold))))
set_option maxRecDepth 100000 in
set_option maxHeartbeats 2000000 in
theorem gj_c {w loose mean mg mb news} {y m d : Int} {t tm td : Tok} (h : 0 < d ∧ d ≤ dim y m) : Cl w loose mean mg mb 43 3 news [.int y t, .int m tm, .int d td] (fun t => .int (gj y m d) t) := by
  unfold Cl
  k_fill
  intro dp un gd cn cs a ccd cl outer A₀ base h₀ L m s Q E B F X N T hk hdp hun hret
  refine wpAny_call ?_
  k_dflt cell_enter
  repeat' (first | (k_unfold; (try dsimp only)) | (walk1; all_goals (try dsimp only)))
  all_goals (
    refine cb_retI (Q := Q) hret ?_ (by first | with_reducible assumption | k_asm) (by first | with_reducible assumption | (refine cb_drop (by with_reducible assumption) (by intro _ hp9; (repeat (first | with_reducible exact hp9 | with_reducible refine List.mem_cons_of_mem _ ?_)); done)) | k_asm | (refine cb_drop (by assumption) (by kcj_all)))
    (
      law_clear
      (try simp only [gj])
      (try simp only [decide_eq_true_eq, decide_eq_false_iff_not, Bool.not_eq_true, Bool.not_eq_false, Bool.beq_eq_decide_eq] at *)
      first | done | rfl | omega | ((repeat' split) <;> first | rfl | omega | (simp_all; done)) | (simp_all; done)))
local macro_rules | `(tactic| walk_at "call ref") => `(tactic| (
  k_here
  (with_reducible show wpAny _ _ (call (Value.ref 43) _) _ _ _)
  k_dflt (
  refine' (gj_c ?kp) ?k1 ?k2 ?k3 ?k4 ?k5 ?kK ?kd ?ku ?_
  (case k1 => first | k_asm | ktn_no "use: the frames below")
  (case k2 => first | k_asm | ktn_no "use: the frame")
  (case k3 => first | k_asm | ktn_no "use: the written part")
  (case k4 => first | k_asm | ktn_no "use: the ledger")
  (case k5 => first | k_asm | ktn_no "use: the top's facts")
  (case kK => first | exact rfl | assumption | ktn_no "use: the caller is no def")
  (case kd => first | ktr_room | ktn_no "use: the frames' room")
  (case ku => first | ktr_units | ktn_no "use: the C units")
  (case kp => first | exact dim_one _ _ | assumption | omega | l_fact | ktn_no "use: the premise")
  intro t9 h9 tk9 F9 N9
  (try k_sweep)
  (try dsimp only)
  (try k_fold))))
set_option maxRecDepth 100000 in
set_option maxHeartbeats 2000000 in
theorem fg_c {w loose mean mg mb news} {j : Int} {t : Tok}  : Cl3 w loose mean mg mb 50 4 news [.int j t] (gy j) (gm j) (gd j) := by
  unfold Cl3
  k_fill
  intro dp un gd cn cs a ccd cl outer A₀ base h₀ L m s Q E B F X N T hk hdp hun hret
  refine wpAny_call ?_
  k_dflt cell_enter
  repeat' (first | (k_unfold; (try dsimp only)) | (walk1; all_goals (try dsimp only)))
  all_goals (
    refine ret3 (Q := Q) hret ?_ ?_ ?_ (by first | with_reducible assumption | k_asm) (by first | with_reducible assumption | (refine cb_drop (by with_reducible assumption) (by intro _ hp9; (repeat (first | with_reducible exact hp9 | with_reducible refine List.mem_cons_of_mem _ ?_)); done)) | k_asm | (refine cb_drop (by assumption) (by kcj_all))) (by kcu_lt)
    all_goals (
      law_clear
      (try simp only [decide_eq_true_eq, decide_eq_false_iff_not, Bool.not_eq_true, Bool.not_eq_false] at *)
      (try simp only [gm, gd, yday, gy, y0, yi, dqd, dce, ce, dqc, dep])
      first | done | rfl | ((repeat' split) <;> first | rfl | contradiction | omega | (simp_all; done) | (simp_all; (repeat' split) <;> first | rfl | omega))))
end Mine
end
section
open PySem PySem.W PyProof.Rows PySem.Spec PySem.Calls
namespace Mine
local macro_rules | `(tactic| walk_at "no such step") => `(tactic| fail)
local macro_rules | `(tactic| walk_at "no such step") => `(tactic| fail)
local macro_rules | `(tactic| walk_at "no such step") => `(tactic| fail)
local macro_rules | `(tactic| walk_at "no such step") => `(tactic| fail)
local macro_rules | `(tactic| walk_at "no such step") => `(tactic| fail)
local macro_rules | `(tactic| walk_at "no such step") => `(tactic| fail)
local macro_rules | `(tactic| walk_at "no such step") => `(tactic| fail)
local macro_rules | `(tactic| walk_at "no such step") => `(tactic| fail)
local macro_rules | `(tactic| walk_at "no such step") => `(tactic| fail)
local macro_rules | `(tactic| walk_at "no such step") => `(tactic| fail)
local macro_rules | `(tactic| walk_at "no such step") => `(tactic| fail)
local macro_rules | `(tactic| walk_at "no such step") => `(tactic| fail)
local macro_rules | `(tactic| walk_at "no such step") => `(tactic| fail)
def ja (y : Int) : Int := 1721426 + 146097 * (y - 1).fdiv 400 + 36524 * ((y - 1).fmod 400).fdiv 100 + 1461 * (((y - 1).fmod 400).fmod 100).fdiv 4 + 365 * (((y - 1).fmod 400).fmod 100).fmod 4
def moons : List Int := [0, 12, 24, 37, 49, 61, 74, 86, 99, 111, 123, 136, 148, 160, 173, 185, 197, 210, 222, 235]
def moon (i : Int) : Int := moons.getD i.toNat 0
def th (y : Int) : Bool := decide (moon ((y - 1).fmod 19 + 1) - moon ((y - 1).fmod 19) = 13)
def te (y : Int) : Int := (31524 + 765433 * (235 * (y - 1).fdiv 19 + moon ((y - 1).fmod 19))).fdiv 25920
def tp (y : Int) : Int := (31524 + 765433 * (235 * (y - 1).fdiv 19 + moon ((y - 1).fmod 19))).fmod 25920
def te1 (y : Int) : Int := if tp y ≥ 19440 then te y + 1 else if (te y).fmod 7 = 2 ∧ tp y ≥ 9924 ∧ th y = false then te y + 2 else if (te y).fmod 7 = 1 ∧ tp y ≥ 16789 ∧ th (y - 1) = true then te y + 1 else te y
def ti (y : Int) : Int := 347997 + (if 0 = (te1 y).fmod 7 ∨ 3 = (te1 y).fmod 7 ∨ 5 = (te1 y).fmod 7 then te1 y + 1 else te1 y)
local macro_rules | `(tactic| walk_at "eval Call") => `(tactic| (k_here; (with_reducible show wpAny _ _ (eval (Expr.Call (Expr.Name _ _) _ [] _) _) _ _ _); k_dflt (refine Call_ ?_)))
local macro_rules | `(tactic| walk_at "call ref") => `(tactic| (
  k_here
  (with_reducible show wpAny _ _ (call (Value.ref 57) _) _ _ _)
  k_dflt (
  refine' leap_c ?k1 ?k2 ?k3 ?k4 ?k5 ?kK ?kd ?ku ?_
  (case k1 => first | k_asm | ktn_no "use: the frames below")
  (case k2 => first | k_asm | ktn_no "use: the frame")
  (case k3 => first | k_asm | ktn_no "use: the written part")
  (case k4 => first | k_asm | ktn_no "use: the ledger")
  (case k5 => first | k_asm | ktn_no "use: the top's facts")
  (case kK => first | exact rfl | assumption | ktn_no "use: the caller is no def")
  (case kd => first | ktr_room | ktn_no "use: the frames' room")
  (case ku => first | ktr_units | ktn_no "use: the C units")
  intro t9 h9 tk9 F9 N9
  (try k_sweep)
  (try dsimp only)
  (try k_fold))))
local macro_rules | `(tactic| walk_at "call ref") => `(tactic| (
  k_here
  (with_reducible show wpAny _ _ (call (Value.ref 71) _) _ _ _)
  k_dflt (
  refine' d1_c ?k1 ?k2 ?k3 ?k4 ?k5 ?kK ?kd ?ku ?_
  (case k1 => first | k_asm | ktn_no "use: the frames below")
  (case k2 => first | k_asm | ktn_no "use: the frame")
  (case k3 => first | k_asm | ktn_no "use: the written part")
  (case k4 => first | k_asm | ktn_no "use: the ledger")
  (case k5 => first | k_asm | ktn_no "use: the top's facts")
  (case kK => first | exact rfl | assumption | ktn_no "use: the caller is no def")
  (case kd => first | ktr_room | ktn_no "use: the frames' room")
  (case ku => first | ktr_units | ktn_no "use: the C units")
  intro t9 h9 tk9 F9 N9
  (try k_sweep)
  (try dsimp only)
  (try k_fold))))
local macro_rules | `(tactic| walk_at "call ref") => `(tactic| (
  k_here
  (with_reducible show wpAny _ _ (call (Value.ref 28) _) _ _ _)
  k_dflt (
  refine' mid_c ?k1 ?k2 ?k3 ?k4 ?k5 ?kK ?kd ?ku ?_
  (case k1 => first | k_asm | ktn_no "use: the frames below")
  (case k2 => first | k_asm | ktn_no "use: the frame")
  (case k3 => first | k_asm | ktn_no "use: the written part")
  (case k4 => first | k_asm | ktn_no "use: the ledger")
  (case k5 => first | k_asm | ktn_no "use: the top's facts")
  (case kK => first | exact rfl | assumption | ktn_no "use: the caller is no def")
  (case kd => first | ktr_room | ktn_no "use: the frames' room")
  (case ku => first | ktr_units | ktn_no "use: the C units")
  intro t9 h9 tk9 F9 N9
  (try k_sweep)
  (try dsimp only)
  (try k_fold))))
local macro_rules | `(tactic| walk_at "call ref") => `(tactic| (
  k_here
  (with_reducible show wpAny _ _ (call (Value.ref 21) _) _ _ _)
  k_dflt (
  refine' isl_c ?k1 ?k2 ?k3 ?k4 ?k5 ?kK ?kd ?ku ?_
  (case k1 => first | k_asm | ktn_no "use: the frames below")
  (case k2 => first | k_asm | ktn_no "use: the frame")
  (case k3 => first | k_asm | ktn_no "use: the written part")
  (case k4 => first | k_asm | ktn_no "use: the ledger")
  (case k5 => first | k_asm | ktn_no "use: the top's facts")
  (case kK => first | exact rfl | assumption | ktn_no "use: the caller is no def")
  (case kd => first | ktr_room | ktn_no "use: the frames' room")
  (case ku => first | ktr_units | ktn_no "use: the C units")
  intro t9 h9 tk9 F9 N9
  (try k_sweep)
  (try dsimp only)
  (try k_fold))))
local macro_rules | `(tactic| walk_at "call ref") => `(tactic| (
  k_here
  (with_reducible show wpAny _ _ (call (Value.ref 64) _) _ _ _)
  k_dflt (
  refine' ym_c ?k1 ?k2 ?k3 ?k4 ?k5 ?kK ?kd ?ku ?_
  (case k1 => first | k_asm | ktn_no "use: the frames below")
  (case k2 => first | k_asm | ktn_no "use: the frame")
  (case k3 => first | k_asm | ktn_no "use: the written part")
  (case k4 => first | k_asm | ktn_no "use: the ledger")
  (case k5 => first | k_asm | ktn_no "use: the top's facts")
  (case kK => first | exact rfl | assumption | ktn_no "use: the caller is no def")
  (case kd => first | ktr_room | ktn_no "use: the frames' room")
  (case ku => first | ktr_units | ktn_no "use: the C units")
  intro t9 h9 tk9 F9 N9
  (try k_sweep)
  (try dsimp only)
  (try k_fold))))
local macro_rules | `(tactic| walk_at "call ref") => `(tactic| (
  k_here
  (with_reducible show wpAny _ _ (call (Value.ref 78) _) _ _ _)
  k_dflt (
  refine' d2_c ?k1 ?k2 ?k3 ?k4 ?k5 ?kK ?kd ?ku ?_
  (case k1 => first | k_asm | ktn_no "use: the frames below")
  (case k2 => first | k_asm | ktn_no "use: the frame")
  (case k3 => first | k_asm | ktn_no "use: the written part")
  (case k4 => first | k_asm | ktn_no "use: the ledger")
  (case k5 => first | k_asm | ktn_no "use: the top's facts")
  (case kK => first | exact rfl | assumption | ktn_no "use: the caller is no def")
  (case kd => first | ktr_room | ktn_no "use: the frames' room")
  (case ku => first | ktr_units | ktn_no "use: the C units")
  intro t9 h9 tk9 F9 N9
  (try k_sweep)
  (try dsimp only)
  (try k_fold))))
set_option maxRecDepth 100000 in
set_option maxHeartbeats 2000000 in
theorem ja_c {w loose mean mg mb news} {y : Int} {t : Tok} : Cl w loose mean mg mb 163 1 news [.int y t] (fun t => .int (ja y) t) := by
  unfold Cl
  k_fill
  intro dp un gd cn cs a ccd cl outer A₀ base h₀ L m s Q E B F X N T hk hdp hun hret
  refine wpAny_call ?_
  k_dflt cell_enter
  repeat' (first | (k_unfold; (try dsimp only)) | (walk1; all_goals (try dsimp only)))
  all_goals (
    refine cb_retI (Q := Q) hret ?_ (by first | with_reducible assumption | k_asm) (by first | with_reducible assumption | (refine cb_drop (by with_reducible assumption) (by intro _ hp9; (repeat (first | with_reducible exact hp9 | with_reducible refine List.mem_cons_of_mem _ ?_)); done)) | k_asm | (refine cb_drop (by assumption) (by kcj_all)))
    (
      law_clear
      (try simp only [ja])
      (try simp only [decide_eq_true_eq, decide_eq_false_iff_not, Bool.not_eq_true, Bool.not_eq_false, Bool.beq_eq_decide_eq] at *)
      first | done | rfl | omega | ((repeat' split) <;> first | rfl | omega | (simp_all; done)) | (simp_all; done)))
local macro_rules | `(tactic| walk_at "call ref") => `(tactic| (
  k_here
  (with_reducible show wpAny _ _ (call (Value.ref 163) _) _ _ _)
  k_dflt (
  refine' ja_c ?k1 ?k2 ?k3 ?k4 ?k5 ?kK ?kd ?ku ?_
  (case k1 => first | k_asm | ktn_no "use: the frames below")
  (case k2 => first | k_asm | ktn_no "use: the frame")
  (case k3 => first | k_asm | ktn_no "use: the written part")
  (case k4 => first | k_asm | ktn_no "use: the ledger")
  (case k5 => first | k_asm | ktn_no "use: the top's facts")
  (case kK => first | exact rfl | assumption | ktn_no "use: the caller is no def")
  (case kd => first | ktr_room | ktn_no "use: the frames' room")
  (case ku => first | ktr_units | ktn_no "use: the C units")
  intro t9 h9 tk9 F9 N9
  (try k_sweep)
  (try dsimp only)
  (try k_fold))))
set_option maxRecDepth 100000 in
set_option maxHeartbeats 2000000 in
theorem th_c {w loose mean mg mb news} {y : Int} {t : Tok} : Cl w loose mean mg mb 142 1 news [.int y t] (fun _ => .bool (th y)) := by
  unfold Cl
  k_fill
  intro dp un gd cn cs a ccd cl outer A₀ base h₀ L m s Q E B F X N T hk hdp hun hret
  refine wpAny_call ?_
  k_dflt cell_enter
  repeat' (first | (k_unfold; (try dsimp only)) | (walk1; all_goals (try dsimp only)))
  all_goals (
    refine cb_retB (Q := Q) hret ?_ (by first | with_reducible assumption | k_asm) (by first | with_reducible assumption | (refine cb_drop (by with_reducible assumption) (by intro _ hp9; (repeat (first | with_reducible exact hp9 | with_reducible refine List.mem_cons_of_mem _ ?_)); done)) | k_asm | (refine cb_drop (by assumption) (by kcj_all)))
    (
      law_clear
      (try simp only [th, moon, moons])
      (try simp only [decide_eq_true_eq, decide_eq_false_iff_not, Bool.not_eq_true, Bool.not_eq_false, Bool.beq_eq_decide_eq] at *)
      first | done | rfl | omega | ((repeat' split) <;> first | rfl | omega | (simp_all; done)) | (simp_all; done)))
local macro_rules | `(tactic| walk_at "call ref") => `(tactic| (
  k_here
  (with_reducible show wpAny _ _ (call (Value.ref 142) _) _ _ _)
  k_dflt (
  refine' th_c ?k1 ?k2 ?k3 ?k4 ?k5 ?kK ?kd ?ku ?_
  (case k1 => first | k_asm | ktn_no "use: the frames below")
  (case k2 => first | k_asm | ktn_no "use: the frame")
  (case k3 => first | k_asm | ktn_no "use: the written part")
  (case k4 => first | k_asm | ktn_no "use: the ledger")
  (case k5 => first | k_asm | ktn_no "use: the top's facts")
  (case kK => first | exact rfl | assumption | ktn_no "use: the caller is no def")
  (case kd => first | ktr_room | ktn_no "use: the frames' room")
  (case ku => first | ktr_units | ktn_no "use: the C units")
  intro t9 h9 tk9 F9 N9
  (try k_sweep)
  (try dsimp only)
  (try k_fold))))
set_option maxRecDepth 100000 in
set_option maxHeartbeats 2000000 in
theorem ti_c {w loose mean mg mb news} {y : Int} {t : Tok} : Cl w loose mean mg mb 149 2 news [.int y t] (fun t => .int (ti y) t) := by
  unfold Cl
  k_fill
  intro dp un gd cn cs a ccd cl outer A₀ base h₀ L m s Q E B F X N T hk hdp hun hret
  refine wpAny_call ?_
  k_dflt cell_enter
  repeat' (first | (k_unfold; (try dsimp only)) | (walk1; all_goals (try dsimp only)))
  all_goals (
    refine cb_retI (Q := Q) hret ?_ (by first | with_reducible assumption | k_asm) (by first | with_reducible assumption | (refine cb_drop (by with_reducible assumption) (by intro _ hp9; (repeat (first | with_reducible exact hp9 | with_reducible refine List.mem_cons_of_mem _ ?_)); done)) | k_asm | (refine cb_drop (by assumption) (by kcj_all)))
    (
      law_clear
      have hA : (31524 + 765433 * (235 * (y - 1).fdiv 19 + moon ((y - 1).fmod 19))).fdiv 25920 = te y := rfl
      have hP : (31524 + 765433 * (235 * (y - 1).fdiv 19 + moon ((y - 1).fmod 19))).fmod 25920 = tp y := rfl
      simp only [moon, moons] at hA hP
      (try simp only [hA, hP] at *)
      clear hA hP
      (try simp only [decide_eq_true_eq, decide_eq_false_iff_not, Bool.not_eq_true, Bool.not_eq_false, Bool.not_eq_true', Bool.not_eq_false', Bool.and_eq_true, Bool.or_eq_true, beq_iff_eq, Bool.or_eq_false_iff, beq_eq_false_iff_ne, List.any_cons, List.any_nil, Bool.or_false, not_or] at *)
      (try simp only [ti, te1])
      first | done | rfl | ((repeat' split) <;> first | rfl | contradiction | omega | (simp_all; done) | (simp_all; (repeat' split) <;> first | rfl | omega))))
end Mine
end
section
open PySem PySem.W PyProof.Rows PySem.Spec PySem.Calls
namespace Mine
local macro_rules | `(tactic| walk_at "no such step") => `(tactic| fail)
local macro_rules | `(tactic| walk_at "no such step") => `(tactic| fail)
def cnt (j : Int) : Int := ((j - 347996) * 98496).fdiv 35975351
/-- what from_jd (hebrew) asks to find the year Y, the month M; f: the month that its second loop starts at -/
structure FhOk (j Y M f : Int) : Prop where
  a : ∀ i, hj i ≤ j → i ≤ Y
  b : ∀ i, ¬ hj i ≤ j → Y < i
  c : cnt j - 1 ≤ Y
  d : j < hjd Y 1 1 → f = 7
  d' : ¬ j < hjd Y 1 1 → f = 1
  f1 : 1 ≤ f
  f2 : f ≤ M
  m : M ≤ 13
  e : ∀ i, f ≤ i → i ≤ M → hjd Y i (ml Y i) < j → i < M
  e' : ∀ i, f ≤ i → i ≤ M → ¬ hjd Y i (ml Y i) < j → i = M
local macro_rules | `(tactic| walk_at "eval Call") => `(tactic| (k_here; (with_reducible show wpAny _ _ (eval (Expr.Call (Expr.Name _ _) _ [] _) _) _ _ _); k_dflt (refine Call_ ?_)))
local macro_rules | `(tactic| walk_at "call ref") => `(tactic| (
  k_here
  (with_reducible show wpAny _ _ (call (Value.ref 57) _) _ _ _)
  k_dflt (
  refine' leap_c ?k1 ?k2 ?k3 ?k4 ?k5 ?kK ?kd ?ku ?_
  (case k1 => first | k_asm | ktn_no "use: the frames below")
  (case k2 => first | k_asm | ktn_no "use: the frame")
  (case k3 => first | k_asm | ktn_no "use: the written part")
  (case k4 => first | k_asm | ktn_no "use: the ledger")
  (case k5 => first | k_asm | ktn_no "use: the top's facts")
  (case kK => first | exact rfl | assumption | ktn_no "use: the caller is no def")
  (case kd => first | ktr_room | ktn_no "use: the frames' room")
  (case ku => first | ktr_units | ktn_no "use: the C units")
  intro t9 h9 tk9 F9 N9
  (try k_sweep)
  (try dsimp only)
  (try k_fold))))
local macro_rules | `(tactic| walk_at "call ref") => `(tactic| (
  k_here
  (with_reducible show wpAny _ _ (call (Value.ref 71) _) _ _ _)
  k_dflt (
  refine' d1_c ?k1 ?k2 ?k3 ?k4 ?k5 ?kK ?kd ?ku ?_
  (case k1 => first | k_asm | ktn_no "use: the frames below")
  (case k2 => first | k_asm | ktn_no "use: the frame")
  (case k3 => first | k_asm | ktn_no "use: the written part")
  (case k4 => first | k_asm | ktn_no "use: the ledger")
  (case k5 => first | k_asm | ktn_no "use: the top's facts")
  (case kK => first | exact rfl | assumption | ktn_no "use: the caller is no def")
  (case kd => first | ktr_room | ktn_no "use: the frames' room")
  (case ku => first | ktr_units | ktn_no "use: the C units")
  intro t9 h9 tk9 F9 N9
  (try k_sweep)
  (try dsimp only)
  (try k_fold))))
local macro_rules | `(tactic| walk_at "call ref") => `(tactic| (
  k_here
  (with_reducible show wpAny _ _ (call (Value.ref 28) _) _ _ _)
  k_dflt (
  refine' mid_c ?k1 ?k2 ?k3 ?k4 ?k5 ?kK ?kd ?ku ?_
  (case k1 => first | k_asm | ktn_no "use: the frames below")
  (case k2 => first | k_asm | ktn_no "use: the frame")
  (case k3 => first | k_asm | ktn_no "use: the written part")
  (case k4 => first | k_asm | ktn_no "use: the ledger")
  (case k5 => first | k_asm | ktn_no "use: the top's facts")
  (case kK => first | exact rfl | assumption | ktn_no "use: the caller is no def")
  (case kd => first | ktr_room | ktn_no "use: the frames' room")
  (case ku => first | ktr_units | ktn_no "use: the C units")
  intro t9 h9 tk9 F9 N9
  (try k_sweep)
  (try dsimp only)
  (try k_fold))))
local macro_rules | `(tactic| walk_at "call ref") => `(tactic| (
  k_here
  (with_reducible show wpAny _ _ (call (Value.ref 21) _) _ _ _)
  k_dflt (
  refine' isl_c ?k1 ?k2 ?k3 ?k4 ?k5 ?kK ?kd ?ku ?_
  (case k1 => first | k_asm | ktn_no "use: the frames below")
  (case k2 => first | k_asm | ktn_no "use: the frame")
  (case k3 => first | k_asm | ktn_no "use: the written part")
  (case k4 => first | k_asm | ktn_no "use: the ledger")
  (case k5 => first | k_asm | ktn_no "use: the top's facts")
  (case kK => first | exact rfl | assumption | ktn_no "use: the caller is no def")
  (case kd => first | ktr_room | ktn_no "use: the frames' room")
  (case ku => first | ktr_units | ktn_no "use: the C units")
  intro t9 h9 tk9 F9 N9
  (try k_sweep)
  (try dsimp only)
  (try k_fold))))
local macro_rules | `(tactic| walk_at "call ref") => `(tactic| (
  k_here
  (with_reducible show wpAny _ _ (call (Value.ref 64) _) _ _ _)
  k_dflt (
  refine' ym_c ?k1 ?k2 ?k3 ?k4 ?k5 ?kK ?kd ?ku ?_
  (case k1 => first | k_asm | ktn_no "use: the frames below")
  (case k2 => first | k_asm | ktn_no "use: the frame")
  (case k3 => first | k_asm | ktn_no "use: the written part")
  (case k4 => first | k_asm | ktn_no "use: the ledger")
  (case k5 => first | k_asm | ktn_no "use: the top's facts")
  (case kK => first | exact rfl | assumption | ktn_no "use: the caller is no def")
  (case kd => first | ktr_room | ktn_no "use: the frames' room")
  (case ku => first | ktr_units | ktn_no "use: the C units")
  intro t9 h9 tk9 F9 N9
  (try k_sweep)
  (try dsimp only)
  (try k_fold))))
local macro_rules | `(tactic| walk_at "call ref") => `(tactic| (
  k_here
  (with_reducible show wpAny _ _ (call (Value.ref 78) _) _ _ _)
  k_dflt (
  refine' d2_c ?k1 ?k2 ?k3 ?k4 ?k5 ?kK ?kd ?ku ?_
  (case k1 => first | k_asm | ktn_no "use: the frames below")
  (case k2 => first | k_asm | ktn_no "use: the frame")
  (case k3 => first | k_asm | ktn_no "use: the written part")
  (case k4 => first | k_asm | ktn_no "use: the ledger")
  (case k5 => first | k_asm | ktn_no "use: the top's facts")
  (case kK => first | exact rfl | assumption | ktn_no "use: the caller is no def")
  (case kd => first | ktr_room | ktn_no "use: the frames' room")
  (case ku => first | ktr_units | ktn_no "use: the C units")
  intro t9 h9 tk9 F9 N9
  (try k_sweep)
  (try dsimp only)
  (try k_fold))))
local macro_rules | `(tactic| walk_at "call ref") => `(tactic| (
  k_here
  (with_reducible show wpAny _ _ (call (Value.ref 106) _) _ _ _)
  k_dflt (
  refine' hj_c ?k1 ?k2 ?k3 ?k4 ?k5 ?kK ?kd ?ku ?_
  (case k1 => first | k_asm | ktn_no "use: the frames below")
  (case k2 => first | k_asm | ktn_no "use: the frame")
  (case k3 => first | k_asm | ktn_no "use: the written part")
  (case k4 => first | k_asm | ktn_no "use: the ledger")
  (case k5 => first | k_asm | ktn_no "use: the top's facts")
  (case kK => first | exact rfl | assumption | ktn_no "use: the caller is no def")
  (case kd => first | ktr_room | ktn_no "use: the frames' room")
  (case ku => first | ktr_units | ktn_no "use: the C units")
  intro t9 h9 tk9 F9 N9
  (try k_sweep)
  (try dsimp only)
  (try k_fold))))
local macro_rules | `(tactic| walk_at "call ref") => `(tactic| (
  k_here
  (with_reducible show wpAny _ _ (call (Value.ref 85) _) _ _ _)
  k_dflt (
  refine' yd_c ?k1 ?k2 ?k3 ?k4 ?k5 ?kK ?kd ?ku ?_
  (case k1 => first | k_asm | ktn_no "use: the frames below")
  (case k2 => first | k_asm | ktn_no "use: the frame")
  (case k3 => first | k_asm | ktn_no "use: the written part")
  (case k4 => first | k_asm | ktn_no "use: the ledger")
  (case k5 => first | k_asm | ktn_no "use: the top's facts")
  (case kK => first | exact rfl | assumption | ktn_no "use: the caller is no def")
  (case kd => first | ktr_room | ktn_no "use: the frames' room")
  (case ku => first | ktr_units | ktn_no "use: the C units")
  intro t9 h9 tk9 F9 N9
  (try k_sweep)
  (try dsimp only)
  (try k_fold))))
local macro_rules | `(tactic| walk_at "call ref") => `(tactic| (
  k_here
  (with_reducible show wpAny _ _ (call (Value.ref 92) _) _ _ _)
  k_dflt (
  refine' (ml_c ?kp) ?k1 ?k2 ?k3 ?k4 ?k5 ?kK ?kd ?ku ?_
  (case k1 => first | k_asm | ktn_no "use: the frames below")
  (case k2 => first | k_asm | ktn_no "use: the frame")
  (case k3 => first | k_asm | ktn_no "use: the written part")
  (case k4 => first | k_asm | ktn_no "use: the ledger")
  (case k5 => first | k_asm | ktn_no "use: the top's facts")
  (case kK => first | exact rfl | assumption | ktn_no "use: the caller is no def")
  (case kd => first | ktr_room | ktn_no "use: the frames' room")
  (case ku => first | ktr_units | ktn_no "use: the C units")
  (case kp => first | assumption | omega | l_fact | ktn_no "use: the premise")
  intro t9 h9 tk9 F9 N9
  (try k_sweep)
  (try dsimp only)
  (try k_fold))))
local macro_rules | `(tactic| walk_at "call ref") => `(tactic| (
  k_here
  (with_reducible show wpAny _ _ (call (Value.ref 99) _) _ _ _)
  k_dflt (
  refine' (md_c ?kp) ?k1 ?k2 ?k3 ?k4 ?k5 ?kK ?kd ?ku ?_
  (case k1 => first | k_asm | ktn_no "use: the frames below")
  (case k2 => first | k_asm | ktn_no "use: the frame")
  (case k3 => first | k_asm | ktn_no "use: the written part")
  (case k4 => first | k_asm | ktn_no "use: the ledger")
  (case k5 => first | k_asm | ktn_no "use: the top's facts")
  (case kK => first | exact rfl | assumption | ktn_no "use: the caller is no def")
  (case kd => first | ktr_room | ktn_no "use: the frames' room")
  (case ku => first | ktr_units | ktn_no "use: the C units")
  (case kp => first | assumption | omega | l_fact | ktn_no "use: the premise")
  intro t9 h9 tk9 F9 N9
  (try k_sweep)
  (try dsimp only)
  (try k_fold))))
local macro_rules | `(tactic| walk_at "call ref") => `(tactic| (
  k_here
  (with_reducible show wpAny _ _ (call (Value.ref 106) _) _ _ _)
  k_dflt (
  refine' (tj_c ?kp ?kq) ?k1 ?k2 ?k3 ?k4 ?k5 ?kK ?kd ?ku ?_
  (case k1 => first | k_asm | ktn_no "use: the frames below")
  (case k2 => first | k_asm | ktn_no "use: the frame")
  (case k3 => first | k_asm | ktn_no "use: the written part")
  (case k4 => first | k_asm | ktn_no "use: the ledger")
  (case k5 => first | k_asm | ktn_no "use: the top's facts")
  (case kK => first | exact rfl | assumption | ktn_no "use: the caller is no def")
  (case kd => first | ktr_room | ktn_no "use: the frames' room")
  (case ku => first | ktr_units | ktn_no "use: the C units")
  (case kp => first | assumption | omega | l_fact | ktn_no "use: the premise")
  (case kq => first | assumption | omega | l_fact | ktn_no "use: the premise")
  intro t9 h9 tk9 F9 N9
  (try k_sweep)
  (try dsimp only)
  (try k_fold))))
local macro_rules | `(tactic| walk_at "call ref") => `(tactic| (
  k_here
  (with_reducible show wpAny _ _ (call (Value.ref 106) _) _ _ _)
  k_dflt (
  refine' hj_c ?k1 ?k2 ?k3 ?k4 ?k5 ?kK ?kd ?ku ?_
  (case k1 => first | k_asm | ktn_no "use: the frames below")
  (case k2 => first | k_asm | ktn_no "use: the frame")
  (case k3 => first | k_asm | ktn_no "use: the written part")
  (case k4 => first | k_asm | ktn_no "use: the ledger")
  (case k5 => first | k_asm | ktn_no "use: the top's facts")
  (case kK => first | exact rfl | assumption | ktn_no "use: the caller is no def")
  (case kd => first | ktr_room | ktn_no "use: the frames' room")
  (case ku => first | ktr_units | ktn_no "use: the C units")
  intro t9 h9 tk9 F9 N9
  (try k_sweep)
  (try dsimp only)
  (try k_fold))))
set_option maxRecDepth 100000 in
set_option maxHeartbeats 2000000 in
theorem fh_c {w loose mean mg mb news} {j Y M f : Int} {t : Tok} (h : FhOk j Y M f) : Cl3 w loose mean mg mb 113 9 news [.int j t] Y M (j - hjd Y M 1 + 1) := by
  have hc := h.c
  unfold cnt at hc
  have hf1 := h.f1
  have hf2 := h.f2
  have hm := h.m
  k_with_none
  k_with "exec While Compare cons nil" => k_while (fun _ i y => i = y + 1 ∧ y ≤ Y) (fun _ i y => (Y - y).toNat) "i" "year"
  k_with "exec While Compare cons nil" => k_while (fun _ i mo => mo = i ∧ f ≤ i ∧ i ≤ M) (fun _ i _ => (M - i).toNat) "i" "month"
  k_with "state" => (k_dflt ((try dsimp only); first | ((have q := FhOk.a h _ (by assumption)); omega) | ((have q := FhOk.e h _ (by omega) (by omega) (by assumption)); omega) | ((have q := FhOk.d h (by assumption)); omega) | ((have q := FhOk.d' h (by assumption)); omega)))
  k_with "measure" => (k_dflt ((try dsimp only); first | ((have q := FhOk.a h _ (by assumption)); omega) | ((have q := FhOk.e h _ (by omega) (by omega) (by assumption)); omega)))
  k_with "exec If" => (k_dflt ((have q9 := FhOk.b h _ (by assumption)); (rename (_ = _ + (1 : Int)) => hw9); (rename (_ ≤ Y) => hy9); (have e9 := (Int.le_antisymm hy9 (by omega)).symm); subst e9))
  unfold Cl3
  k_fill
  intro dp un gd cn cs a ccd cl outer A₀ base h₀ L m s Q E B F X N T hk hdp hun hret
  refine wpAny_call ?_
  k_dflt cell_enter
  repeat' (first | (k_unfold; (try dsimp only)) | (walk1; all_goals (try dsimp only)))
  all_goals (
    (have q := FhOk.e' h _ (by omega) (by omega) (by assumption))
    refine ret3 (Q := Q) hret ?_ ?_ ?_ (by first | with_reducible assumption | k_asm) (by first | with_reducible assumption | (refine cb_drop (by with_reducible assumption) (by intro _ hp9; (repeat (first | with_reducible exact hp9 | with_reducible refine List.mem_cons_of_mem _ ?_)); done)) | k_asm) (by kcu_lt)
    all_goals (
      law_clear
      first | rfl | omega | (simp_all; done)))
  k_with_none
end Mine
end
section
open PySem PySem.W PyProof.Rows PySem.Spec PySem.Calls
namespace Mine
local macro_rules | `(tactic| walk_at "no such step") => `(tactic| fail)
local macro_rules | `(tactic| walk_at "no such step") => `(tactic| fail)
local macro_rules | `(tactic| walk_at "no such step") => `(tactic| fail)
local macro_rules | `(tactic| walk_at "no such step") => `(tactic| fail)
local macro_rules | `(tactic| walk_at "no such step") => `(tactic| fail)
local macro_rules | `(tactic| walk_at "no such step") => `(tactic| fail)
local macro_rules | `(tactic| walk_at "no such step") => `(tactic| fail)
local macro_rules | `(tactic| walk_at "no such step") => `(tactic| fail)
local macro_rules | `(tactic| walk_at "no such step") => `(tactic| fail)
local macro_rules | `(tactic| walk_at "no such step") => `(tactic| fail)
local macro_rules | `(tactic| walk_at "eval Call") => `(tactic| (k_here; (with_reducible show wpAny _ _ (eval (Expr.Call (Expr.Name _ _) _ [] _) _) _ _ _); k_dflt (refine Call_ ?_)))
local macro_rules | `(tactic| walk_at "call ref") => `(tactic| (
  k_here
  (with_reducible show wpAny _ _ (call (Value.ref 57) _) _ _ _)
  k_dflt (
  refine' leap_c ?k1 ?k2 ?k3 ?k4 ?k5 ?kK ?kd ?ku ?_
  (case k1 => first | k_asm | ktn_no "use: the frames below")
  (case k2 => first | k_asm | ktn_no "use: the frame")
  (case k3 => first | k_asm | ktn_no "use: the written part")
  (case k4 => first | k_asm | ktn_no "use: the ledger")
  (case k5 => first | k_asm | ktn_no "use: the top's facts")
  (case kK => first | exact rfl | assumption | ktn_no "use: the caller is no def")
  (case kd => first | ktr_room | ktn_no "use: the frames' room")
  (case ku => first | ktr_units | ktn_no "use: the C units")
  intro t9 h9 tk9 F9 N9
  (try k_sweep)
  (try dsimp only)
  (try k_fold))))
local macro_rules | `(tactic| walk_at "call ref") => `(tactic| (
  k_here
  (with_reducible show wpAny _ _ (call (Value.ref 71) _) _ _ _)
  k_dflt (
  refine' d1_c ?k1 ?k2 ?k3 ?k4 ?k5 ?kK ?kd ?ku ?_
  (case k1 => first | k_asm | ktn_no "use: the frames below")
  (case k2 => first | k_asm | ktn_no "use: the frame")
  (case k3 => first | k_asm | ktn_no "use: the written part")
  (case k4 => first | k_asm | ktn_no "use: the ledger")
  (case k5 => first | k_asm | ktn_no "use: the top's facts")
  (case kK => first | exact rfl | assumption | ktn_no "use: the caller is no def")
  (case kd => first | ktr_room | ktn_no "use: the frames' room")
  (case ku => first | ktr_units | ktn_no "use: the C units")
  intro t9 h9 tk9 F9 N9
  (try k_sweep)
  (try dsimp only)
  (try k_fold))))
local macro_rules | `(tactic| walk_at "call ref") => `(tactic| (
  k_here
  (with_reducible show wpAny _ _ (call (Value.ref 28) _) _ _ _)
  k_dflt (
  refine' mid_c ?k1 ?k2 ?k3 ?k4 ?k5 ?kK ?kd ?ku ?_
  (case k1 => first | k_asm | ktn_no "use: the frames below")
  (case k2 => first | k_asm | ktn_no "use: the frame")
  (case k3 => first | k_asm | ktn_no "use: the written part")
  (case k4 => first | k_asm | ktn_no "use: the ledger")
  (case k5 => first | k_asm | ktn_no "use: the top's facts")
  (case kK => first | exact rfl | assumption | ktn_no "use: the caller is no def")
  (case kd => first | ktr_room | ktn_no "use: the frames' room")
  (case ku => first | ktr_units | ktn_no "use: the C units")
  intro t9 h9 tk9 F9 N9
  (try k_sweep)
  (try dsimp only)
  (try k_fold))))
local macro_rules | `(tactic| walk_at "call ref") => `(tactic| (
  k_here
  (with_reducible show wpAny _ _ (call (Value.ref 21) _) _ _ _)
  k_dflt (
  refine' isl_c ?k1 ?k2 ?k3 ?k4 ?k5 ?kK ?kd ?ku ?_
  (case k1 => first | k_asm | ktn_no "use: the frames below")
  (case k2 => first | k_asm | ktn_no "use: the frame")
  (case k3 => first | k_asm | ktn_no "use: the written part")
  (case k4 => first | k_asm | ktn_no "use: the ledger")
  (case k5 => first | k_asm | ktn_no "use: the top's facts")
  (case kK => first | exact rfl | assumption | ktn_no "use: the caller is no def")
  (case kd => first | ktr_room | ktn_no "use: the frames' room")
  (case ku => first | ktr_units | ktn_no "use: the C units")
  intro t9 h9 tk9 F9 N9
  (try k_sweep)
  (try dsimp only)
  (try k_fold))))
local macro_rules | `(tactic| walk_at "call ref") => `(tactic| (
  k_here
  (with_reducible show wpAny _ _ (call (Value.ref 64) _) _ _ _)
  k_dflt (
  refine' ym_c ?k1 ?k2 ?k3 ?k4 ?k5 ?kK ?kd ?ku ?_
  (case k1 => first | k_asm | ktn_no "use: the frames below")
  (case k2 => first | k_asm | ktn_no "use: the frame")
  (case k3 => first | k_asm | ktn_no "use: the written part")
  (case k4 => first | k_asm | ktn_no "use: the ledger")
  (case k5 => first | k_asm | ktn_no "use: the top's facts")
  (case kK => first | exact rfl | assumption | ktn_no "use: the caller is no def")
  (case kd => first | ktr_room | ktn_no "use: the frames' room")
  (case ku => first | ktr_units | ktn_no "use: the C units")
  intro t9 h9 tk9 F9 N9
  (try k_sweep)
  (try dsimp only)
  (try k_fold))))
local macro_rules | `(tactic| walk_at "call ref") => `(tactic| (
  k_here
  (with_reducible show wpAny _ _ (call (Value.ref 78) _) _ _ _)
  k_dflt (
  refine' d2_c ?k1 ?k2 ?k3 ?k4 ?k5 ?kK ?kd ?ku ?_
  (case k1 => first | k_asm | ktn_no "use: the frames below")
  (case k2 => first | k_asm | ktn_no "use: the frame")
  (case k3 => first | k_asm | ktn_no "use: the written part")
  (case k4 => first | k_asm | ktn_no "use: the ledger")
  (case k5 => first | k_asm | ktn_no "use: the top's facts")
  (case kK => first | exact rfl | assumption | ktn_no "use: the caller is no def")
  (case kd => first | ktr_room | ktn_no "use: the frames' room")
  (case ku => first | ktr_units | ktn_no "use: the C units")
  intro t9 h9 tk9 F9 N9
  (try k_sweep)
  (try dsimp only)
  (try k_fold))))
local macro_rules | `(tactic| walk_at "call ref") => `(tactic| (
  k_here
  (with_reducible show wpAny _ _ (call (Value.ref 106) _) _ _ _)
  k_dflt (
  refine' hj_c ?k1 ?k2 ?k3 ?k4 ?k5 ?kK ?kd ?ku ?_
  (case k1 => first | k_asm | ktn_no "use: the frames below")
  (case k2 => first | k_asm | ktn_no "use: the frame")
  (case k3 => first | k_asm | ktn_no "use: the written part")
  (case k4 => first | k_asm | ktn_no "use: the ledger")
  (case k5 => first | k_asm | ktn_no "use: the top's facts")
  (case kK => first | exact rfl | assumption | ktn_no "use: the caller is no def")
  (case kd => first | ktr_room | ktn_no "use: the frames' room")
  (case ku => first | ktr_units | ktn_no "use: the C units")
  intro t9 h9 tk9 F9 N9
  (try k_sweep)
  (try dsimp only)
  (try k_fold))))
local macro_rules | `(tactic| walk_at "call ref") => `(tactic| (
  k_here
  (with_reducible show wpAny _ _ (call (Value.ref 85) _) _ _ _)
  k_dflt (
  refine' yd_c ?k1 ?k2 ?k3 ?k4 ?k5 ?kK ?kd ?ku ?_
  (case k1 => first | k_asm | ktn_no "use: the frames below")
  (case k2 => first | k_asm | ktn_no "use: the frame")
  (case k3 => first | k_asm | ktn_no "use: the written part")
  (case k4 => first | k_asm | ktn_no "use: the ledger")
  (case k5 => first | k_asm | ktn_no "use: the top's facts")
  (case kK => first | exact rfl | assumption | ktn_no "use: the caller is no def")
  (case kd => first | ktr_room | ktn_no "use: the frames' room")
  (case ku => first | ktr_units | ktn_no "use: the C units")
  intro t9 h9 tk9 F9 N9
  (try k_sweep)
  (try dsimp only)
  (try k_fold))))
local macro_rules | `(tactic| walk_at "call ref") => `(tactic| (
  k_here
  (with_reducible show wpAny _ _ (call (Value.ref 92) _) _ _ _)
  k_dflt (
  refine' (ml_c ?kp) ?k1 ?k2 ?k3 ?k4 ?k5 ?kK ?kd ?ku ?_
  (case k1 => first | k_asm | ktn_no "use: the frames below")
  (case k2 => first | k_asm | ktn_no "use: the frame")
  (case k3 => first | k_asm | ktn_no "use: the written part")
  (case k4 => first | k_asm | ktn_no "use: the ledger")
  (case k5 => first | k_asm | ktn_no "use: the top's facts")
  (case kK => first | exact rfl | assumption | ktn_no "use: the caller is no def")
  (case kd => first | ktr_room | ktn_no "use: the frames' room")
  (case ku => first | ktr_units | ktn_no "use: the C units")
  (case kp => first | assumption | omega | l_fact | ktn_no "use: the premise")
  intro t9 h9 tk9 F9 N9
  (try k_sweep)
  (try dsimp only)
  (try k_fold))))
local macro_rules | `(tactic| walk_at "call ref") => `(tactic| (
  k_here
  (with_reducible show wpAny _ _ (call (Value.ref 99) _) _ _ _)
  k_dflt (
  refine' (md_c ?kp) ?k1 ?k2 ?k3 ?k4 ?k5 ?kK ?kd ?ku ?_
  (case k1 => first | k_asm | ktn_no "use: the frames below")
  (case k2 => first | k_asm | ktn_no "use: the frame")
  (case k3 => first | k_asm | ktn_no "use: the written part")
  (case k4 => first | k_asm | ktn_no "use: the ledger")
  (case k5 => first | k_asm | ktn_no "use: the top's facts")
  (case kK => first | exact rfl | assumption | ktn_no "use: the caller is no def")
  (case kd => first | ktr_room | ktn_no "use: the frames' room")
  (case ku => first | ktr_units | ktn_no "use: the C units")
  (case kp => first | assumption | omega | l_fact | ktn_no "use: the premise")
  intro t9 h9 tk9 F9 N9
  (try k_sweep)
  (try dsimp only)
  (try k_fold))))
local macro_rules | `(tactic| walk_at "call ref") => `(tactic| (
  k_here
  (with_reducible show wpAny _ _ (call (Value.ref 106) _) _ _ _)
  k_dflt (
  refine' (tj_c ?kp ?kq) ?k1 ?k2 ?k3 ?k4 ?k5 ?kK ?kd ?ku ?_
  (case k1 => first | k_asm | ktn_no "use: the frames below")
  (case k2 => first | k_asm | ktn_no "use: the frame")
  (case k3 => first | k_asm | ktn_no "use: the written part")
  (case k4 => first | k_asm | ktn_no "use: the ledger")
  (case k5 => first | k_asm | ktn_no "use: the top's facts")
  (case kK => first | exact rfl | assumption | ktn_no "use: the caller is no def")
  (case kd => first | ktr_room | ktn_no "use: the frames' room")
  (case ku => first | ktr_units | ktn_no "use: the C units")
  (case kp => first | assumption | omega | l_fact | ktn_no "use: the premise")
  (case kq => first | assumption | omega | l_fact | ktn_no "use: the premise")
  intro t9 h9 tk9 F9 N9
  (try k_sweep)
  (try dsimp only)
  (try k_fold))))
local macro_rules | `(tactic| walk_at "call ref") => `(tactic| (
  k_here
  (with_reducible show wpAny _ _ (call (Value.ref 106) _) _ _ _)
  k_dflt (
  refine' hj_c ?k1 ?k2 ?k3 ?k4 ?k5 ?kK ?kd ?ku ?_
  (case k1 => first | k_asm | ktn_no "use: the frames below")
  (case k2 => first | k_asm | ktn_no "use: the frame")
  (case k3 => first | k_asm | ktn_no "use: the written part")
  (case k4 => first | k_asm | ktn_no "use: the ledger")
  (case k5 => first | k_asm | ktn_no "use: the top's facts")
  (case kK => first | exact rfl | assumption | ktn_no "use: the caller is no def")
  (case kd => first | ktr_room | ktn_no "use: the frames' room")
  (case ku => first | ktr_units | ktn_no "use: the C units")
  intro t9 h9 tk9 F9 N9
  (try k_sweep)
  (try dsimp only)
  (try k_fold))))
theorem in30b {prog : Program} {w : World} {A : Around} {E : Value → Shared → Prop} {s : Shared} {K : Frag} {x : Int} {u : Tok} {Q : Value → Shared → Prop} {t1 t2 t3 t4 : Tok} {n : Nat} {dd : Option Addr} {sl : Array (Option Value)} (X : K.In s.heap) (hl : K.lookup 29 = some ⟨.type "tuple", dd, .seq [.int 4 t1, .int 6 t2, .int 9 t3, .int 11 t4].toArray n, sl⟩)
    (h : Q (.bool (has30 x)) s) : wpAny (model prog w) A (compareOp .In (.int x u) (.ref 29)) Q E s := in_tuple_ints (tupK X hl) (.cons _ _ (.cons _ _ (.cons _ _ (.cons _ _ .nil)))) h
local macro_rules | `(tactic| walk_at "compareOp In int ref") => `(tactic| (k_here; (with_reducible show wpAny _ _ (compareOp CmpOp.In (Value.int _ _) (Value.ref 29)) _ _ _); k_dflt (refine' in30b ?X ?l ?_; (case X => first | assumption | exact Frag.In.keeps (by k_asm) (Fr.keep (by k_asm))); (case l => k_is))))
local macro_rules | `(tactic| walk_at "call ref") => `(tactic| (
  k_here
  (with_reducible show wpAny _ _ (call (Value.ref 36) _) _ _ _)
  k_dflt (
  refine' (lg_c ?kp) ?k1 ?k2 ?k3 ?k4 ?k5 ?kK ?kd ?ku ?_
  (case k1 => first | k_asm | ktn_no "use: the frames below")
  (case k2 => first | k_asm | ktn_no "use: the frame")
  (case k3 => first | k_asm | ktn_no "use: the written part")
  (case k4 => first | k_asm | ktn_no "use: the ledger")
  (case k5 => first | k_asm | ktn_no "use: the top's facts")
  (case kK => first | exact rfl | assumption | ktn_no "use: the caller is no def")
  (case kd => first | ktr_room | ktn_no "use: the frames' room")
  (case ku => first | ktr_units | ktn_no "use: the C units")
  (case kp => first | assumption | omega | l_fact | ktn_no "use: the premise")
  intro t9 h9 tk9 F9 N9
  (try k_sweep)
  (try dsimp only)
  (try k_fold))))
local macro_rules | `(tactic| walk_at "call ref") => `(tactic| (
  k_here
  (with_reducible show wpAny _ _ (call (Value.ref 43) _) _ _ _)
  k_dflt (
  refine' (gj_c ?kp) ?k1 ?k2 ?k3 ?k4 ?k5 ?kK ?kd ?ku ?_
  (case k1 => first | k_asm | ktn_no "use: the frames below")
  (case k2 => first | k_asm | ktn_no "use: the frame")
  (case k3 => first | k_asm | ktn_no "use: the written part")
  (case k4 => first | k_asm | ktn_no "use: the ledger")
  (case k5 => first | k_asm | ktn_no "use: the top's facts")
  (case kK => first | exact rfl | assumption | ktn_no "use: the caller is no def")
  (case kd => first | ktr_room | ktn_no "use: the frames' room")
  (case ku => first | ktr_units | ktn_no "use: the C units")
  (case kp => first | exact dim_one _ _ | assumption | assumption | omega | l_fact | ktn_no "use: the premise")
  intro t9 h9 tk9 F9 N9
  (try k_sweep)
  (try dsimp only)
  (try k_fold))))
local macro_rules | `(tactic| walk_at "call ref") => `(tactic| (
  k_here
  (with_reducible show wpAny _ _ (call (Value.ref 50) _) _ _ _)
  k_dflt (
  refine' fg_c ?k1 ?k2 ?k3 ?k4 ?k5 ?kK ?kd ?ku ?_
  (case k1 => first | k_asm | ktn_no "use: the frames below")
  (case k2 => first | k_asm | ktn_no "use: the frame")
  (case k3 => first | k_asm | ktn_no "use: the written part")
  (case k4 => first | k_asm | ktn_no "use: the ledger")
  (case k5 => first | k_asm | ktn_no "use: the top's facts")
  (case kK => first | exact rfl | assumption | ktn_no "use: the caller is no def")
  (case kd => first | ktr_room | ktn_no "use: the frames' room")
  (case ku => first | ktr_units | ktn_no "use: the C units")
  intro D9 t91 t92 t93 c9 h9 tk9 F9 N9 l9
  (try simp only [AllLt, and_true] at l9)
  (try k_sweep)
  (try dsimp only)
  (try k_fold))))
local macro_rules | `(tactic| walk_at "call ref") => `(tactic| (
  k_here
  (with_reducible show wpAny _ _ (call (Value.ref 113) _) _ _ _)
  k_dflt (
  refine' (fh_c (f := _) ?kp) ?k1 ?k2 ?k3 ?k4 ?k5 ?kK ?kd ?ku ?_
  (case k1 => first | k_asm | ktn_no "use: the frames below")
  (case k2 => first | k_asm | ktn_no "use: the frame")
  (case k3 => first | k_asm | ktn_no "use: the written part")
  (case k4 => first | k_asm | ktn_no "use: the ledger")
  (case k5 => first | k_asm | ktn_no "use: the top's facts")
  (case kK => first | exact rfl | assumption | ktn_no "use: the caller is no def")
  (case kd => first | ktr_room | ktn_no "use: the frames' room")
  (case ku => first | ktr_units | ktn_no "use: the C units")
  (case kp => first | assumption | omega | l_fact | ktn_no "use: the premise")
  intro D9 t91 t92 t93 c9 h9 tk9 F9 N9 l9
  (try simp only [AllLt, and_true] at l9)
  (try k_sweep)
  (try dsimp only)
  (try k_fold))))
local macro_rules | `(tactic| walk_at "ite") => `(tactic| (k_here; first | with_reducible refine ite_epos (by with_reducible assumption) ?_ | with_reducible refine ite_eneg (by with_reducible assumption) ?_ | with_reducible refine ite_dpos (by with_reducible assumption) ?_ | with_reducible refine ite_dneg (by with_reducible assumption) ?_ | with_reducible refine ite_pos (by with_reducible assumption) ?_ | with_reducible refine ite_bneg (by with_reducible assumption) ?_ | with_reducible refine ite_neg (by with_reducible assumption) ?_))
/-- the iterator's address lies above the ledger -/
def LoopLow (l : List (Addr × Obj)) (I : Addr) : Prop := ∀ p ∈ l, p.1 < I
theorem iter_arrTurns {prog : Program} {w : World} {A : Around} {E : Value → Shared → Prop} {Q : Flow → Shared → Prop} {s : Shared} {env : Env} {h₀ : Heap} {target : PySem.Expr} {body : List Stmt} {ax : Addr} {lo : Obj} {arr : Array Value} {n : Nat} {m₀ : Str → Option Value} {news : List (Addr × Obj)}
    (hh : A.handled = none) (F : Fr h₀ env.locals s.heap m₀) (N : News h₀ env.locals s.heap news) (hm : (ax, lo) ∈ news) (hc : lo.cls = .type "list") (hd : lo.data = .seq arr n)
    (rest₀ : ∀ I : Addr, LoopLow news I → ItemsRest prog w A E h₀ env target body Q s [(I, "list_iterator")] [(ax, lo)] (arr.toList.map .val) m₀ news) :
    wpAny (model prog w) A (pyIter (.ref ax)) (fun it s₂ => TurnsAt prog w A h₀ env target body Q E it s₂) E s :=
  iter_listTurns (vs := arr.toList) hh F N hm hc (by simpa using hd) rest₀
theorem iter_arrTurnsT {prog : Program} {w : World} {A : Around} {E : Value → Shared → Prop} {Q : Flow → Shared → Prop} {s : Shared} {env : Env} {h₀ : Heap} {target : PySem.Expr} {body : List Stmt} {ax : Addr} {lo : Obj} {arr : Array Value} {n : Nat} {m₀ : Str → Option Value} {news : List (Addr × Obj)}
    (hh : A.handled = none) (F : Fr h₀ env.locals s.heap m₀) (N : News h₀ env.locals s.heap news) (hm : (ax, lo) ∈ news) (hc : lo.cls = .type "tuple") (hd : lo.data = .seq arr n)
    (rest₀ : ∀ I : Addr, LoopLow news I → ItemsRest prog w A E h₀ env target body Q s [(I, "tuple_iterator")] [(ax, lo)] (arr.toList.map .val) m₀ news) :
    wpAny (model prog w) A (pyIter (.ref ax)) (fun it s₂ => TurnsAt prog w A h₀ env target body Q E it s₂) E s :=
  iter_tupTurns (vs := arr.toList) hh F N hm hc (by simpa using hd) rest₀
theorem unrEndW_low {h₀ h' : Heap} {L I : Addr} {o : Obj} {s₁ : Shared} {tk : Nat} {m' : Str → Option Value} {all news' : List (Addr × Obj)} {rest : (Str → Option Value) → List (Addr × Obj) → Prop} (l1 : LoopLow news' I)
    (F : Fr h₀ L h' m') (N : News h₀ L h' all) (hI : (I, o) ∈ all) (sub : ∀ p ∈ news', p ∈ all) (r : rest m' news') : UnrEndW h₀ L s₁ [(I, o)] rest { s₁ with heap := h', toks := tk } :=
  ⟨h', tk, m', news', rfl, F, fun p hp => by
    rcases List.mem_append.mp hp with hp | hp
    · rw [List.mem_singleton.mp hp]; exact N _ hI
    · exact N p (sub p hp), fun p hp q hq => by
    rw [List.mem_singleton.mp hq]
    exact Nat.ne_of_lt (l1 p hp), r⟩
theorem keep1 {q : Addr × Obj} {l : List (Addr × Obj)} (h : q ∈ l) : SubL [q] l := ⟨h, trivial⟩
local macro_rules | `(tactic| walk_at "exec For Tuple BinOp cons nil") => `(tactic| (k_here; (rename Fr _ _ _ _ => lF'); (with_unfolding_all refine' For_turns lF' ?_; k_whole)))
local macro_rules | `(tactic| walk_at "pyIter ref") => `(tactic| (k_here; (with_reducible show wpAny _ _ (pyIter (Value.ref _)) (fun it s₂ => TurnsAt _ _ _ _ _ _ _ _ _ it s₂) _ _); (rename Fr _ _ _ _ => lF'); (rename News _ _ _ _ => lN'); (first | (with_unfolding_all refine iter_arrTurnsT (by rfl) lF' lN' (by k_mem) (by rfl) (by rfl) ?_) | (with_unfolding_all refine iter_arrTurns (by rfl) lF' lN' (by k_mem) (by rfl) (by rfl) ?_)); intro i' l1; (simp only [List.map_cons, List.map_nil])))
local macro_rules | `(tactic| walk_at "UnrEndW") => `(tactic| ((rename News _ _ _ _ => nE'); (rename Fr _ _ _ _ => fE'); (rename LoopLow _ _ => lE'); (refine unrEndW_low lE' fE' nE' (by k_mem) (by intro _ hp9; (repeat (first | with_reducible exact hp9 | with_reducible refine List.mem_cons_of_mem _ ?_)); done) ⟨keep1 (by k_mem), ?_⟩)))
set_option maxRecDepth 100000 in
set_option maxHeartbeats 2000000 in
theorem tg_c {w loose mean mg mb news} {y m d : Int} {t tm td : Tok} (h1 : 1 ≤ m) (h2 : m ≤ 13) : Cl3 w loose mean mg mb 134 8 news [.int y t, .int m tm, .int d td] (gy (hjd y m d)) (gm (hjd y m d)) (gd (hjd y m d)) := by
  unfold Cl3
  k_fill
  intro dp un gd cn cs a ccd cl outer A₀ base h₀ L m s Q E B F X N T hk hdp hun hret
  refine wpAny_call ?_
  k_dflt cell_enter
  repeat' (first | (k_unfold; (try dsimp only)) | (walk1; all_goals (try dsimp only)))
  all_goals (
    refine ret3 (Q := Q) hret ?_ ?_ ?_ (by first | with_reducible assumption | k_asm) (by first | with_reducible assumption | (refine cb_drop (by with_reducible assumption) (by intro _ hp9; (repeat (first | with_reducible exact hp9 | with_reducible refine List.mem_cons_of_mem _ ?_)); done)) | k_asm | (refine cb_drop (by assumption) (by kcj_all))) (by kcu_lt)
    all_goals (
      law_clear
      first | rfl | omega | (simp_all; done)))
set_option maxRecDepth 100000 in
set_option maxHeartbeats 2000000 in
theorem fgr_c {w loose mean mg mb news} {y m d Y M f : Int} {t tm td : Tok} (h : 0 < d ∧ d ≤ dim y m) (h2 : FhOk (gj y m d) Y M f) : Cl3 w loose mean mg mb 127 10 news [.int y t, .int m tm, .int d td] (Y) (M) (gj y m d - hjd Y M 1 + 1) := by
  unfold Cl3
  k_fill
  intro dp un gd cn cs a ccd cl outer A₀ base h₀ L m s Q E B F X N T hk hdp hun hret
  refine wpAny_call ?_
  k_dflt cell_enter
  repeat' (first | (k_unfold; (try dsimp only)) | (walk1; all_goals (try dsimp only)))
  all_goals (
    refine ret3 (Q := Q) hret ?_ ?_ ?_ (by first | with_reducible assumption | k_asm) (by first | with_reducible assumption | (refine cb_drop (by with_reducible assumption) (by intro _ hp9; (repeat (first | with_reducible exact hp9 | with_reducible refine List.mem_cons_of_mem _ ?_)); done)) | k_asm | (refine cb_drop (by assumption) (by kcj_all))) (by kcu_lt)
    all_goals (
      law_clear
      first | rfl | omega | (simp_all; done)))
local macro_rules | `(tactic| walk_at "call ref") => `(tactic| (
  k_here
  (with_reducible show wpAny _ _ (call (Value.ref 134) _) _ _ _)
  k_dflt (
  refine' (tg_c ?kp ?kq) ?k1 ?k2 ?k3 ?k4 ?k5 ?kK ?kd ?ku ?_
  (case k1 => first | k_asm | ktn_no "use: the frames below")
  (case k2 => first | k_asm | ktn_no "use: the frame")
  (case k3 => first | k_asm | ktn_no "use: the written part")
  (case k4 => first | k_asm | ktn_no "use: the ledger")
  (case k5 => first | k_asm | ktn_no "use: the top's facts")
  (case kK => first | exact rfl | assumption | ktn_no "use: the caller is no def")
  (case kd => first | ktr_room | ktn_no "use: the frames' room")
  (case ku => first | ktr_units | ktn_no "use: the C units")
  (case kp => first | assumption | omega | l_fact | ktn_no "use: the premise")
  (case kq => first | assumption | omega | l_fact | ktn_no "use: the premise")
  intro D9 t91 t92 t93 c9 h9 tk9 F9 N9 l9
  (try simp only [AllLt, and_true] at l9)
  (try k_sweep)
  (try dsimp only)
  (try k_fold))))
set_option maxRecDepth 100000 in
set_option maxHeartbeats 2000000 in
theorem gyr_c1 {w loose mean mg mb news} {y m d : Int} {t tm td : Tok} (h1 : 1 ≤ m) (h2 : m ≤ 13) (hl : 0 < gd (hjd (y + 3760) m d) ∧ gd (hjd (y + 3760) m d) ≤ dim (gy (hjd (y + 3760) m d)) (gm (hjd (y + 3760) m d))) (hq : gy (hjd (y + 3760) m d) = y) : Cl w loose mean mg mb 120 8 news [.int y t, .int m tm, .int d td] (fun t => .int (gj (gy (hjd (y + 3760) m d)) (gm (hjd (y + 3760) m d)) (gd (hjd (y + 3760) m d))) t) := by
  unfold Cl
  k_fill
  intro dp un gd cn cs a ccd cl outer A₀ base h₀ L m s Q E B F X N T hk hdp hun hret
  refine wpAny_call ?_
  k_dflt cell_enter
  repeat' (first | (k_unfold; (try dsimp only)) | (walk1; all_goals (try dsimp only)))
  all_goals (
    refine cb_retI (Q := Q) hret ?_ (by first | with_reducible assumption | k_asm) (by first | with_reducible assumption | (refine cb_drop (by with_reducible assumption) (by intro _ hp9; (repeat (first | with_reducible exact hp9 | with_reducible refine List.mem_cons_of_mem _ ?_)); done)) | k_asm | (refine cb_drop (by assumption) (by kcj_all)))
    (
      law_clear
      first | rfl | omega | (simp_all; done)))
set_option maxRecDepth 100000 in
set_option maxHeartbeats 2000000 in
theorem gyr_c2 {w loose mean mg mb news} {y m d : Int} {t tm td : Tok} (h1 : 1 ≤ m) (h2 : m ≤ 13) (hl : 0 < gd (hjd (y + 3760 + 1) m d) ∧ gd (hjd (y + 3760 + 1) m d) ≤ dim (gy (hjd (y + 3760 + 1) m d)) (gm (hjd (y + 3760 + 1) m d))) (hn : ¬ gy (hjd (y + 3760) m d) = y) (hq : gy (hjd (y + 3760 + 1) m d) = y) : Cl w loose mean mg mb 120 8 news [.int y t, .int m tm, .int d td] (fun t => .int (gj (gy (hjd (y + 3760 + 1) m d)) (gm (hjd (y + 3760 + 1) m d)) (gd (hjd (y + 3760 + 1) m d))) t) := by
  unfold Cl
  k_fill
  intro dp un gd cn cs a ccd cl outer A₀ base h₀ L m s Q E B F X N T hk hdp hun hret
  refine wpAny_call ?_
  k_dflt cell_enter
  repeat' (first | (k_unfold; (try dsimp only)) | (walk1; all_goals (try dsimp only)))
  all_goals (
    refine cb_retI (Q := Q) hret ?_ (by first | with_reducible assumption | k_asm) (by first | with_reducible assumption | (refine cb_drop (by with_reducible assumption) (by intro _ hp9; (repeat (first | with_reducible exact hp9 | with_reducible refine List.mem_cons_of_mem _ ?_)); done)) | k_asm | (refine cb_drop (by assumption) (by kcj_all)))
    (
      law_clear
      first | rfl | omega | (simp_all; done)))
end Mine
end
section
open PySem PySem.W PyProof.Rows PySem.Spec PySem.Calls
namespace Mine
local macro_rules | `(tactic| walk_at "no such step") => `(tactic| fail)
local macro_rules | `(tactic| walk_at "no such step") => `(tactic| fail)
local macro_rules | `(tactic| walk_at "no such step") => `(tactic| fail)
/-- the first row that fits: the number of the day -/
def ldGo : List (Int × Int) → Int → Int → Int → Option Int
  | [], _, _, _ => none
  | (o, z) :: r, M, D, k => if o = M ∧ D ≤ z then some (k + D - 1) else ldGo r M D (k + z)
def ldRows (y : Int) : List (Int × Int) :=
  [(7, 30), (8, if ([355, 385] : List Int).any (· == ti (y + 1) - ti y) = true then 30 else 29), (9, if ([353, 383] : List Int).any (· == ti (y + 1) - ti y) = true then 29 else 30), (10, 29), (11, 30)] ++ (if th y = true then [(12, 30), (13, 29)] else [(12, 29)]) ++ [(1, 30), (2, 29), (3, 30), (4, 29), (5, 30), (6, 29)]
def ld (y m d : Int) : Option Int := ldGo (ldRows y) m d (ti y)
abbrev tup2 (o : Int) (t1 : Tok) (z : Int) (t2 : Tok) (c : Nat) : Obj := { cls := .type "tuple", data := .seq #[.int o t1, .int z t2] c }
inductive RowsAt (news : List (Addr × Obj)) : List Itm → List (Int × Int) → Prop
  | nil : RowsAt news [] []
  | cons {T : Addr} {o z : Int} {t1 t2 : Tok} {c : Nat} {xs : List Itm} {rs : List (Int × Int)} : (T, tup2 o t1 z t2 c) ∈ news → RowsAt news xs rs → RowsAt news (.val (.ref T) :: xs) ((o, z) :: rs)
def RowPost (h₀ : Heap) (L I : Addr) (it : Obj) (news : List (Addr × Obj)) (m₀ : Str → Option Value) (stored : List Str) (s : Shared) (o z k M D : Int) (f : Flow) (s₂ : Shared) : Prop :=
  match f with
  | .ret v => (o = M ∧ D ≤ z) ∧ ∃ (t : Tok) (h : Heap) (tk : Nat) (m' : Str → Option Value) (all : List (Addr × Obj)), v = .int (k + D - 1) t ∧ s₂ = { s with heap := h, toks := tk } ∧ Fr h₀ L h m' ∧ News h₀ L h all ∧ (∀ p ∈ news, p ∈ all)
  | .brk => False
  | _ => ¬ (o = M ∧ D ≤ z) ∧ ∃ (t : Tok) (h : Heap) (tk : Nat) (m' : Str → Option Value) (all : List (Addr × Obj)), s₂ = { s with heap := h, toks := tk } ∧ Fr h₀ L h m' ∧ News h₀ L h all ∧ (I, it) ∈ all ∧ (∀ p ∈ news, p ∈ all) ∧
      m' (Str.ofString "number") = some (.int (k + z) t) ∧ ∀ q, q ≠ Str.ofString "number" → stored.contains q = false → m' q = m₀ q
theorem rowPost_ret {h₀ h : Heap} {L I : Addr} {it : Obj} {news all : List (Addr × Obj)} {m₀ m' : Str → Option Value} {stored : List Str} {s : Shared} {o z k M D : Int} {t : Tok} {tk : Nat} (F : Fr h₀ L h m') (N : News h₀ L h all) (e : o = M ∧ D ≤ z) (sub : ∀ p ∈ news, p ∈ all) :
    RowPost h₀ L I it news m₀ stored s o z k M D (.ret (.int (k + D - 1) t)) { s with heap := h, toks := tk } := ⟨e, t, h, tk, m', all, rfl, rfl, F, N, sub⟩
theorem rowPost_next {h₀ h : Heap} {L I : Addr} {it : Obj} {news all : List (Addr × Obj)} {m₀ m' : Str → Option Value} {stored : List Str} {s : Shared} {o z k M D : Int} {t : Tok} {tk : Nat} (F : Fr h₀ L h m') (N : News h₀ L h all) (e : ¬ (o = M ∧ D ≤ z)) (hI : (I, it) ∈ all) (sub : ∀ p ∈ news, p ∈ all)
    (hk : m' (Str.ofString "number") = some (.int (k + z) t)) (hr : ∀ q, q ≠ Str.ofString "number" → stored.contains q = false → m' q = m₀ q) :
    RowPost h₀ L I it news m₀ stored s o z k M D .next { s with heap := h, toks := tk } := ⟨e, t, h, tk, m', all, rfl, F, N, hI, sub, hk, hr⟩
theorem rows_iter {prog : Program} {w : World} {A : Around} {E : Value → Shared → Prop} {Q : Flow → Shared → Prop} {s : Shared} {env : Env} {h₀ : Heap} {target : PySem.Expr} {body : List Stmt} {ax : Addr} {lo : Obj} {arr : Array Value} {n : Nat} {m₀ : Str → Option Value} {news : List (Addr × Obj)}
    (rs : List (Int × Int)) (M D n0 : Int) (t0 : Tok) (stored : List Str) (r : Option Int)
    (hh : A.handled = none) (F : Fr h₀ env.locals s.heap m₀) (N : News h₀ env.locals s.heap news) (hm : (ax, lo) ∈ news) (hc : lo.cls = .type "list") (hd : lo.data = .seq arr n)
    (hr : RowsAt news (arr.toList.map .val) rs) (hn : m₀ (Str.ofString "number") = some (.int n0 t0)) (hspec : ldGo rs M D n0 = r)
    (turn : ∀ (o z k : Int) (T I : Addr) (t1 t2 t : Tok) (c : Nat) (it : Obj) (u : Str → Option Value) (h : Heap) (tk : Nat), (T, tup2 o t1 z t2 c) ∈ news → it.cls = .type "list_iterator" →
      Fr h₀ env.locals h (kstB (fun q => if stored.contains q then u q else m₀ q) [(Str.ofString "number", .int k t)]) → News h₀ env.locals h ((T, tup2 o t1 z t2 c) :: (I, it) :: news) →
      wpAny (model prog w) A (assign target env (.ref T)) (fun _ s₂ => wpAny (model prog w) A (execs body env) (RowPost h₀ env.locals I it news m₀ stored { s with heap := h, toks := tk } o z k M D) E s₂) E { s with heap := h, toks := tk })
    (ret : ∀ (v : Int) (t : Tok) (h : Heap) (tk : Nat) (m' : Str → Option Value), r = some v → Fr h₀ env.locals h m' → News h₀ env.locals h news → Q (.ret (.int v t)) { s with heap := h, toks := tk })
    (done : r = none → ∀ (h : Heap) (tk : Nat) (m' : Str → Option Value), Fr h₀ env.locals h m' → News h₀ env.locals h news → Q .next { s with heap := h, toks := tk }) :
    wpAny (model prog w) A (pyIter (.ref ax)) (fun it s₂ => TurnsAt prog w A h₀ env target body Q E it s₂) E s := by
  refine iter_arrTurns hh F N hm hc hd fun I l1 => ?_
  have main : ∀ (xs : List Itm) (rs : List (Int × Int)) (k : Int) (t : Tok) (m : Str → Option Value), RowsAt news xs rs → m (Str.ofString "number") = some (.int k t) → (∀ q, q ≠ Str.ofString "number" → stored.contains q = false → m q = m₀ q) → ldGo rs M D k = r →
      ItemsRest prog w A E h₀ env target body Q s [(I, "list_iterator")] [(ax, lo)] xs m news := by
    intro xs
    induction xs with
    | nil =>
      intro rs k t m hx _ _ hs
      cases hx
      exact fun h tk F' N' => done hs.symm h tk m F' N'
    | cons x xs ih =>
      intro rs k t m hx hk ho hs
      cases hx with
      | @cons T o z t1 t2 c _ rs' hT hx' =>
        refine ItemsRest.val fun h tk F' => AllObj.cons fun it hit => AllObj.nil fun N' => ?_
        have F2 : Fr h₀ env.locals h (kstB (fun q => if stored.contains q then m q else m₀ q) [(Str.ofString "number", .int k t)]) :=
          ksw_fr (by intro p hp; rw [List.mem_singleton.mp hp]; exact hk) (fun q hq hst => ho q (hq _ (.head _)) hst) F'
        have N2 : News h₀ env.locals h ((T, tup2 o t1 z t2 c) :: (I, it) :: news) := fun p hp => by
          rcases List.mem_cons.mp hp with rfl | hp
          · exact N' _ (List.mem_append_right _ hT)
          · exact N' p hp
        refine wpAny_mono (turn o z k T I t1 t2 t c it m h tk hT hit F2 N2) (fun _ s₂ h₂ => wpAny_mono h₂ (fun f s₃ p => ?_) fun _ _ e => e) fun _ _ e => e
        unfold ldGo at hs
        have fin : (¬ (o = M ∧ D ≤ z) ∧ ∃ (t : Tok) (h' : Heap) (tk' : Nat) (m' : Str → Option Value) (all : List (Addr × Obj)), s₃ = { { s with heap := h, toks := tk } with heap := h', toks := tk' } ∧ Fr h₀ env.locals h' m' ∧ News h₀ env.locals h' all ∧ (I, it) ∈ all ∧ (∀ p ∈ news, p ∈ all) ∧
            m' (Str.ofString "number") = some (.int (k + z) t) ∧ ∀ q, q ≠ Str.ofString "number" → stored.contains q = false → m' q = m₀ q) →
            UnrEndW h₀ env.locals { s with heap := h, toks := tk } [(I, it)] (fun m' n' => SubL [(ax, lo)] n' ∧ ItemsRest prog w A E h₀ env target body Q s [(I, "list_iterator")] [(ax, lo)] xs m' n') s₃ := by
          rintro ⟨hno, t', h', tk', m', all, rfl, F', N', hI, hsub, hk', hr'⟩
          rw [if_neg hno] at hs
          exact unrEndW_low l1 F' N' hI hsub ⟨keep1 hm, ih rs' (k + z) t' m' hx' hk' hr' hs⟩
        cases f with
        | ret v =>
          obtain ⟨he, t', h', tk', m', all, rfl, rfl, F', N', hsub⟩ := p
          rw [if_pos he] at hs
          exact ret _ t' h' tk' m' hs.symm F' fun p hp => N' p (hsub p hp)
        | brk => exact (p : False).elim
        | next => exact fin p
        | cont => exact fin p
  exact main _ rs n0 t0 m₀ hr hn (fun _ _ _ => rfl) hspec
local macro_rules | `(tactic| walk_at "exec For Tuple BinOp cons nil") => `(tactic| (k_here; (rename Fr _ _ _ _ => lF'); (with_unfolding_all refine' For_turns lF' ?_; k_whole)))
def optV (r : Option Int) (t : Tok) : Value := match r with
  | some v => .int v t
  | none => .none
local macro_rules | `(tactic| walk_at "eval Call") => `(tactic| (k_here; (with_reducible show wpAny _ _ (eval (Expr.Call (Expr.Name _ _) _ [] _) _) _ _ _); k_dflt (refine Call_ ?_)))
local macro_rules | `(tactic| walk_at "call ref") => `(tactic| (
  k_here
  (with_reducible show wpAny _ _ (call (Value.ref 57) _) _ _ _)
  k_dflt (
  refine' leap_c ?k1 ?k2 ?k3 ?k4 ?k5 ?kK ?kd ?ku ?_
  (case k1 => first | k_asm | ktn_no "use: the frames below")
  (case k2 => first | k_asm | ktn_no "use: the frame")
  (case k3 => first | k_asm | ktn_no "use: the written part")
  (case k4 => first | k_asm | ktn_no "use: the ledger")
  (case k5 => first | k_asm | ktn_no "use: the top's facts")
  (case kK => first | exact rfl | assumption | ktn_no "use: the caller is no def")
  (case kd => first | ktr_room | ktn_no "use: the frames' room")
  (case ku => first | ktr_units | ktn_no "use: the C units")
  intro t9 h9 tk9 F9 N9
  (try k_sweep)
  (try dsimp only)
  (try k_fold))))
local macro_rules | `(tactic| walk_at "call ref") => `(tactic| (
  k_here
  (with_reducible show wpAny _ _ (call (Value.ref 71) _) _ _ _)
  k_dflt (
  refine' d1_c ?k1 ?k2 ?k3 ?k4 ?k5 ?kK ?kd ?ku ?_
  (case k1 => first | k_asm | ktn_no "use: the frames below")
  (case k2 => first | k_asm | ktn_no "use: the frame")
  (case k3 => first | k_asm | ktn_no "use: the written part")
  (case k4 => first | k_asm | ktn_no "use: the ledger")
  (case k5 => first | k_asm | ktn_no "use: the top's facts")
  (case kK => first | exact rfl | assumption | ktn_no "use: the caller is no def")
  (case kd => first | ktr_room | ktn_no "use: the frames' room")
  (case ku => first | ktr_units | ktn_no "use: the C units")
  intro t9 h9 tk9 F9 N9
  (try k_sweep)
  (try dsimp only)
  (try k_fold))))
local macro_rules | `(tactic| walk_at "call ref") => `(tactic| (
  k_here
  (with_reducible show wpAny _ _ (call (Value.ref 28) _) _ _ _)
  k_dflt (
  refine' mid_c ?k1 ?k2 ?k3 ?k4 ?k5 ?kK ?kd ?ku ?_
  (case k1 => first | k_asm | ktn_no "use: the frames below")
  (case k2 => first | k_asm | ktn_no "use: the frame")
  (case k3 => first | k_asm | ktn_no "use: the written part")
  (case k4 => first | k_asm | ktn_no "use: the ledger")
  (case k5 => first | k_asm | ktn_no "use: the top's facts")
  (case kK => first | exact rfl | assumption | ktn_no "use: the caller is no def")
  (case kd => first | ktr_room | ktn_no "use: the frames' room")
  (case ku => first | ktr_units | ktn_no "use: the C units")
  intro t9 h9 tk9 F9 N9
  (try k_sweep)
  (try dsimp only)
  (try k_fold))))
local macro_rules | `(tactic| walk_at "call ref") => `(tactic| (
  k_here
  (with_reducible show wpAny _ _ (call (Value.ref 21) _) _ _ _)
  k_dflt (
  refine' isl_c ?k1 ?k2 ?k3 ?k4 ?k5 ?kK ?kd ?ku ?_
  (case k1 => first | k_asm | ktn_no "use: the frames below")
  (case k2 => first | k_asm | ktn_no "use: the frame")
  (case k3 => first | k_asm | ktn_no "use: the written part")
  (case k4 => first | k_asm | ktn_no "use: the ledger")
  (case k5 => first | k_asm | ktn_no "use: the top's facts")
  (case kK => first | exact rfl | assumption | ktn_no "use: the caller is no def")
  (case kd => first | ktr_room | ktn_no "use: the frames' room")
  (case ku => first | ktr_units | ktn_no "use: the C units")
  intro t9 h9 tk9 F9 N9
  (try k_sweep)
  (try dsimp only)
  (try k_fold))))
local macro_rules | `(tactic| walk_at "call ref") => `(tactic| (
  k_here
  (with_reducible show wpAny _ _ (call (Value.ref 64) _) _ _ _)
  k_dflt (
  refine' ym_c ?k1 ?k2 ?k3 ?k4 ?k5 ?kK ?kd ?ku ?_
  (case k1 => first | k_asm | ktn_no "use: the frames below")
  (case k2 => first | k_asm | ktn_no "use: the frame")
  (case k3 => first | k_asm | ktn_no "use: the written part")
  (case k4 => first | k_asm | ktn_no "use: the ledger")
  (case k5 => first | k_asm | ktn_no "use: the top's facts")
  (case kK => first | exact rfl | assumption | ktn_no "use: the caller is no def")
  (case kd => first | ktr_room | ktn_no "use: the frames' room")
  (case ku => first | ktr_units | ktn_no "use: the C units")
  intro t9 h9 tk9 F9 N9
  (try k_sweep)
  (try dsimp only)
  (try k_fold))))
local macro_rules | `(tactic| walk_at "call ref") => `(tactic| (
  k_here
  (with_reducible show wpAny _ _ (call (Value.ref 78) _) _ _ _)
  k_dflt (
  refine' d2_c ?k1 ?k2 ?k3 ?k4 ?k5 ?kK ?kd ?ku ?_
  (case k1 => first | k_asm | ktn_no "use: the frames below")
  (case k2 => first | k_asm | ktn_no "use: the frame")
  (case k3 => first | k_asm | ktn_no "use: the written part")
  (case k4 => first | k_asm | ktn_no "use: the ledger")
  (case k5 => first | k_asm | ktn_no "use: the top's facts")
  (case kK => first | exact rfl | assumption | ktn_no "use: the caller is no def")
  (case kd => first | ktr_room | ktn_no "use: the frames' room")
  (case ku => first | ktr_units | ktn_no "use: the C units")
  intro t9 h9 tk9 F9 N9
  (try k_sweep)
  (try dsimp only)
  (try k_fold))))
local macro_rules | `(tactic| walk_at "call ref") => `(tactic| (
  k_here
  (with_reducible show wpAny _ _ (call (Value.ref 163) _) _ _ _)
  k_dflt (
  refine' ja_c ?k1 ?k2 ?k3 ?k4 ?k5 ?kK ?kd ?ku ?_
  (case k1 => first | k_asm | ktn_no "use: the frames below")
  (case k2 => first | k_asm | ktn_no "use: the frame")
  (case k3 => first | k_asm | ktn_no "use: the written part")
  (case k4 => first | k_asm | ktn_no "use: the ledger")
  (case k5 => first | k_asm | ktn_no "use: the top's facts")
  (case kK => first | exact rfl | assumption | ktn_no "use: the caller is no def")
  (case kd => first | ktr_room | ktn_no "use: the frames' room")
  (case ku => first | ktr_units | ktn_no "use: the C units")
  intro t9 h9 tk9 F9 N9
  (try k_sweep)
  (try dsimp only)
  (try k_fold))))
local macro_rules | `(tactic| walk_at "call ref") => `(tactic| (
  k_here
  (with_reducible show wpAny _ _ (call (Value.ref 142) _) _ _ _)
  k_dflt (
  refine' th_c ?k1 ?k2 ?k3 ?k4 ?k5 ?kK ?kd ?ku ?_
  (case k1 => first | k_asm | ktn_no "use: the frames below")
  (case k2 => first | k_asm | ktn_no "use: the frame")
  (case k3 => first | k_asm | ktn_no "use: the written part")
  (case k4 => first | k_asm | ktn_no "use: the ledger")
  (case k5 => first | k_asm | ktn_no "use: the top's facts")
  (case kK => first | exact rfl | assumption | ktn_no "use: the caller is no def")
  (case kd => first | ktr_room | ktn_no "use: the frames' room")
  (case ku => first | ktr_units | ktn_no "use: the C units")
  intro t9 h9 tk9 F9 N9
  (try k_sweep)
  (try dsimp only)
  (try k_fold))))
local macro_rules | `(tactic| walk_at "call ref") => `(tactic| (
  k_here
  (with_reducible show wpAny _ _ (call (Value.ref 149) _) _ _ _)
  k_dflt (
  refine' ti_c ?k1 ?k2 ?k3 ?k4 ?k5 ?kK ?kd ?ku ?_
  (case k1 => first | k_asm | ktn_no "use: the frames below")
  (case k2 => first | k_asm | ktn_no "use: the frame")
  (case k3 => first | k_asm | ktn_no "use: the written part")
  (case k4 => first | k_asm | ktn_no "use: the ledger")
  (case k5 => first | k_asm | ktn_no "use: the top's facts")
  (case kK => first | exact rfl | assumption | ktn_no "use: the caller is no def")
  (case kd => first | ktr_room | ktn_no "use: the frames' room")
  (case ku => first | ktr_units | ktn_no "use: the C units")
  intro t9 h9 tk9 F9 N9
  (try k_sweep)
  (try dsimp only)
  (try k_fold))))
local macro_rules | `(tactic| walk_at "ite") => `(tactic| (k_here; first | with_reducible refine ite_epos (by with_reducible assumption) ?_ | with_reducible refine ite_eneg (by with_reducible assumption) ?_ | with_reducible refine ite_dpos (by with_reducible assumption) ?_ | with_reducible refine ite_dneg (by with_reducible assumption) ?_ | with_reducible refine ite_pos (by with_reducible assumption) ?_ | with_reducible refine ite_bneg (by with_reducible assumption) ?_ | with_reducible refine ite_neg (by with_reducible assumption) ?_))
local macro_rules | `(tactic| walk_at "eval IfExp") => `(tactic| (k_here; k_dflt (refine ifexp_ints ?_)))
set_option maxRecDepth 100000 in
set_option maxHeartbeats 2000000 in
theorem ld_t {w loose mean mg mb news} {y mm d : Int} {t tm td : Tok} (hth : th y = true) : Cl w loose mean mg mb 156 4 news [.int y t, .int mm tm, .int d td] (fun t => optV (ld y mm d) t) := by
  unfold Cl
  k_fill
  intro dp un gd cn cs a ccd cl outer A₀ base h₀ L m s Q E B F X N T hk hdp hun hret
  refine wpAny_call ?_
  k_dflt cell_enter
  repeat' (first | (k_unfold; (try dsimp only)) | (walk1; all_goals (try dsimp only)))
  rename Fr _ _ _ _ => kF
  rename News _ _ _ _ => kN
  with_unfolding_all refine rows_iter (ldRows y) mm d (ti y) _ [Str.ofString "own", Str.ofString "size"] (ld y mm d) (by rfl) kF kN (by k_mem) (by rfl) (by rfl) ?hr (by rfl) rfl ?tu ?re ?dn
  case hr =>
    simp only [List.map_cons, List.map_nil, ldRows, hth, if_true, List.cons_append, List.nil_append, Bool.false_eq_true, if_false]
    repeat (first | exact .nil | refine .cons (by k_mem) ?_)
  case re =>
    intro v' t' h' tk' m' hv F' N'
    have hret' : CbRet h₀ L m news s Q (fun t => .int v' t) := by simpa only [hv, optV] using hret
    repeat' (first | (k_unfold; (try dsimp only)) | (walk1; all_goals (try dsimp only)))
    all_goals (refine hret' _ _ _ ?_ ?_ <;> first | with_reducible assumption | exact cb_drop (by with_reducible assumption) (by intro _ hp9; (repeat (first | with_reducible exact hp9 | with_reducible refine List.mem_cons_of_mem _ ?_)); done))
  case dn =>
    intro hv h' tk' m' F' N'
    have hret' : CbRet h₀ L m news s Q (fun _ => .none) := by simpa only [hv, optV] using hret
    repeat' (first | (k_unfold; (try dsimp only)) | (walk1; all_goals (try dsimp only)))
    all_goals (refine hret' 0 _ _ ?_ ?_ <;> first | with_reducible assumption | exact cb_drop (by with_reducible assumption) (by intro _ hp9; (repeat (first | with_reducible exact hp9 | with_reducible refine List.mem_cons_of_mem _ ?_)); done))
  case tu =>
    clear kF kN
    intro o z k T I t1 t2 t c it u h tk hT hit F' N'
    (try k_fold)
    repeat' (first | (k_unfold; (try dsimp only)) | (walk1; all_goals (try dsimp only)))
    all_goals (
      (rename Fr _ _ _ _ => fE'); (rename News _ _ _ _ => nE')
      first
      | (refine rowPost_ret fE' nE' ?_ (by intro _ hp9; (repeat (first | with_reducible exact hp9 | with_reducible refine List.mem_cons_of_mem _ ?_)); done); (law_clear; (try simp only [decide_eq_true_eq, beq_iff_eq] at *); omega))
      | (refine rowPost_next fE' nE' ?_ (by k_mem) (by intro _ hp9; (repeat (first | with_reducible exact hp9 | with_reducible refine List.mem_cons_of_mem _ ?_)); done) (by rfl) (by intro q h2 h3; have h4 := h3; simp only [List.contains_cons, List.contains_nil, Bool.or_false, Bool.or_eq_false_iff, beq_eq_false_iff_ne, ne_eq] at h3; simp only [kstB, h2, h3.1, h3.2, h4, if_false, Bool.false_eq_true]); (law_clear; (try simp only [decide_eq_true_eq, beq_iff_eq] at *); omega)))
set_option maxRecDepth 100000 in
set_option maxHeartbeats 2000000 in
theorem ld_f {w loose mean mg mb news} {y mm d : Int} {t tm td : Tok} (hth : th y = false) : Cl w loose mean mg mb 156 4 news [.int y t, .int mm tm, .int d td] (fun t => optV (ld y mm d) t) := by
  unfold Cl
  k_fill
  intro dp un gd cn cs a ccd cl outer A₀ base h₀ L m s Q E B F X N T hk hdp hun hret
  refine wpAny_call ?_
  k_dflt cell_enter
  repeat' (first | (k_unfold; (try dsimp only)) | (walk1; all_goals (try dsimp only)))
  rename Fr _ _ _ _ => kF
  rename News _ _ _ _ => kN
  with_unfolding_all refine rows_iter (ldRows y) mm d (ti y) _ [Str.ofString "own", Str.ofString "size"] (ld y mm d) (by rfl) kF kN (by k_mem) (by rfl) (by rfl) ?hr (by rfl) rfl ?tu ?re ?dn
  case hr =>
    simp only [List.map_cons, List.map_nil, ldRows, hth, if_true, List.cons_append, List.nil_append, Bool.false_eq_true, if_false]
    repeat (first | exact .nil | refine .cons (by k_mem) ?_)
  case re =>
    intro v' t' h' tk' m' hv F' N'
    have hret' : CbRet h₀ L m news s Q (fun t => .int v' t) := by simpa only [hv, optV] using hret
    repeat' (first | (k_unfold; (try dsimp only)) | (walk1; all_goals (try dsimp only)))
    all_goals (refine hret' _ _ _ ?_ ?_ <;> first | with_reducible assumption | exact cb_drop (by with_reducible assumption) (by intro _ hp9; (repeat (first | with_reducible exact hp9 | with_reducible refine List.mem_cons_of_mem _ ?_)); done))
  case dn =>
    intro hv h' tk' m' F' N'
    have hret' : CbRet h₀ L m news s Q (fun _ => .none) := by simpa only [hv, optV] using hret
    repeat' (first | (k_unfold; (try dsimp only)) | (walk1; all_goals (try dsimp only)))
    all_goals (refine hret' 0 _ _ ?_ ?_ <;> first | with_reducible assumption | exact cb_drop (by with_reducible assumption) (by intro _ hp9; (repeat (first | with_reducible exact hp9 | with_reducible refine List.mem_cons_of_mem _ ?_)); done))
  case tu =>
    clear kF kN
    intro o z k T I t1 t2 t c it u h tk hT hit F' N'
    (try k_fold)
    repeat' (first | (k_unfold; (try dsimp only)) | (walk1; all_goals (try dsimp only)))
    all_goals (
      (rename Fr _ _ _ _ => fE'); (rename News _ _ _ _ => nE')
      first
      | (refine rowPost_ret fE' nE' ?_ (by intro _ hp9; (repeat (first | with_reducible exact hp9 | with_reducible refine List.mem_cons_of_mem _ ?_)); done); (law_clear; (try simp only [decide_eq_true_eq, beq_iff_eq] at *); omega))
      | (refine rowPost_next fE' nE' ?_ (by k_mem) (by intro _ hp9; (repeat (first | with_reducible exact hp9 | with_reducible refine List.mem_cons_of_mem _ ?_)); done) (by rfl) (by intro q h2 h3; have h4 := h3; simp only [List.contains_cons, List.contains_nil, Bool.or_false, Bool.or_eq_false_iff, beq_eq_false_iff_ne, ne_eq] at h3; simp only [kstB, h2, h3.1, h3.2, h4, if_false, Bool.false_eq_true]); (law_clear; (try simp only [decide_eq_true_eq, beq_iff_eq] at *); omega)))
theorem ld_some {w loose mean mg mb news} {y mm d v : Int} {t tm td : Tok} (h : ld y mm d = some v) : Cl w loose mean mg mb 156 4 news [.int y t, .int mm tm, .int d td] (fun t => .int v t) := by
  have k : Cl w loose mean mg mb 156 4 news [.int y t, .int mm tm, .int d td] (fun t => optV (ld y mm d) t) := by
    cases hth : th y with
    | true => exact ld_t hth
    | false => exact ld_f hth
  rw [h] at k
  exact @k
theorem ld_none {w loose mean mg mb news} {y mm d : Int} {t tm td : Tok} (h : ld y mm d = none) : Cl w loose mean mg mb 156 4 news [.int y t, .int mm tm, .int d td] (fun _ => .none) := by
  have k : Cl w loose mean mg mb 156 4 news [.int y t, .int mm tm, .int d td] (fun t => optV (ld y mm d) t) := by
    cases hth : th y with
    | true => exact ld_t hth
    | false => exact ld_f hth
  rw [h] at k
  exact @k
end Mine
end
section
open PySem PySem.W PyProof.Rows PySem.Spec PySem.Calls
namespace Mine
local macro_rules | `(tactic| walk_at "no such step") => `(tactic| fail)
local macro_rules | `(tactic| walk_at "no such step") => `(tactic| fail)
local macro_rules | `(tactic| walk_at "no such step") => `(tactic| fail)
local macro_rules | `(tactic| walk_at "no such step") => `(tactic| fail)
local macro_rules | `(tactic| walk_at "no such step") => `(tactic| fail)
local macro_rules | `(tactic| walk_at "no such step") => `(tactic| fail)
local macro_rules | `(tactic| walk_at "no such step") => `(tactic| fail)
local macro_rules | `(tactic| walk_at "no such step") => `(tactic| fail)
local macro_rules | `(tactic| walk_at "no such step") => `(tactic| fail)
local macro_rules | `(tactic| walk_at "no such step") => `(tactic| fail)
local macro_rules | `(tactic| walk_at "no such step") => `(tactic| fail)
local macro_rules | `(tactic| walk_at "no such step") => `(tactic| fail)
local macro_rules | `(tactic| walk_at "no such step") => `(tactic| fail)
local macro_rules | `(tactic| walk_at "no such step") => `(tactic| fail)
local macro_rules | `(tactic| walk_at "no such step") => `(tactic| fail)
local macro_rules | `(tactic| walk_at "no such step") => `(tactic| fail)
local macro_rules | `(tactic| walk_at "no such step") => `(tactic| fail)
local macro_rules | `(tactic| walk_at "no such step") => `(tactic| fail)
local macro_rules | `(tactic| walk_at "no such step") => `(tactic| fail)
local macro_rules | `(tactic| walk_at "no such step") => `(tactic| fail)
local macro_rules | `(tactic| walk_at "no such step") => `(tactic| fail)
local macro_rules | `(tactic| walk_at "no such step") => `(tactic| fail)
local macro_rules | `(tactic| walk_at "no such step") => `(tactic| fail)
local macro_rules | `(tactic| walk_at "no such step") => `(tactic| fail)
abbrev feb (y : Int) : Int := ja (y + 1) - ja y - 337
def szs (y : Int) : List Int := [31, feb y, 31, 30, 31, 30, 31, 31, 30, 31, 30, 31]
def sz (y k : Int) : Int := (szs y).getD k.toNat 0
def gs (y k : Int) : Int := ((szs y).take k.toNat).sum
theorem gs_succ (y k : Int) (h0 : 0 ≤ k) (h1 : k ≤ 11) : gs y (k + 1) = gs y k + sz y k := by
  have hk : k = 0 ∨ k = 1 ∨ k = 2 ∨ k = 3 ∨ k = 4 ∨ k = 5 ∨ k = 6 ∨ k = 7 ∨ k = 8 ∨ k = 9 ∨ k = 10 ∨ k = 11 := by omega
  rcases hk with rfl | rfl | rfl | rfl | rfl | rfl | rfl | rfl | rfl | rfl | rfl | rfl <;> simp [gs, sz, szs] <;> omega
/-- what _law_date asks to find the year Y, the month's place M -/
structure DtOk (y n Y M : Int) : Prop where
  a : Y ≤ y
  b : ∀ i, Y ≤ i → n < ja i → Y < i
  c : ∀ i, Y ≤ i → ¬ n < ja i → i = Y
  m0 : 0 ≤ M
  m1 : M ≤ 11
  d : ∀ k, 0 ≤ k → k ≤ M → sz Y k ≤ n - ja Y - gs Y k → k < M
  e : ∀ k, 0 ≤ k → k ≤ M → ¬ sz Y k ≤ n - ja Y - gs Y k → k = M
abbrev Ret12 (h₀ : Heap) (L : Addr) (m : Str → Option Value) (news : List (Addr × Obj)) (s : Shared) (Q : Value → Shared → Prop) (y : Int) : Prop :=
  ∀ (D : Addr) (t1 t2 t3 t4 t5 t6 t7 t8 t9 t10 t11 t12 : Tok) (c : Nat) (h' : Heap) (tk' : Nat), Fr h₀ L h' m → News h₀ L h' ((D, ({ cls := .type "tuple", data := .seq #[.int 31 t1, .int (feb y) t2, .int 31 t3, .int 30 t4, .int 31 t5, .int 30 t6, .int 31 t7, .int 31 t8, .int 30 t9, .int 31 t10, .int 30 t11, .int 31 t12] c } : Obj)) :: news) → AllLt D news → Q (.ref D) { s with heap := h', toks := tk' }
abbrev Cl12 (w : World) (loose : List Str) (mean : ExcName → Option Value) (mg mb : Str → Option Value) (f : Addr) (need : Nat) (news : List (Addr × Obj)) (vs : List Value) (y : Int) : Prop :=
  ∀ {dp un : Nat} {gd : Option (List Code)} {cn : Str} {cs : Scope} {a : Addr} {ccd : Value} {cl : List (Str × Addr)} {outer : List Env} {A₀ : Around} {base h₀ : Heap} {L : Addr} {m : Str → Option Value} {s : Shared} {Q E : Value → Shared → Prop},
    Below A₀ base outer h₀ → Fr h₀ L s.heap m → (hd.heap_39 w.params).In h₀ → News h₀ L s.heap news → Top hd.view_39 loose mean mg mb h₀ → cs.kind = .function →
    dp + need < recursionLimit → un + 8 * need < cLine → Ret12 h₀ L m news s Q y →
      wpAny (model PySem.Challenge.rw_bn0008_01.row.prog w) (ktrTop dp un gd cn cs L a ccd cl outer) (call (.ref f) vs) Q E s
local macro_rules | `(tactic| walk_at "eval Call") => `(tactic| (k_here; (with_reducible show wpAny _ _ (eval (Expr.Call (Expr.Name _ _) _ [] _) _) _ _ _); k_dflt (refine Call_ ?_)))
local macro_rules | `(tactic| walk_at "call ref") => `(tactic| (
  k_here
  (with_reducible show wpAny _ _ (call (Value.ref 57) _) _ _ _)
  k_dflt (
  refine' leap_c ?k1 ?k2 ?k3 ?k4 ?k5 ?kK ?kd ?ku ?_
  (case k1 => first | k_asm | ktn_no "use: the frames below")
  (case k2 => first | k_asm | ktn_no "use: the frame")
  (case k3 => first | k_asm | ktn_no "use: the written part")
  (case k4 => first | k_asm | ktn_no "use: the ledger")
  (case k5 => first | k_asm | ktn_no "use: the top's facts")
  (case kK => first | exact rfl | assumption | ktn_no "use: the caller is no def")
  (case kd => first | ktr_room | ktn_no "use: the frames' room")
  (case ku => first | ktr_units | ktn_no "use: the C units")
  intro t9 h9 tk9 F9 N9
  (try k_sweep)
  (try dsimp only)
  (try k_fold))))
local macro_rules | `(tactic| walk_at "call ref") => `(tactic| (
  k_here
  (with_reducible show wpAny _ _ (call (Value.ref 71) _) _ _ _)
  k_dflt (
  refine' d1_c ?k1 ?k2 ?k3 ?k4 ?k5 ?kK ?kd ?ku ?_
  (case k1 => first | k_asm | ktn_no "use: the frames below")
  (case k2 => first | k_asm | ktn_no "use: the frame")
  (case k3 => first | k_asm | ktn_no "use: the written part")
  (case k4 => first | k_asm | ktn_no "use: the ledger")
  (case k5 => first | k_asm | ktn_no "use: the top's facts")
  (case kK => first | exact rfl | assumption | ktn_no "use: the caller is no def")
  (case kd => first | ktr_room | ktn_no "use: the frames' room")
  (case ku => first | ktr_units | ktn_no "use: the C units")
  intro t9 h9 tk9 F9 N9
  (try k_sweep)
  (try dsimp only)
  (try k_fold))))
local macro_rules | `(tactic| walk_at "call ref") => `(tactic| (
  k_here
  (with_reducible show wpAny _ _ (call (Value.ref 28) _) _ _ _)
  k_dflt (
  refine' mid_c ?k1 ?k2 ?k3 ?k4 ?k5 ?kK ?kd ?ku ?_
  (case k1 => first | k_asm | ktn_no "use: the frames below")
  (case k2 => first | k_asm | ktn_no "use: the frame")
  (case k3 => first | k_asm | ktn_no "use: the written part")
  (case k4 => first | k_asm | ktn_no "use: the ledger")
  (case k5 => first | k_asm | ktn_no "use: the top's facts")
  (case kK => first | exact rfl | assumption | ktn_no "use: the caller is no def")
  (case kd => first | ktr_room | ktn_no "use: the frames' room")
  (case ku => first | ktr_units | ktn_no "use: the C units")
  intro t9 h9 tk9 F9 N9
  (try k_sweep)
  (try dsimp only)
  (try k_fold))))
local macro_rules | `(tactic| walk_at "call ref") => `(tactic| (
  k_here
  (with_reducible show wpAny _ _ (call (Value.ref 21) _) _ _ _)
  k_dflt (
  refine' isl_c ?k1 ?k2 ?k3 ?k4 ?k5 ?kK ?kd ?ku ?_
  (case k1 => first | k_asm | ktn_no "use: the frames below")
  (case k2 => first | k_asm | ktn_no "use: the frame")
  (case k3 => first | k_asm | ktn_no "use: the written part")
  (case k4 => first | k_asm | ktn_no "use: the ledger")
  (case k5 => first | k_asm | ktn_no "use: the top's facts")
  (case kK => first | exact rfl | assumption | ktn_no "use: the caller is no def")
  (case kd => first | ktr_room | ktn_no "use: the frames' room")
  (case ku => first | ktr_units | ktn_no "use: the C units")
  intro t9 h9 tk9 F9 N9
  (try k_sweep)
  (try dsimp only)
  (try k_fold))))
local macro_rules | `(tactic| walk_at "call ref") => `(tactic| (
  k_here
  (with_reducible show wpAny _ _ (call (Value.ref 64) _) _ _ _)
  k_dflt (
  refine' ym_c ?k1 ?k2 ?k3 ?k4 ?k5 ?kK ?kd ?ku ?_
  (case k1 => first | k_asm | ktn_no "use: the frames below")
  (case k2 => first | k_asm | ktn_no "use: the frame")
  (case k3 => first | k_asm | ktn_no "use: the written part")
  (case k4 => first | k_asm | ktn_no "use: the ledger")
  (case k5 => first | k_asm | ktn_no "use: the top's facts")
  (case kK => first | exact rfl | assumption | ktn_no "use: the caller is no def")
  (case kd => first | ktr_room | ktn_no "use: the frames' room")
  (case ku => first | ktr_units | ktn_no "use: the C units")
  intro t9 h9 tk9 F9 N9
  (try k_sweep)
  (try dsimp only)
  (try k_fold))))
local macro_rules | `(tactic| walk_at "call ref") => `(tactic| (
  k_here
  (with_reducible show wpAny _ _ (call (Value.ref 78) _) _ _ _)
  k_dflt (
  refine' d2_c ?k1 ?k2 ?k3 ?k4 ?k5 ?kK ?kd ?ku ?_
  (case k1 => first | k_asm | ktn_no "use: the frames below")
  (case k2 => first | k_asm | ktn_no "use: the frame")
  (case k3 => first | k_asm | ktn_no "use: the written part")
  (case k4 => first | k_asm | ktn_no "use: the ledger")
  (case k5 => first | k_asm | ktn_no "use: the top's facts")
  (case kK => first | exact rfl | assumption | ktn_no "use: the caller is no def")
  (case kd => first | ktr_room | ktn_no "use: the frames' room")
  (case ku => first | ktr_units | ktn_no "use: the C units")
  intro t9 h9 tk9 F9 N9
  (try k_sweep)
  (try dsimp only)
  (try k_fold))))
local macro_rules | `(tactic| walk_at "call ref") => `(tactic| (
  k_here
  (with_reducible show wpAny _ _ (call (Value.ref 163) _) _ _ _)
  k_dflt (
  refine' ja_c ?k1 ?k2 ?k3 ?k4 ?k5 ?kK ?kd ?ku ?_
  (case k1 => first | k_asm | ktn_no "use: the frames below")
  (case k2 => first | k_asm | ktn_no "use: the frame")
  (case k3 => first | k_asm | ktn_no "use: the written part")
  (case k4 => first | k_asm | ktn_no "use: the ledger")
  (case k5 => first | k_asm | ktn_no "use: the top's facts")
  (case kK => first | exact rfl | assumption | ktn_no "use: the caller is no def")
  (case kd => first | ktr_room | ktn_no "use: the frames' room")
  (case ku => first | ktr_units | ktn_no "use: the C units")
  intro t9 h9 tk9 F9 N9
  (try k_sweep)
  (try dsimp only)
  (try k_fold))))
local macro_rules | `(tactic| walk_at "call ref") => `(tactic| (
  k_here
  (with_reducible show wpAny _ _ (call (Value.ref 142) _) _ _ _)
  k_dflt (
  refine' th_c ?k1 ?k2 ?k3 ?k4 ?k5 ?kK ?kd ?ku ?_
  (case k1 => first | k_asm | ktn_no "use: the frames below")
  (case k2 => first | k_asm | ktn_no "use: the frame")
  (case k3 => first | k_asm | ktn_no "use: the written part")
  (case k4 => first | k_asm | ktn_no "use: the ledger")
  (case k5 => first | k_asm | ktn_no "use: the top's facts")
  (case kK => first | exact rfl | assumption | ktn_no "use: the caller is no def")
  (case kd => first | ktr_room | ktn_no "use: the frames' room")
  (case ku => first | ktr_units | ktn_no "use: the C units")
  intro t9 h9 tk9 F9 N9
  (try k_sweep)
  (try dsimp only)
  (try k_fold))))
local macro_rules | `(tactic| walk_at "call ref") => `(tactic| (
  k_here
  (with_reducible show wpAny _ _ (call (Value.ref 149) _) _ _ _)
  k_dflt (
  refine' ti_c ?k1 ?k2 ?k3 ?k4 ?k5 ?kK ?kd ?ku ?_
  (case k1 => first | k_asm | ktn_no "use: the frames below")
  (case k2 => first | k_asm | ktn_no "use: the frame")
  (case k3 => first | k_asm | ktn_no "use: the written part")
  (case k4 => first | k_asm | ktn_no "use: the ledger")
  (case k5 => first | k_asm | ktn_no "use: the top's facts")
  (case kK => first | exact rfl | assumption | ktn_no "use: the caller is no def")
  (case kd => first | ktr_room | ktn_no "use: the frames' room")
  (case ku => first | ktr_units | ktn_no "use: the C units")
  intro t9 h9 tk9 F9 N9
  (try k_sweep)
  (try dsimp only)
  (try k_fold))))
set_option maxRecDepth 100000 in
set_option maxHeartbeats 2000000 in
theorem sz_c {w loose mean mg mb news} {y : Int} {t : Tok} : Cl12 w loose mean mg mb 170 2 news [.int y t] y := by
  unfold Cl12
  k_fill
  intro dp un gd cn cs a ccd cl outer A₀ base h₀ L m s Q E B F X N T hk hdp hun hret
  refine wpAny_call ?_
  k_dflt cell_enter
  repeat' (first | (k_unfold; (try dsimp only)) | (walk1; all_goals (try dsimp only)))
  all_goals (refine hret _ _ _ _ _ _ _ _ _ _ _ _ _ _ _ _ ?_ (by first | with_reducible assumption | (refine cb_drop (by with_reducible assumption) (by intro _ hp9; rcases List.mem_cons.mp hp9 with hp9 | hp9; (rw [hp9]; exact List.mem_cons_self ..); (repeat (first | with_reducible exact hp9 | with_reducible refine List.mem_cons_of_mem _ ?_)); done)) | k_asm) (by kcu_lt); with_reducible assumption)
local macro_rules | `(tactic| walk_at "call ref") => `(tactic| (
  k_here
  (with_reducible show wpAny _ _ (call (Value.ref 170) _) _ _ _)
  k_dflt (
  refine' sz_c ?k1 ?k2 ?k3 ?k4 ?k5 ?kK ?kd ?ku ?_
  (case k1 => first | k_asm | ktn_no "use: the frames below")
  (case k2 => first | k_asm | ktn_no "use: the frame")
  (case k3 => first | k_asm | ktn_no "use: the written part")
  (case k4 => first | k_asm | ktn_no "use: the ledger")
  (case k5 => first | k_asm | ktn_no "use: the top's facts")
  (case kK => first | exact rfl | assumption | ktn_no "use: the caller is no def")
  (case kd => first | ktr_room | ktn_no "use: the frames' room")
  (case ku => first | ktr_units | ktn_no "use: the C units")
  intro D9 t1 t2 t3 t4 t5 t6 t7 t8 t9 t10 t11 t12 c9 h9 tk9 F9 N9 l9
  (try simp only [AllLt, and_true] at l9)
  (try k_sweep)
  (try dsimp only)
  (try k_fold))))
set_option maxRecDepth 100000 in
set_option maxHeartbeats 2000000 in
theorem dt_c {w loose mean mg mb news} {y n Y M : Int} {t tn : Tok} (h : DtOk y n Y M) : Cl3 w loose mean mg mb 177 3 news [.int y t, .int n tn] Y (M + 1) (n - ja Y - gs Y M + 1) := by
  have hm0 := h.m0
  have hm1 := h.m1
  have ha := h.a
  k_with_none
  k_with "exec While Compare cons nil" => k_while (fun _ yy => Y ≤ yy) (fun _ yy => (yy - Y).toNat) "year"
  k_with "exec While Compare cons nil" => k_while (fun _ r mo => r = n - ja Y - gs Y mo ∧ 0 ≤ mo ∧ mo ≤ M) (fun _ r mo => (M - mo).toNat) "rest" "month"
  k_with "state" => (k_dflt ((try dsimp only); first | ((have q := DtOk.b h _ (by assumption) (by assumption)); omega) | ((have q0 : gs Y 0 = 0 := by simp [gs]); omega) | ((have q1 := gs_succ Y _ (by assumption) (by omega)); (have q2 := DtOk.d h _ (by assumption) (by assumption) (by simp only [sz, szs] at *; omega)); (simp only [sz, szs] at *); refine ⟨by omega, by omega, by omega⟩)))
  k_with "measure" => (k_dflt ((try dsimp only); first | ((have q := DtOk.b h _ (by assumption) (by assumption)); omega) | ((have q2 := DtOk.d h _ (by assumption) (by assumption) (by simp only [sz, szs] at *; omega)); omega)))
  k_with "exec Assign" => (k_dflt ((rename (Y ≤ _) => hy9); (have e9 := (DtOk.c h _ hy9 (by assumption)).symm); subst e9))
  unfold Cl3
  k_fill
  intro dp un gd cn cs a ccd cl outer A₀ base h₀ L m s Q E B F X N T hk hdp hun hret
  refine wpAny_call ?_
  k_dflt cell_enter
  repeat' (first | (k_unfold; (try dsimp only)) | (walk1; all_goals (try dsimp only)))
  all_goals (
    (have q := DtOk.e h _ (by assumption) (by assumption) (by simp only [sz, szs] at *; omega))
    refine ret3 (Q := Q) hret ?_ ?_ ?_ (by first | with_reducible assumption | k_asm) (by first | with_reducible assumption | (refine cb_drop (by with_reducible assumption) (by intro _ hp9; rcases List.mem_cons.mp hp9 with hp9 | hp9; (rw [hp9]; exact List.mem_cons_self ..); (repeat (first | with_reducible exact hp9 | with_reducible refine List.mem_cons_of_mem _ ?_)); done)) | k_asm) (by first | kcu_lt | exact (by with_reducible assumption : _ ∧ AllLt _ _).2 | exact (by with_reducible assumption : _ ∧ _ ∧ AllLt _ _).2.2)
    all_goals (
      law_clear
      first | rfl | omega | (simp_all; done)))
  k_with_none
end Mine
end
section
open PySem PySem.W PyProof.Rows PySem.Spec PySem.Calls
namespace Mine
local macro_rules | `(tactic| walk_at "no such step") => `(tactic| fail)
local macro_rules | `(tactic| walk_at "no such step") => `(tactic| fail)
local macro_rules | `(tactic| walk_at "no such step") => `(tactic| fail)
local macro_rules | `(tactic| walk_at "no such step") => `(tactic| fail)
local macro_rules | `(tactic| walk_at "no such step") => `(tactic| fail)
local macro_rules | `(tactic| walk_at "no such step") => `(tactic| fail)
local macro_rules | `(tactic| walk_at "no such step") => `(tactic| fail)
local macro_rules | `(tactic| walk_at "no such step") => `(tactic| fail)
local macro_rules | `(tactic| walk_at "no such step") => `(tactic| fail)
local macro_rules | `(tactic| walk_at "no such step") => `(tactic| fail)
local macro_rules | `(tactic| walk_at "no such step") => `(tactic| fail)
local macro_rules | `(tactic| walk_at "no such step") => `(tactic| fail)
local macro_rules | `(tactic| walk_at "no such step") => `(tactic| fail)
local macro_rules | `(tactic| walk_at "no such step") => `(tactic| fail)
local macro_rules | `(tactic| walk_at "no such step") => `(tactic| fail)
local macro_rules | `(tactic| walk_at "no such step") => `(tactic| fail)
local macro_rules | `(tactic| walk_at "no such step") => `(tactic| fail)
local macro_rules | `(tactic| walk_at "no such step") => `(tactic| fail)
local macro_rules | `(tactic| walk_at "no such step") => `(tactic| fail)
local macro_rules | `(tactic| walk_at "no such step") => `(tactic| fail)
local macro_rules | `(tactic| walk_at "no such step") => `(tactic| fail)
local macro_rules | `(tactic| walk_at "no such step") => `(tactic| fail)
local macro_rules | `(tactic| walk_at "no such step") => `(tactic| fail)
local macro_rules | `(tactic| walk_at "no such step") => `(tactic| fail)
local macro_rules | `(tactic| walk_at "no such step") => `(tactic| fail)
theorem txt : Str.ofString "Month {} doesn't have a day {}" = Str.mk #[77, 111, 110, 116, 104, 32, 123, 125, 32, 100, 111, 101, 115, 110, 39, 116, 32, 104, 97, 118, 101, 32, 97, 32, 100, 97, 121, 32, 123, 125] := by
  decide +kernel
theorem log2_small {n : Int} (h : -100 < n ∧ n < 100) : n.natAbs.log2 < 1920 := by
  by_cases h0 : n.natAbs = 0
  · rw [h0]; decide
  · have h1 : n.natAbs.log2 < 10 := (Nat.log2_lt h0).2 (by omega)
    omega
theorem nat_small (n : Nat) (h : n < 1000) : (Str.ofString (toString (n : Int))).length ≤ 5 := Nat.le_trans (toString_length_le (k := 3) (by omega) (by decide) (by omega)) (by decide)
theorem len_small {n : Int} (h : -100 < n ∧ n < 100) : (Str.ofString (toString n)).length ≤ 5 := by
  have key : ∀ k : Nat, k < 199 → (Str.ofString (toString ((k : Int) - 99))).length ≤ 5 := by decide +kernel
  have := key (n + 99).toNat (by omega)
  rw [show (((n + 99).toNat : Nat) : Int) - 99 = n from by omega] at this
  exact this
local macro_rules | `(tactic| kfm_hd) => `(tactic| (exact log2_small (by assumption)))
local macro_rules | `(tactic| kfm_len) => `(tactic| (first
  | exact len_small (by assumption)
  | ((show _ ≤ 100000); decide +kernel)
  | ((show _ ≤ 1000000); omega)
  | fail "kfm_len: no bound on the text at hand"))
set_option maxRecDepth 100000 in
set_option maxHeartbeats 400000 in
theorem fmt_c {prog : Program} {w : World} {A : Around} {E : Value → Shared → Prop} {s : Shared} {mm d : Int} {tx tm td : Tok} (b1 : -100 < mm ∧ mm < 100) (b2 : -100 < d ∧ d < 100) {Q : Value → Shared → Prop} (h : ∀ T t' k, Q (.str T t') { s with toks := k }) :
    wpAny (model prog w) A (call (.builtin "str.format") [.str (Str.ofString "Month {} doesn't have a day {}") tx, .int mm tm, .int d td]) Q E s := by
  refine' KFm.call_k ?kfmF ?kfmg ?kfmm ?_
  case kfmF => exact txt
  case kfmg => exact KFm.args_3 _ _ _
  case kfmm => k_dflt kfm_run
  exact fun t' k => h _ t' k
local macro_rules | `(tactic| walk_at "call builtin:str.format") => `(tactic| (k_here; k_dflt (refine' fmt_c ?a ?b ?_; (case a => assumption); (case b => assumption); k_whole); intro T' t' tk'))
theorem raisedN_drop {base : Heap} {l : List Env} {e : Addr} {cls : Value} {news news' : List (Addr × Obj)} {h : Heap} (R : RaisedN base l e cls news' h) (hs : ∀ p ∈ news, p ∈ news') : RaisedN base l e cls news h :=
  let ⟨B, a0, h1, h2, h3⟩ := R
  ⟨B, a0, h1, fun q hq => h2 q (hs q hq), h3⟩
/-- a ValueError comes back -/
abbrev RetE (base h₀ : Heap) (outer : List Env) (cn : Str) (cs : Scope) (a : Addr) (ccd : Value) (cl : List (Str × Addr)) (L : Addr) (m : Str → Option Value) (news : List (Addr × Obj)) (s : Shared) (E : Value → Shared → Prop) : Prop :=
  ∀ (e : Addr) (g₂ h' : Heap) (tk' : Nat), Fr h₀ L g₂ m → RaisedN base (envX cn cs L a ccd cl :: outer) e (.type "ValueError") news h' → g₂.UpToSlots h' → E (.ref e) { s with heap := h', toks := tk' }
abbrev ClE (w : World) (loose : List Str) (mean : ExcName → Option Value) (mg mb : Str → Option Value) (f : Addr) (need : Nat) (news : List (Addr × Obj)) (vs : List Value) : Prop :=
  ∀ {dp un : Nat} {gd : Option (List Code)} {cn : Str} {cs : Scope} {a : Addr} {ccd : Value} {cl : List (Str × Addr)} {outer : List Env} {A₀ : Around} {base h₀ : Heap} {L : Addr} {m : Str → Option Value} {s : Shared} {Q E : Value → Shared → Prop},
    Below A₀ base outer h₀ → Fr h₀ L s.heap m → (hd.heap_39 w.params).In h₀ → News h₀ L s.heap news → Top hd.view_39 loose mean mg mb h₀ → cs.kind = .function →
    dp + need < recursionLimit → un + 8 * need < cLine → RetE base h₀ outer cn cs a ccd cl L m news s E →
      wpAny (model PySem.Challenge.rw_bn0008_01.row.prog w) (ktrTop dp un gd cn cs L a ccd cl outer) (call (.ref f) vs) Q E s
local macro_rules | `(tactic| walk_at "eval Call") => `(tactic| (k_here; (with_reducible show wpAny _ _ (eval (Expr.Call (Expr.Name _ _) _ [] _) _) _ _ _); k_dflt (refine Call_ ?_)))
local macro_rules | `(tactic| walk_at "call ref") => `(tactic| (
  k_here
  (with_reducible show wpAny _ _ (call (Value.ref 57) _) _ _ _)
  k_dflt (
  refine' leap_c ?k1 ?k2 ?k3 ?k4 ?k5 ?kK ?kd ?ku ?_
  (case k1 => first | k_asm | ktn_no "use: the frames below")
  (case k2 => first | k_asm | ktn_no "use: the frame")
  (case k3 => first | k_asm | ktn_no "use: the written part")
  (case k4 => first | k_asm | ktn_no "use: the ledger")
  (case k5 => first | k_asm | ktn_no "use: the top's facts")
  (case kK => first | exact rfl | assumption | ktn_no "use: the caller is no def")
  (case kd => first | ktr_room | ktn_no "use: the frames' room")
  (case ku => first | ktr_units | ktn_no "use: the C units")
  intro t9 h9 tk9 F9 N9
  (try k_sweep)
  (try dsimp only)
  (try k_fold))))
local macro_rules | `(tactic| walk_at "call ref") => `(tactic| (
  k_here
  (with_reducible show wpAny _ _ (call (Value.ref 71) _) _ _ _)
  k_dflt (
  refine' d1_c ?k1 ?k2 ?k3 ?k4 ?k5 ?kK ?kd ?ku ?_
  (case k1 => first | k_asm | ktn_no "use: the frames below")
  (case k2 => first | k_asm | ktn_no "use: the frame")
  (case k3 => first | k_asm | ktn_no "use: the written part")
  (case k4 => first | k_asm | ktn_no "use: the ledger")
  (case k5 => first | k_asm | ktn_no "use: the top's facts")
  (case kK => first | exact rfl | assumption | ktn_no "use: the caller is no def")
  (case kd => first | ktr_room | ktn_no "use: the frames' room")
  (case ku => first | ktr_units | ktn_no "use: the C units")
  intro t9 h9 tk9 F9 N9
  (try k_sweep)
  (try dsimp only)
  (try k_fold))))
local macro_rules | `(tactic| walk_at "call ref") => `(tactic| (
  k_here
  (with_reducible show wpAny _ _ (call (Value.ref 28) _) _ _ _)
  k_dflt (
  refine' mid_c ?k1 ?k2 ?k3 ?k4 ?k5 ?kK ?kd ?ku ?_
  (case k1 => first | k_asm | ktn_no "use: the frames below")
  (case k2 => first | k_asm | ktn_no "use: the frame")
  (case k3 => first | k_asm | ktn_no "use: the written part")
  (case k4 => first | k_asm | ktn_no "use: the ledger")
  (case k5 => first | k_asm | ktn_no "use: the top's facts")
  (case kK => first | exact rfl | assumption | ktn_no "use: the caller is no def")
  (case kd => first | ktr_room | ktn_no "use: the frames' room")
  (case ku => first | ktr_units | ktn_no "use: the C units")
  intro t9 h9 tk9 F9 N9
  (try k_sweep)
  (try dsimp only)
  (try k_fold))))
local macro_rules | `(tactic| walk_at "call ref") => `(tactic| (
  k_here
  (with_reducible show wpAny _ _ (call (Value.ref 21) _) _ _ _)
  k_dflt (
  refine' isl_c ?k1 ?k2 ?k3 ?k4 ?k5 ?kK ?kd ?ku ?_
  (case k1 => first | k_asm | ktn_no "use: the frames below")
  (case k2 => first | k_asm | ktn_no "use: the frame")
  (case k3 => first | k_asm | ktn_no "use: the written part")
  (case k4 => first | k_asm | ktn_no "use: the ledger")
  (case k5 => first | k_asm | ktn_no "use: the top's facts")
  (case kK => first | exact rfl | assumption | ktn_no "use: the caller is no def")
  (case kd => first | ktr_room | ktn_no "use: the frames' room")
  (case ku => first | ktr_units | ktn_no "use: the C units")
  intro t9 h9 tk9 F9 N9
  (try k_sweep)
  (try dsimp only)
  (try k_fold))))
local macro_rules | `(tactic| walk_at "call ref") => `(tactic| (
  k_here
  (with_reducible show wpAny _ _ (call (Value.ref 64) _) _ _ _)
  k_dflt (
  refine' ym_c ?k1 ?k2 ?k3 ?k4 ?k5 ?kK ?kd ?ku ?_
  (case k1 => first | k_asm | ktn_no "use: the frames below")
  (case k2 => first | k_asm | ktn_no "use: the frame")
  (case k3 => first | k_asm | ktn_no "use: the written part")
  (case k4 => first | k_asm | ktn_no "use: the ledger")
  (case k5 => first | k_asm | ktn_no "use: the top's facts")
  (case kK => first | exact rfl | assumption | ktn_no "use: the caller is no def")
  (case kd => first | ktr_room | ktn_no "use: the frames' room")
  (case ku => first | ktr_units | ktn_no "use: the C units")
  intro t9 h9 tk9 F9 N9
  (try k_sweep)
  (try dsimp only)
  (try k_fold))))
local macro_rules | `(tactic| walk_at "call ref") => `(tactic| (
  k_here
  (with_reducible show wpAny _ _ (call (Value.ref 78) _) _ _ _)
  k_dflt (
  refine' d2_c ?k1 ?k2 ?k3 ?k4 ?k5 ?kK ?kd ?ku ?_
  (case k1 => first | k_asm | ktn_no "use: the frames below")
  (case k2 => first | k_asm | ktn_no "use: the frame")
  (case k3 => first | k_asm | ktn_no "use: the written part")
  (case k4 => first | k_asm | ktn_no "use: the ledger")
  (case k5 => first | k_asm | ktn_no "use: the top's facts")
  (case kK => first | exact rfl | assumption | ktn_no "use: the caller is no def")
  (case kd => first | ktr_room | ktn_no "use: the frames' room")
  (case ku => first | ktr_units | ktn_no "use: the C units")
  intro t9 h9 tk9 F9 N9
  (try k_sweep)
  (try dsimp only)
  (try k_fold))))
local macro_rules | `(tactic| walk_at "call ref") => `(tactic| (
  k_here
  (with_reducible show wpAny _ _ (call (Value.ref 106) _) _ _ _)
  k_dflt (
  refine' hj_c ?k1 ?k2 ?k3 ?k4 ?k5 ?kK ?kd ?ku ?_
  (case k1 => first | k_asm | ktn_no "use: the frames below")
  (case k2 => first | k_asm | ktn_no "use: the frame")
  (case k3 => first | k_asm | ktn_no "use: the written part")
  (case k4 => first | k_asm | ktn_no "use: the ledger")
  (case k5 => first | k_asm | ktn_no "use: the top's facts")
  (case kK => first | exact rfl | assumption | ktn_no "use: the caller is no def")
  (case kd => first | ktr_room | ktn_no "use: the frames' room")
  (case ku => first | ktr_units | ktn_no "use: the C units")
  intro t9 h9 tk9 F9 N9
  (try k_sweep)
  (try dsimp only)
  (try k_fold))))
local macro_rules | `(tactic| walk_at "call ref") => `(tactic| (
  k_here
  (with_reducible show wpAny _ _ (call (Value.ref 85) _) _ _ _)
  k_dflt (
  refine' yd_c ?k1 ?k2 ?k3 ?k4 ?k5 ?kK ?kd ?ku ?_
  (case k1 => first | k_asm | ktn_no "use: the frames below")
  (case k2 => first | k_asm | ktn_no "use: the frame")
  (case k3 => first | k_asm | ktn_no "use: the written part")
  (case k4 => first | k_asm | ktn_no "use: the ledger")
  (case k5 => first | k_asm | ktn_no "use: the top's facts")
  (case kK => first | exact rfl | assumption | ktn_no "use: the caller is no def")
  (case kd => first | ktr_room | ktn_no "use: the frames' room")
  (case ku => first | ktr_units | ktn_no "use: the C units")
  intro t9 h9 tk9 F9 N9
  (try k_sweep)
  (try dsimp only)
  (try k_fold))))
local macro_rules | `(tactic| walk_at "call ref") => `(tactic| (
  k_here
  (with_reducible show wpAny _ _ (call (Value.ref 92) _) _ _ _)
  k_dflt (
  refine' (ml_c ?kp) ?k1 ?k2 ?k3 ?k4 ?k5 ?kK ?kd ?ku ?_
  (case k1 => first | k_asm | ktn_no "use: the frames below")
  (case k2 => first | k_asm | ktn_no "use: the frame")
  (case k3 => first | k_asm | ktn_no "use: the written part")
  (case k4 => first | k_asm | ktn_no "use: the ledger")
  (case k5 => first | k_asm | ktn_no "use: the top's facts")
  (case kK => first | exact rfl | assumption | ktn_no "use: the caller is no def")
  (case kd => first | ktr_room | ktn_no "use: the frames' room")
  (case ku => first | ktr_units | ktn_no "use: the C units")
  (case kp => first | assumption | omega | l_fact | ktn_no "use: the premise")
  intro t9 h9 tk9 F9 N9
  (try k_sweep)
  (try dsimp only)
  (try k_fold))))
local macro_rules | `(tactic| walk_at "call ref") => `(tactic| (
  k_here
  (with_reducible show wpAny _ _ (call (Value.ref 99) _) _ _ _)
  k_dflt (
  refine' (md_c ?kp) ?k1 ?k2 ?k3 ?k4 ?k5 ?kK ?kd ?ku ?_
  (case k1 => first | k_asm | ktn_no "use: the frames below")
  (case k2 => first | k_asm | ktn_no "use: the frame")
  (case k3 => first | k_asm | ktn_no "use: the written part")
  (case k4 => first | k_asm | ktn_no "use: the ledger")
  (case k5 => first | k_asm | ktn_no "use: the top's facts")
  (case kK => first | exact rfl | assumption | ktn_no "use: the caller is no def")
  (case kd => first | ktr_room | ktn_no "use: the frames' room")
  (case ku => first | ktr_units | ktn_no "use: the C units")
  (case kp => first | assumption | omega | l_fact | ktn_no "use: the premise")
  intro t9 h9 tk9 F9 N9
  (try k_sweep)
  (try dsimp only)
  (try k_fold))))
local macro_rules | `(tactic| walk_at "call ref") => `(tactic| (
  k_here
  (with_reducible show wpAny _ _ (call (Value.ref 106) _) _ _ _)
  k_dflt (
  refine' (tj_c ?kp ?kq) ?k1 ?k2 ?k3 ?k4 ?k5 ?kK ?kd ?ku ?_
  (case k1 => first | k_asm | ktn_no "use: the frames below")
  (case k2 => first | k_asm | ktn_no "use: the frame")
  (case k3 => first | k_asm | ktn_no "use: the written part")
  (case k4 => first | k_asm | ktn_no "use: the ledger")
  (case k5 => first | k_asm | ktn_no "use: the top's facts")
  (case kK => first | exact rfl | assumption | ktn_no "use: the caller is no def")
  (case kd => first | ktr_room | ktn_no "use: the frames' room")
  (case ku => first | ktr_units | ktn_no "use: the C units")
  (case kp => first | assumption | omega | l_fact | ktn_no "use: the premise")
  (case kq => first | assumption | omega | l_fact | ktn_no "use: the premise")
  intro t9 h9 tk9 F9 N9
  (try k_sweep)
  (try dsimp only)
  (try k_fold))))
local macro_rules | `(tactic| walk_at "call ref") => `(tactic| (
  k_here
  (with_reducible show wpAny _ _ (call (Value.ref 106) _) _ _ _)
  k_dflt (
  refine' hj_c ?k1 ?k2 ?k3 ?k4 ?k5 ?kK ?kd ?ku ?_
  (case k1 => first | k_asm | ktn_no "use: the frames below")
  (case k2 => first | k_asm | ktn_no "use: the frame")
  (case k3 => first | k_asm | ktn_no "use: the written part")
  (case k4 => first | k_asm | ktn_no "use: the ledger")
  (case k5 => first | k_asm | ktn_no "use: the top's facts")
  (case kK => first | exact rfl | assumption | ktn_no "use: the caller is no def")
  (case kd => first | ktr_room | ktn_no "use: the frames' room")
  (case ku => first | ktr_units | ktn_no "use: the C units")
  intro t9 h9 tk9 F9 N9
  (try k_sweep)
  (try dsimp only)
  (try k_fold))))
theorem in30c {prog : Program} {w : World} {A : Around} {E : Value → Shared → Prop} {s : Shared} {K : Frag} {x : Int} {u : Tok} {Q : Value → Shared → Prop} {t1 t2 t3 t4 : Tok} {n : Nat} {dd : Option Addr} {sl : Array (Option Value)} (X : K.In s.heap) (hl : K.lookup 29 = some ⟨.type "tuple", dd, .seq [.int 4 t1, .int 6 t2, .int 9 t3, .int 11 t4].toArray n, sl⟩)
    (h : Q (.bool (has30 x)) s) : wpAny (model prog w) A (compareOp .In (.int x u) (.ref 29)) Q E s := in_tuple_ints (tupK X hl) (.cons _ _ (.cons _ _ (.cons _ _ (.cons _ _ .nil)))) h
local macro_rules | `(tactic| walk_at "compareOp In int ref") => `(tactic| (k_here; (with_reducible show wpAny _ _ (compareOp CmpOp.In (Value.int _ _) (Value.ref 29)) _ _ _); k_dflt (refine' in30c ?X ?l ?_; (case X => first | assumption | exact Frag.In.keeps (by k_asm) (Fr.keep (by k_asm))); (case l => k_is))))
local macro_rules | `(tactic| walk_at "call ref") => `(tactic| (
  k_here
  (with_reducible show wpAny _ _ (call (Value.ref 36) _) _ _ _)
  k_dflt (
  refine' (lg_c ?kp) ?k1 ?k2 ?k3 ?k4 ?k5 ?kK ?kd ?ku ?_
  (case k1 => first | k_asm | ktn_no "use: the frames below")
  (case k2 => first | k_asm | ktn_no "use: the frame")
  (case k3 => first | k_asm | ktn_no "use: the written part")
  (case k4 => first | k_asm | ktn_no "use: the ledger")
  (case k5 => first | k_asm | ktn_no "use: the top's facts")
  (case kK => first | exact rfl | assumption | ktn_no "use: the caller is no def")
  (case kd => first | ktr_room | ktn_no "use: the frames' room")
  (case ku => first | ktr_units | ktn_no "use: the C units")
  (case kp => first | assumption | omega | l_fact | ktn_no "use: the premise")
  intro t9 h9 tk9 F9 N9
  (try k_sweep)
  (try dsimp only)
  (try k_fold))))
local macro_rules | `(tactic| walk_at "call ref") => `(tactic| (
  k_here
  (with_reducible show wpAny _ _ (call (Value.ref 43) _) _ _ _)
  k_dflt (
  refine' (gj_c ?kp) ?k1 ?k2 ?k3 ?k4 ?k5 ?kK ?kd ?ku ?_
  (case k1 => first | k_asm | ktn_no "use: the frames below")
  (case k2 => first | k_asm | ktn_no "use: the frame")
  (case k3 => first | k_asm | ktn_no "use: the written part")
  (case k4 => first | k_asm | ktn_no "use: the ledger")
  (case k5 => first | k_asm | ktn_no "use: the top's facts")
  (case kK => first | exact rfl | assumption | ktn_no "use: the caller is no def")
  (case kd => first | ktr_room | ktn_no "use: the frames' room")
  (case ku => first | ktr_units | ktn_no "use: the C units")
  (case kp => first | exact dim_one _ _ | assumption | assumption | omega | l_fact | ktn_no "use: the premise")
  intro t9 h9 tk9 F9 N9
  (try k_sweep)
  (try dsimp only)
  (try k_fold))))
local macro_rules | `(tactic| walk_at "call ref") => `(tactic| (
  k_here
  (with_reducible show wpAny _ _ (call (Value.ref 50) _) _ _ _)
  k_dflt (
  refine' fg_c ?k1 ?k2 ?k3 ?k4 ?k5 ?kK ?kd ?ku ?_
  (case k1 => first | k_asm | ktn_no "use: the frames below")
  (case k2 => first | k_asm | ktn_no "use: the frame")
  (case k3 => first | k_asm | ktn_no "use: the written part")
  (case k4 => first | k_asm | ktn_no "use: the ledger")
  (case k5 => first | k_asm | ktn_no "use: the top's facts")
  (case kK => first | exact rfl | assumption | ktn_no "use: the caller is no def")
  (case kd => first | ktr_room | ktn_no "use: the frames' room")
  (case ku => first | ktr_units | ktn_no "use: the C units")
  intro D9 t91 t92 t93 c9 h9 tk9 F9 N9 l9
  (try simp only [AllLt, and_true] at l9)
  (try k_sweep)
  (try dsimp only)
  (try k_fold))))
local macro_rules | `(tactic| walk_at "call ref") => `(tactic| (
  k_here
  (with_reducible show wpAny _ _ (call (Value.ref 113) _) _ _ _)
  k_dflt (
  refine' (fh_c (f := _) ?kp) ?k1 ?k2 ?k3 ?k4 ?k5 ?kK ?kd ?ku ?_
  (case k1 => first | k_asm | ktn_no "use: the frames below")
  (case k2 => first | k_asm | ktn_no "use: the frame")
  (case k3 => first | k_asm | ktn_no "use: the written part")
  (case k4 => first | k_asm | ktn_no "use: the ledger")
  (case k5 => first | k_asm | ktn_no "use: the top's facts")
  (case kK => first | exact rfl | assumption | ktn_no "use: the caller is no def")
  (case kd => first | ktr_room | ktn_no "use: the frames' room")
  (case ku => first | ktr_units | ktn_no "use: the C units")
  (case kp => first | assumption | omega | l_fact | ktn_no "use: the premise")
  intro D9 t91 t92 t93 c9 h9 tk9 F9 N9 l9
  (try simp only [AllLt, and_true] at l9)
  (try k_sweep)
  (try dsimp only)
  (try k_fold))))
local macro_rules | `(tactic| walk_at "ite") => `(tactic| (k_here; first | with_reducible refine ite_epos (by with_reducible assumption) ?_ | with_reducible refine ite_eneg (by with_reducible assumption) ?_ | with_reducible refine ite_dpos (by with_reducible assumption) ?_ | with_reducible refine ite_dneg (by with_reducible assumption) ?_ | with_reducible refine ite_pos (by with_reducible assumption) ?_ | with_reducible refine ite_bneg (by with_reducible assumption) ?_ | with_reducible refine ite_neg (by with_reducible assumption) ?_))
local macro_rules | `(tactic| walk_at "eval IfExp") => `(tactic| (k_here; k_dflt (refine ifexp_ints ?_)))
set_option maxRecDepth 100000 in
set_option maxHeartbeats 2000000 in
theorem lgx_c {w loose mean mg mb news} {y mm d : Int} {t tm td : Tok} (h : ¬ (0 < d ∧ d ≤ dim y mm)) (b1 : -100 < mm ∧ mm < 100) (b2 : -100 < d ∧ d < 100) : ClE w loose mean mg mb 36 2 news [.int y t, .int mm tm, .int d td] := by
  rcases dim_not h with ⟨h1, h2⟩ | ⟨h1, h2, h3⟩ | ⟨h1, h2⟩ | ⟨h1, h2, h3⟩
  all_goals (
    unfold ClE
    k_fill
    intro dp un gd cn cs a ccd cl outer A₀ base h₀ L m s Q E B F X N T hk hdp hun hret
    refine wpAny_call ?_
    k_dflt cell_enter
    repeat' (first | (k_unfold; (try dsimp only)) | (walk1; all_goals (try dsimp only))))
  all_goals (exact hret _ _ _ _ (by with_reducible assumption) (by first | with_reducible assumption | (refine raisedN_drop (by with_reducible assumption) (by intro _ hp9; (repeat (first | with_reducible exact hp9 | with_reducible refine List.mem_cons_of_mem _ ?_)); done))) (by with_reducible assumption))
local macro_rules | `(tactic| walk_at "call ref") => `(tactic| (
  k_here
  (with_reducible show wpAny _ _ (call (Value.ref 36) _) _ _ _)
  k_dflt (
  refine' (lgx_c ?kp ?kq ?kr) ?k1 ?k2 ?k3 ?k4 ?k5 ?kK ?kd ?ku ?_
  (case k1 => first | k_asm | ktn_no "use: the frames below")
  (case k2 => first | k_asm | ktn_no "use: the frame")
  (case k3 => first | k_asm | ktn_no "use: the written part")
  (case k4 => first | k_asm | ktn_no "use: the ledger")
  (case k5 => first | k_asm | ktn_no "use: the top's facts")
  (case kK => first | exact rfl | assumption | ktn_no "use: the caller is no def")
  (case kd => first | ktr_room | ktn_no "use: the frames' room")
  (case ku => first | ktr_units | ktn_no "use: the C units")
  (case kp => first | assumption | omega | l_fact | ktn_no "use: the premise")
  (case kq => first | assumption | omega | l_fact | ktn_no "use: the premise")
  (case kr => first | assumption | omega | l_fact | ktn_no "use: the premise")
  intro e9 g9 h9 tk9 F9 R9 U9
  (try dsimp only)
  (try k_fold))))
set_option maxRecDepth 100000 in
set_option maxHeartbeats 2000000 in
theorem gjx_c {w loose mean mg mb news} {y mm d : Int} {t tm td : Tok} (h : ¬ (0 < d ∧ d ≤ dim y mm)) (b1 : -100 < mm ∧ mm < 100) (b2 : -100 < d ∧ d < 100) : ClE w loose mean mg mb 43 3 news [.int y t, .int mm tm, .int d td] := by
  unfold ClE
  k_fill
  intro dp un gd cn cs a ccd cl outer A₀ base h₀ L m s Q E B F X N T hk hdp hun hret
  refine wpAny_call ?_
  k_dflt cell_enter
  repeat' (first | (k_unfold; (try dsimp only)) | (walk1; all_goals (try dsimp only)))
  all_goals (exact hret _ _ _ _ (by with_reducible assumption) (by first | with_reducible assumption | (refine raisedN_drop (by with_reducible assumption) (by intro _ hp9; (repeat (first | with_reducible exact hp9 | with_reducible refine List.mem_cons_of_mem _ ?_)); done))) (by with_reducible assumption))
local macro_rules | `(tactic| walk_at "call ref") => `(tactic| (
  k_here
  (with_reducible show wpAny _ _ (call (Value.ref 43) _) _ _ _)
  k_dflt (
  refine' (gjx_c ?kp ?kq ?kr) ?k1 ?k2 ?k3 ?k4 ?k5 ?kK ?kd ?ku ?_
  (case k1 => first | k_asm | ktn_no "use: the frames below")
  (case k2 => first | k_asm | ktn_no "use: the frame")
  (case k3 => first | k_asm | ktn_no "use: the written part")
  (case k4 => first | k_asm | ktn_no "use: the ledger")
  (case k5 => first | k_asm | ktn_no "use: the top's facts")
  (case kK => first | exact rfl | assumption | ktn_no "use: the caller is no def")
  (case kd => first | ktr_room | ktn_no "use: the frames' room")
  (case ku => first | ktr_units | ktn_no "use: the C units")
  (case kp => first | assumption | omega | l_fact | ktn_no "use: the premise")
  (case kq => first | assumption | omega | l_fact | ktn_no "use: the premise")
  (case kr => first | assumption | omega | l_fact | ktn_no "use: the premise")
  intro e9 g9 h9 tk9 F9 R9 U9
  (try dsimp only)
  (try k_fold))))
set_option maxRecDepth 100000 in
set_option maxHeartbeats 2000000 in
theorem fgrx_c {w loose mean mg mb news} {y mm d : Int} {t tm td : Tok} (h : ¬ (0 < d ∧ d ≤ dim y mm)) (b1 : -100 < mm ∧ mm < 100) (b2 : -100 < d ∧ d < 100) : ClE w loose mean mg mb 127 4 news [.int y t, .int mm tm, .int d td] := by
  unfold ClE
  k_fill
  intro dp un gd cn cs a ccd cl outer A₀ base h₀ L m s Q E B F X N T hk hdp hun hret
  refine wpAny_call ?_
  k_dflt cell_enter
  repeat' (first | (k_unfold; (try dsimp only)) | (walk1; all_goals (try dsimp only)))
  all_goals (exact hret _ _ _ _ (by with_reducible assumption) (by first | with_reducible assumption | (refine raisedN_drop (by with_reducible assumption) (by intro _ hp9; (repeat (first | with_reducible exact hp9 | with_reducible refine List.mem_cons_of_mem _ ?_)); done))) (by with_reducible assumption))
local macro_rules | `(tactic| walk_at "exec For Tuple BinOp cons nil") => `(tactic| (k_here; (rename Fr _ _ _ _ => lF'); (with_unfolding_all refine' For_turns lF' ?_; k_whole)))
local macro_rules | `(tactic| walk_at "pyIter ref") => `(tactic| (k_here; (with_reducible show wpAny _ _ (pyIter (Value.ref _)) (fun it s₂ => TurnsAt _ _ _ _ _ _ _ _ _ it s₂) _ _); (rename Fr _ _ _ _ => lF'); (rename News _ _ _ _ => lN'); (first | (with_unfolding_all refine iter_arrTurnsT (by rfl) lF' lN' (by k_mem) (by rfl) (by rfl) ?_) | (with_unfolding_all refine iter_arrTurns (by rfl) lF' lN' (by k_mem) (by rfl) (by rfl) ?_)); intro i' l1; (simp only [List.map_cons, List.map_nil])))
local macro_rules | `(tactic| walk_at "UnrEndW") => `(tactic| ((rename News _ _ _ _ => nE'); (rename Fr _ _ _ _ => fE'); (rename LoopLow _ _ => lE'); (refine unrEndW_low lE' fE' nE' (by k_mem) (by intro _ hp9; (repeat (first | with_reducible exact hp9 | with_reducible refine List.mem_cons_of_mem _ ?_)); done) ⟨keep1 (by k_mem), ?_⟩)))
set_option maxRecDepth 100000 in
set_option maxHeartbeats 2000000 in
theorem gyrx_c {w loose mean mg mb news} {y mm d : Int} {t tm td : Tok} (h1 : 1 ≤ mm) (h2 : mm ≤ 13) (hn : ¬ gy (hjd (y + 3760) mm d) = y) (hq : ¬ gy (hjd (y + 3760 + 1) mm d) = y) : ClE w loose mean mg mb 120 8 news [.int y t, .int mm tm, .int d td] := by
  unfold ClE
  k_fill
  intro dp un gd cn cs a ccd cl outer A₀ base h₀ L m s Q E B F X N T hk hdp hun hret
  refine wpAny_call ?_
  k_dflt cell_enter
  repeat' (first | (k_unfold; (try dsimp only)) | (walk1; all_goals (try dsimp only)))
  all_goals (exact hret _ _ _ _ (by with_reducible assumption) (by first | with_reducible assumption | (refine raisedN_drop (by with_reducible assumption) (by intro _ hp9; (repeat (first | with_reducible exact hp9 | with_reducible refine List.mem_cons_of_mem _ ?_)); done))) (by with_reducible assumption))
end Mine
end
section
open PySem PySem.W PyProof.Rows PySem.Spec PySem.Calls
namespace Mine
local macro_rules | `(tactic| walk_at "no such step") => `(tactic| fail)
local macro_rules | `(tactic| walk_at "no such step") => `(tactic| fail)
local macro_rules | `(tactic| walk_at "no such step") => `(tactic| fail)
local macro_rules | `(tactic| walk_at "no such step") => `(tactic| fail)
/-- n statements of the body, then P -/
def Cut (M : Model) (A : Around) (env : Env) (Q : Flow → Shared → Prop) (E : Value → Shared → Prop) (P : Shared → Prop) : Nat → List Stmt → Shared → Prop
  | 0, _, s => P s
  | _ + 1, [], s => Q .next s
  | n + 1, st :: rest, s => wpAny M A (exec st env) (fun f s' => match f with | .next => Cut M A env Q E P n rest s' | f => Q f s') E s
theorem cut_cons {M : Model} {A : Around} {env : Env} {Q : Flow → Shared → Prop} {E : Value → Shared → Prop} {P : Shared → Prop} {n : Nat} {st : Stmt} {rest : List Stmt} {s : Shared} (h : wpAny M A (exec st env) (fun f s' => match f with | .next => Cut M A env Q E P n rest s' | f => Q f s') E s) : Cut M A env Q E P (n + 1) (st :: rest) s := h
theorem cut_at {M : Model} {A : Around} {env : Env} {Q : Flow → Shared → Prop} {E : Value → Shared → Prop} (P : Shared → Prop) : ∀ (n : Nat) {body : List Stmt} {s : Shared}, Cut M A env Q E P n body s → (∀ s', P s' → wpAny M A (execs (body.drop n) env) Q E s') → wpAny M A (execs body env) Q E s
  | 0, _, _, h1, h2 => h2 _ h1
  | _ + 1, [], _, h1, _ => wpAny_execs_nil h1
  | n + 1, st :: rest, s, h1, h2 => wpAny_execs_cons (wpAny_mono (show wpAny M A (exec st env) _ E s from h1) (fun f s' h => by
      cases f with
      | next => exact cut_at P n h h2
      | brk => exact h
      | cont => exact h
      | ret v => exact h) fun _ _ e => e)
end Mine
end
section
namespace Mine
theorem fd (a : Int) {b : Int} (h : 0 ≤ b) : a.fdiv b = a / b := Int.fdiv_eq_ediv_of_nonneg a h
theorem fm (a : Int) {b : Int} (h : 0 ≤ b) : a.fmod b = a % b := Int.fmod_eq_emod_of_nonneg a h
/-- the months that have passed -/
theorem moon_eq (p : Int) (h0 : 0 ≤ p) (h1 : p ≤ 19) : moon p = (235 * p + 1) / 19 := by
  have hp : p = 0 ∨ p = 1 ∨ p = 2 ∨ p = 3 ∨ p = 4 ∨ p = 5 ∨ p = 6 ∨ p = 7 ∨ p = 8 ∨ p = 9 ∨ p = 10 ∨ p = 11 ∨ p = 12 ∨ p = 13 ∨ p = 14 ∨ p = 15 ∨ p = 16 ∨ p = 17 ∨ p = 18 ∨ p = 19 := by omega
  rcases hp with rfl | rfl | rfl | rfl | rfl | rfl | rfl | rfl | rfl | rfl | rfl | rfl | rfl | rfl | rfl | rfl | rfl | rfl | rfl | rfl <;> decide
theorem mo_eq (y : Int) : mo y = (235 * y - 234) / 19 := by unfold mo; exact fd _ (by omega)
theorem mo_moon (y : Int) : 235 * ((y - 1) / 19) + moon ((y - 1) % 19) = mo y := by
  rw [mo_eq, moon_eq _ (by omega) (by omega)]
  omega
theorem leap_th (y : Int) : leapB y = th y := by
  unfold leapB th
  rw [fm _ (by omega), fm _ (by omega), moon_eq _ (by omega) (by omega), moon_eq _ (by omega) (by omega)]
  congr 1
  apply propext
  have h : 0 ≤ (y - 1) % 19 ∧ (y - 1) % 19 < 19 := by omega
  have e : y = 19 * ((y - 1) / 19) + (y - 1) % 19 + 1 := by omega
  generalize (y - 1) / 19 = t at *
  generalize (y - 1) % 19 = p at *
  subst e
  have hp : p = 0 ∨ p = 1 ∨ p = 2 ∨ p = 3 ∨ p = 4 ∨ p = 5 ∨ p = 6 ∨ p = 7 ∨ p = 8 ∨ p = 9 ∨ p = 10 ∨ p = 11 ∨ p = 12 ∨ p = 13 ∨ p = 14 ∨ p = 15 ∨ p = 16 ∨ p = 17 ∨ p = 18 := by omega
  rcases hp with rfl | rfl | rfl | rfl | rfl | rfl | rfl | rfl | rfl | rfl | rfl | rfl | rfl | rfl | rfl | rfl | rfl | rfl | rfl <;> omega
/-- the moon's parts since the beginning -/
def tt (y : Int) : Int := 31524 + 765433 * mo y
theorem te_eq (y : Int) : te y = tt y / 25920 := by
  unfold te tt; rw [fd _ (by omega), fd _ (by omega), fm _ (by omega), mo_moon]
theorem tp_eq (y : Int) : tp y = tt y % 25920 := by
  unfold tp tt; rw [fm _ (by omega), fd _ (by omega), fm _ (by omega), mo_moon]
theorem mo_step (y : Int) : (leapB y = true ∧ mo (y + 1) = mo y + 13) ∨ (leapB y = false ∧ mo (y + 1) = mo y + 12) := by
  rw [mo_eq, mo_eq]
  unfold leapB
  rw [fm _ (by omega)]
  obtain ⟨q, r, rfl, hr⟩ : ∃ q r : Int, y = 19 * q + r ∧ (r = 0 ∨ r = 1 ∨ r = 2 ∨ r = 3 ∨ r = 4 ∨ r = 5 ∨ r = 6 ∨ r = 7 ∨ r = 8 ∨ r = 9 ∨ r = 10 ∨ r = 11 ∨ r = 12 ∨ r = 13 ∨ r = 14 ∨ r = 15 ∨ r = 16 ∨ r = 17 ∨ r = 18) := ⟨y / 19, y % 19, by omega, by omega⟩
  simp only [decide_eq_true_eq, decide_eq_false_iff_not]
  rcases hr with rfl | rfl | rfl | rfl | rfl | rfl | rfl | rfl | rfl | rfl | rfl | rfl | rfl | rfl | rfl | rfl | rfl | rfl | rfl <;> omega
/-- the day of the new moon, the noon's delay in -/
def ev (y : Int) : Int := (tt y + 6480) / 25920
theorem dy_eq (y : Int) : dy y = ev y - 1 := by
  unfold dy ev tt; rw [fd _ (by omega)]; omega
def adj (e : Int) : Int := if e % 7 = 0 ∨ e % 7 = 3 ∨ e % 7 = 5 then e + 1 else e
theorem d1_eq (y : Int) : d1 y = adj (ev y) - 1 := by
  unfold d1 adj
  rw [fm _ (by omega), dy_eq]
  generalize ev y = e
  obtain ⟨q, r, rfl, hr⟩ : ∃ q r : Int, e = 7 * q + r ∧ (r = 0 ∨ r = 1 ∨ r = 2 ∨ r = 3 ∨ r = 4 ∨ r = 5 ∨ r = 6) := ⟨e / 7, e % 7, by omega, by omega⟩
  rcases hr with rfl | rfl | rfl | rfl | rfl | rfl | rfl <;> (split <;> split <;> omega)
/-- ev a year on -/
theorem ev_step (y : Int) : (leapB y = true ∧ tt (y + 1) = tt y + 9950629) ∨ (leapB y = false ∧ tt (y + 1) = tt y + 9185196) := by
  unfold tt
  rcases mo_step y with ⟨h, e⟩ | ⟨h, e⟩
  · exact .inl ⟨h, by rw [e]; omega⟩
  · exact .inr ⟨h, by rw [e]; omega⟩
end Mine
end
section
namespace Mine
/-- the parts past the (noon's) day of the new moon -/
def qq (y : Int) : Int := (tt y + 6480) % 25920
theorem fm7 (a : Int) : a.fmod 7 = a % 7 := fm a (by omega)
theorem adj_at (k w : Int) (h : 0 ≤ w ∧ w < 7) : adj (7 * k + w) = if w = 0 ∨ w = 3 ∨ w = 5 then 7 * k + w + 1 else 7 * k + w := by
  unfold adj
  have e : (7 * k + w) % 7 = w := by omega
  rw [e]
theorem longC (y : Int) : d1 (y + 1) - d1 y = 356 ↔ (leapB y = false ∧ ev y % 7 = 2 ∧ 16404 ≤ qq y) := by
  rw [d1_eq, d1_eq]
  have hq : tt y + 6480 = 25920 * ev y + qq y ∧ 0 ≤ qq y ∧ qq y < 25920 := by unfold ev qq; omega
  obtain ⟨k, w, he, hw⟩ : ∃ k w : Int, ev y = 7 * k + w ∧ (w = 0 ∨ w = 1 ∨ w = 2 ∨ w = 3 ∨ w = 4 ∨ w = 5 ∨ w = 6) := ⟨ev y / 7, ev y % 7, by omega, by omega⟩
  rcases ev_step y with ⟨hl, hs⟩ | ⟨hl, hs⟩
  · have hn : ev (y + 1) = ev y + 383 + (if qq y < 2651 then 0 else 1) := by
      unfold ev at *
      split <;> omega
    rw [hl, hn, he]
    generalize qq y = q at *
    clear hn hs he
    simp only [Bool.true_eq_false, false_and, iff_false]
    unfold adj
    rcases hw with rfl | rfl | rfl | rfl | rfl | rfl | rfl <;> (repeat' split) <;> omega
  · have hn : ev (y + 1) = ev y + 354 + (if qq y < 16404 then 0 else 1) := by
      unfold ev at *
      split <;> omega
    rw [hl, hn, he]
    generalize qq y = q at *
    clear hn hs he
    simp only [true_and]
    unfold adj
    rcases hw with rfl | rfl | rfl | rfl | rfl | rfl | rfl <;> (repeat' split) <;> omega
theorem shortL (y : Int) : d1 y - d1 (y - 1) = 382 ↔ (leapB (y - 1) = true ∧ ev y % 7 = 1 ∧ 23269 ≤ qq y) := by
  rw [d1_eq, d1_eq]
  have hq : tt y + 6480 = 25920 * ev y + qq y ∧ 0 ≤ qq y ∧ qq y < 25920 := by unfold ev qq; omega
  obtain ⟨k, w, he, hw⟩ : ∃ k w : Int, ev y = 7 * k + w ∧ (w = 0 ∨ w = 1 ∨ w = 2 ∨ w = 3 ∨ w = 4 ∨ w = 5 ∨ w = 6) := ⟨ev y / 7, ev y % 7, by omega, by omega⟩
  have ez : y - 1 + 1 = y := by omega
  rcases ev_step (y - 1) with ⟨hl, hs⟩ | ⟨hl, hs⟩
  · rw [ez] at hs
    have hn : ev (y - 1) = ev y - 384 + (if qq y < 23269 then 0 else 1) := by
      unfold ev at *
      split <;> omega
    rw [hl, hn, he]
    generalize qq y = q at *
    clear hn hs he
    simp only [true_and]
    unfold adj
    rcases hw with rfl | rfl | rfl | rfl | rfl | rfl | rfl <;> (repeat' split) <;> omega
  · rw [ez] at hs
    have hn : ev (y - 1) = ev y - 355 + (if qq y < 9516 then 0 else 1) := by
      unfold ev at *
      split <;> omega
    rw [hl, hn, he]
    generalize qq y = q at *
    clear hn hs he
    simp only [Bool.false_eq_true, false_and, iff_false]
    unfold adj
    rcases hw with rfl | rfl | rfl | rfl | rfl | rfl | rfl <;> (repeat' split) <;> omega
theorem te1_eq (y : Int) : te1 y = if leapB y = false ∧ ev y % 7 = 2 ∧ 16404 ≤ qq y then ev y + 2 else if leapB (y - 1) = true ∧ ev y % 7 = 1 ∧ 23269 ≤ qq y then ev y + 1 else ev y := by
  unfold te1
  simp only [te_eq, tp_eq, ← leap_th, fm7]
  have hq : tt y + 6480 = 25920 * ev y + qq y ∧ 0 ≤ qq y ∧ qq y < 25920 := by unfold ev qq; omega
  have hte : (tt y % 25920 ≥ 19440 ∧ tt y / 25920 = ev y - 1 ∧ qq y < 6480) ∨ (¬ tt y % 25920 ≥ 19440 ∧ tt y / 25920 = ev y ∧ tt y % 25920 = qq y - 6480) := by omega
  generalize tt y % 25920 = p at *
  generalize tt y / 25920 = t at *
  generalize qq y = q at *
  generalize ev y = e at *
  clear hq
  rcases hte with ⟨a, rfl, c⟩ | ⟨a, rfl, c⟩
  · rw [if_pos a, if_neg (by omega), if_neg (by omega)]; omega
  · rw [if_neg a]
    subst c
    cases leapB y <;> cases leapB (y - 1) <;> simp only [Bool.true_eq_false, Bool.false_eq_true, and_true, and_false, true_and, false_and, if_false] <;> (repeat' split) <;> omega
/-- the law's new year is the program's -/
theorem ti_eq (y : Int) : ti y = 347996 + d1 y + d2 y + 1 + 1 := by
  have h1 := longC y
  have h2 := shortL y
  unfold d2 ti
  rw [te1_eq]
  simp only [h1, h2, fm7]
  rw [d1_eq]
  unfold adj
  generalize qq y = q at *
  generalize ev y = e at *
  clear h1 h2
  by_cases a : leapB y = false ∧ e % 7 = 2 ∧ 16404 ≤ q
  · simp only [if_pos a]
    rw [if_neg (by omega), if_neg (by omega)]
    omega
  · simp only [if_neg a]
    by_cases b : leapB (y - 1) = true ∧ e % 7 = 1 ∧ 23269 ≤ q
    · simp only [if_pos b]
      rw [if_neg (by omega), if_neg (by omega)]
      omega
    · simp only [if_neg b]
      by_cases c : e % 7 = 0 ∨ e % 7 = 3 ∨ e % 7 = 5
      · rw [if_pos (by omega), if_pos c]; omega
      · rw [if_neg (by omega), if_neg c]; omega
end Mine
end
section
namespace Mine
theorem leap_gap (y : Int) (h : leapB y = true) : leapB (y + 1) = false := by
  unfold leapB at *
  rw [fm _ (by omega)] at *
  simp only [decide_eq_true_eq, decide_eq_false_iff_not] at *
  have : ((y + 1) * 7 + 1) / 19 = (y * 7 + 1) / 19 ∨ ((y + 1) * 7 + 1) / 19 = (y * 7 + 1) / 19 + 1 := by omega
  rcases this with e | e <;> omega
/-- the new year by the day of the moon, the parts, the leap years about it -/
def nu (e q : Int) (l lp : Bool) : Int := 347997 + (if l = false ∧ e % 7 = 2 ∧ 16404 ≤ q then e + 2 else if lp = true ∧ e % 7 = 1 ∧ 23269 ≤ q then e + 1 else adj e)
theorem ti_nu (y : Int) : ti y = nu (ev y) (qq y) (leapB y) (leapB (y - 1)) := by
  rw [ti_eq, d1_eq]
  unfold d2 nu
  simp only [longC, shortL]
  split
  · rename_i h
    unfold adj
    rw [if_neg (by omega)]
    omega
  · split
    · rename_i h
      unfold adj
      rw [if_neg (by omega)]
      omega
    · omega
theorem year_len (y : Int) : (leapB y = true ∧ (ti (y + 1) - ti y = 383 ∨ ti (y + 1) - ti y = 384 ∨ ti (y + 1) - ti y = 385)) ∨ (leapB y = false ∧ (ti (y + 1) - ti y = 353 ∨ ti (y + 1) - ti y = 354 ∨ ti (y + 1) - ti y = 355)) := by
  rw [ti_nu, ti_nu]
  have ez : y + 1 - 1 = y := by omega
  rw [ez]
  have hq : tt y + 6480 = 25920 * ev y + qq y ∧ 0 ≤ qq y ∧ qq y < 25920 := by unfold ev qq; omega
  have hq1 : tt (y + 1) + 6480 = 25920 * ev (y + 1) + qq (y + 1) ∧ 0 ≤ qq (y + 1) ∧ qq (y + 1) < 25920 := by unfold ev qq; omega
  have hgap := leap_gap y
  have hgap' := leap_gap (y - 1)
  rw [show y - 1 + 1 = y from by omega] at hgap'
  have hs := ev_step y
  generalize ev (y + 1) = e1 at *
  generalize qq (y + 1) = q1 at *
  generalize leapB (y + 1) = l1 at *
  generalize leapB (y - 1) = lp at *
  generalize ev y = e at *
  generalize qq y = q at *
  generalize leapB y = l at *
  generalize tt (y + 1) = t1 at *
  generalize tt y = t at *
  obtain ⟨k, w, rfl, hw⟩ : ∃ k w : Int, e = 7 * k + w ∧ (w = 0 ∨ w = 1 ∨ w = 2 ∨ w = 3 ∨ w = 4 ∨ w = 5 ∨ w = 6) := ⟨e / 7, e % 7, by omega, by omega⟩
  cases l
  · have hs' : t1 = t + 9185196 := by simpa using hs
    have he1 : (e1 = 7 * k + w + 354 ∧ q1 = q + 9516 ∧ q < 16404) ∨ (e1 = 7 * k + w + 355 ∧ q1 = q - 16404 ∧ 16404 ≤ q) := by omega
    refine .inr ⟨rfl, ?_⟩
    clear hs hs' hq1 hgap hgap'
    unfold nu adj
    cases l1 <;> cases lp <;> simp only [Bool.true_eq_false, Bool.false_eq_true, true_and, false_and, if_false] <;>
    rcases he1 with ⟨rfl, rfl, h⟩ | ⟨rfl, rfl, h⟩ <;> rcases hw with rfl | rfl | rfl | rfl | rfl | rfl | rfl <;> (repeat' split) <;> omega
  · have hs' : t1 = t + 9950629 := by simpa using hs
    have he1 : (e1 = 7 * k + w + 383 ∧ q1 = q + 23269 ∧ q < 2651) ∨ (e1 = 7 * k + w + 384 ∧ q1 = q - 2651 ∧ 2651 ≤ q) := by omega
    have hl1 : l1 = false := hgap rfl
    have hlp : lp = false := by cases lp <;> simp_all
    subst hl1; subst hlp
    refine .inl ⟨rfl, ?_⟩
    clear hs hs' hq1 hgap hgap'
    unfold nu adj
    simp only [Bool.true_eq_false, Bool.false_eq_true, true_and, false_and, if_false]
    rcases he1 with ⟨rfl, rfl, h⟩ | ⟨rfl, rfl, h⟩ <;> rcases hw with rfl | rfl | rfl | rfl | rfl | rfl | rfl <;> (repeat' split) <;> omega
end Mine
end
section
namespace Mine
/-- the new year lies from the moon's day on to two days behind it -/
theorem ti_bd (y : Int) : 347997 + ev y ≤ ti y ∧ ti y ≤ 347997 + ev y + 2 := by
  rw [ti_nu]
  unfold nu adj
  (repeat' split) <;> omega
theorem ev_lin (y : Int) : 492480 * ev y ≤ 179876755 * y - 178389246 ∧ 179876755 * y - 192659501 ≤ 492480 * ev y := by
  unfold ev tt
  rw [mo_eq]
  omega
theorem ja_eq (y : Int) : ja y = 1721426 + 365 * (y - 1) + (y - 1) / 4 - (y - 1) / 100 + (y - 1) / 400 := by
  unfold ja
  simp only [fd _ (show (0 : Int) ≤ 400 by omega), fm _ (show (0 : Int) ≤ 400 by omega), fd _ (show (0 : Int) ≤ 100 by omega), fm _ (show (0 : Int) ≤ 100 by omega), fd _ (show (0 : Int) ≤ 4 by omega), fm _ (show (0 : Int) ≤ 4 by omega)]
  omega
theorem ja_lin (y : Int) : 400 * ja y ≤ 400 * 1721426 + 146097 * (y - 1) + 400 ∧ 400 * 1721426 + 146097 * (y - 1) - 900 ≤ 400 * ja y := by
  rw [ja_eq]
  omega
/-- the drift: the Hebrew new year still lies ahead of the January, up to 21001 -/
theorem drift (y : Int) (h : y ≤ 21001) (h0 : -5000 ≤ y) : ti (y + 3760) ≤ ja y := by
  have a := (ti_bd (y + 3760)).2
  have b := (ev_lin (y + 3760)).1
  have c := (ja_lin y).2
  omega
theorem drift' (y : Int) (h0 : -4800 ≤ y) : ja y < ti (y + 3761) := by
  have a := (ti_bd (y + 3761)).1
  have b := (ev_lin (y + 3761)).2
  have c := (ja_lin y).1
  omega
theorem drift2 (y : Int) (h : y ≤ 21001) (h0 : -4800 ≤ y) : ja (y + 1) < ti (y + 3762) ∧ ja (y - 1) < ti (y + 3760) := by
  have e : y + 3762 = (y + 1) + 3761 := by omega
  have e' : y + 3760 = (y - 1) + 3761 := by omega
  constructor
  · rw [e]
    exact drift' (y + 1) (by omega)
  · rw [e']
    have a := (ti_bd (y - 1 + 3761)).1
    have b := (ev_lin (y - 1 + 3761)).2
    have c := (ja_lin (y - 1)).1
    omega
theorem ti_pos (y : Int) (h : -951 ≤ y) : 0 < ti y := by
  have a := (ti_bd y).1
  have b := (ev_lin y).2
  omega
end Mine
end
section
namespace Mine
theorem gj_one (y : Int) : gj y 1 1 = ja y := by
  unfold gj
  rw [ja_eq]
  simp only [fd _ (show (0 : Int) ≤ 400 by omega), fd _ (show (0 : Int) ≤ 100 by omega), fd _ (show (0 : Int) ≤ 4 by omega), fd _ (show (0 : Int) ≤ 12 by omega)]
  simp
  omega
theorem gy_year (j : Int) : ja (gy j) ≤ j ∧ j < ja (gy j + 1) := by
  rw [ja_eq, ja_eq]
  obtain ⟨a, c, b, d, u, hj, ha, hc, hb, hu⟩ : ∃ a c b d u : Int, j = 1721426 + 146097 * a + 36524 * c + 1461 * b + d ∧ (0 ≤ 36524 * c + 1461 * b + d ∧ 36524 * c + 1461 * b + d < 146097) ∧ (0 ≤ 1461 * b + d ∧ 1461 * b + d < 36524) ∧ (0 ≤ d ∧ d < 1461) ∧ (u = d / 365) ∧
      gy j = if c = 4 then a * 400 + c * 100 + b * 4 + u else if u = 4 then a * 400 + c * 100 + b * 4 + u else a * 400 + c * 100 + b * 4 + u + 1 := by
    refine ⟨(j - 1721426) / 146097, (j - 1721426) % 146097 / 36524, (j - 1721426) % 146097 % 36524 / 1461, (j - 1721426) % 146097 % 36524 % 1461, (j - 1721426) % 146097 % 36524 % 1461 / 365, by omega, by omega, by omega, by omega, rfl, ?_⟩
    unfold gy ce yi y0 dqd dce ce dqc dep yi
    simp only [fd _ (show (0 : Int) ≤ 146097 by omega), fm _ (show (0 : Int) ≤ 146097 by omega), fd _ (show (0 : Int) ≤ 36524 by omega), fm _ (show (0 : Int) ≤ 36524 by omega), fd _ (show (0 : Int) ≤ 1461 by omega), fm _ (show (0 : Int) ≤ 1461 by omega), fd _ (show (0 : Int) ≤ 365 by omega)]
    unfold dqd dce dqc dep
    simp only [fd _ (show (0 : Int) ≤ 146097 by omega), fm _ (show (0 : Int) ≤ 146097 by omega), fd _ (show (0 : Int) ≤ 36524 by omega), fm _ (show (0 : Int) ≤ 36524 by omega), fd _ (show (0 : Int) ≤ 1461 by omega), fm _ (show (0 : Int) ≤ 1461 by omega), fd _ (show (0 : Int) ≤ 365 by omega)]
  obtain ⟨hu, hg⟩ := hu
  rw [hg]
  have hc4 : c = 0 ∨ c = 1 ∨ c = 2 ∨ c = 3 ∨ c = 4 := by omega
  have hu4 : u = 0 ∨ u = 1 ∨ u = 2 ∨ u = 3 ∨ u = 4 := by omega
  clear hg
  rcases hc4 with rfl | rfl | rfl | rfl | rfl <;> rcases hu4 with rfl | rfl | rfl | rfl | rfl <;> simp only [if_true, if_false, show ¬ (0 : Int) = 4 by omega, show ¬ (1 : Int) = 4 by omega, show ¬ (2 : Int) = 4 by omega, show ¬ (3 : Int) = 4 by omega] <;> omega
end Mine
end
section
namespace Mine
theorem ja_len (y : Int) : ja (y + 1) - ja y = if isl y = true then 366 else 365 := by
  rw [ja_eq, ja_eq]
  unfold isl
  simp only [fm _ (show (0 : Int) ≤ 400 by omega), fm _ (show (0 : Int) ≤ 100 by omega), fm _ (show (0 : Int) ≤ 4 by omega)]
  by_cases h4 : y % 4 = 0
  · by_cases h1 : y % 100 = 0
    · by_cases h0 : y % 400 = 0
      · simp [h4, h1, h0]; omega
      · simp [h4, h1, h0]; omega
    · simp [h4, h1]; omega
  · simp [h4]; omega
theorem feb_eq (y : Int) : feb y = if isl y = true then 29 else 28 := by
  have := ja_len y
  unfold feb
  cases h : isl y <;> rw [h] at this <;> simp at this ⊢ <;> omega
/-- the days of the year ahead of the month k (from 0) -/
theorem gs_eq (y k : Int) (h0 : 0 ≤ k) (h1 : k ≤ 11) : gs y k = (367 * (k + 1) - 362) / 12 + (if k + 1 ≤ 2 then 0 else if isl y = true then -1 else -2) := by
  have hk : k = 0 ∨ k = 1 ∨ k = 2 ∨ k = 3 ∨ k = 4 ∨ k = 5 ∨ k = 6 ∨ k = 7 ∨ k = 8 ∨ k = 9 ∨ k = 10 ∨ k = 11 := by omega
  have hf := feb_eq y
  rcases hk with rfl | rfl | rfl | rfl | rfl | rfl | rfl | rfl | rfl | rfl | rfl | rfl <;> simp only [gs, szs, hf] <;> cases isl y <;> decide
theorem sz_eq (y k : Int) (h0 : 0 ≤ k) (h1 : k ≤ 11) : sz y k = dim y (k + 1) := by
  have hk : k = 0 ∨ k = 1 ∨ k = 2 ∨ k = 3 ∨ k = 4 ∨ k = 5 ∨ k = 6 ∨ k = 7 ∨ k = 8 ∨ k = 9 ∨ k = 10 ∨ k = 11 := by omega
  have hf := feb_eq y
  rcases hk with rfl | rfl | rfl | rfl | rfl | rfl | rfl | rfl | rfl | rfl | rfl | rfl <;> simp only [sz, szs, hf, dim] <;> cases isl y <;> decide
theorem gj_gs (y m : Int) (h0 : 1 ≤ m) (h1 : m ≤ 12) (d : Int) : gj y m d = ja y + gs y (m - 1) + d - 1 := by
  have e := gj_one y
  rw [gs_eq y (m - 1) (by omega) (by omega), show m - 1 + 1 = m by omega, ← e]
  unfold gj
  simp only [fd _ (show (0 : Int) ≤ 12 by omega)]
  split <;> (try split) <;> simp <;> omega
/-- the month and the day of the Gregorian date -/
theorem gm_spec (j : Int) : 1 ≤ gm j ∧ gm j ≤ 12 ∧ ja (gy j) + gs (gy j) (gm j - 1) ≤ j ∧ j < ja (gy j) + gs (gy j) (gm j - 1) + dim (gy j) (gm j) ∧ gd j = j - ja (gy j) - gs (gy j) (gm j - 1) + 1 := by
  have hy := gy_year j
  have hl := ja_len (gy j)
  have hyd : yday j = j - ja (gy j) := by unfold yday; rw [gj_one]
  have hN : 0 ≤ yday j ∧ yday j < (if isl (gy j) = true then 366 else 365) := by rw [hyd]; omega
  have hm : gm j = ((yday j + (if yday j < 58 + (if isl (gy j) = true then 1 else 0) then 0 else if isl (gy j) = true then 1 else 2)) * 12 + 373) / 367 := by
    unfold gm; rw [fd _ (by omega)]
  have hr : 1 ≤ gm j ∧ gm j ≤ 12 := by
    rw [hm]
    cases h : isl (gy j) <;> rw [h] at hN <;> simp only [Bool.false_eq_true, if_false, if_true] at hN ⊢ <;> (repeat' split) <;> omega
  have hk : gm j = 1 ∨ gm j = 2 ∨ gm j = 3 ∨ gm j = 4 ∨ gm j = 5 ∨ gm j = 6 ∨ gm j = 7 ∨ gm j = 8 ∨ gm j = 9 ∨ gm j = 10 ∨ gm j = 11 ∨ gm j = 12 := by omega
  have key : gs (gy j) (gm j - 1) ≤ yday j ∧ yday j < gs (gy j) (gm j - 1) + dim (gy j) (gm j) := by
    rw [gs_eq _ _ (by omega) (by omega), show gm j - 1 + 1 = gm j by omega]
    unfold dim has30
    generalize yday j = N at *
    generalize gm j = M at *
    clear hyd hl hy
    cases h : isl (gy j) <;> rw [h] at hN hm <;> simp only [Bool.false_eq_true, if_false, if_true] at hN hm ⊢ <;>
    rcases hk with rfl | rfl | rfl | rfl | rfl | rfl | rfl | rfl | rfl | rfl | rfl | rfl <;> simp <;> (repeat' split at hm) <;> omega
  refine ⟨hr.1, hr.2, by omega, by omega, ?_⟩
  unfold gd
  rw [gj_gs _ _ hr.1 hr.2]
  omega
end Mine
end
section
namespace Mine
theorem ja_mono (y z : Int) (h : y < z) : ja y < ja z := by
  rw [ja_eq, ja_eq]
  omega
theorem gy_uniq (j y : Int) (h1 : ja y ≤ j) (h2 : j < ja (y + 1)) : gy j = y := by
  have a := gy_year j
  rcases Int.lt_trichotomy (gy j) y with h | h | h
  · have : ja (gy j + 1) ≤ ja y := by
      rcases Int.lt_or_eq_of_le (show gy j + 1 ≤ y by omega) with k | k
      · exact Int.le_of_lt (ja_mono _ _ k)
      · rw [k]; exact Int.le_refl _
    omega
  · exact h
  · have : ja (y + 1) ≤ ja (gy j) := by
      rcases Int.lt_or_eq_of_le (show y + 1 ≤ gy j by omega) with k | k
      · exact Int.le_of_lt (ja_mono _ _ k)
      · rw [k]; exact Int.le_refl _
    omega
theorem gy_iff (j y : Int) : gy j = y ↔ (ja y ≤ j ∧ j < ja (y + 1)) := ⟨fun h => h ▸ gy_year j, fun h => gy_uniq j y h.1 h.2⟩
theorem g_legal (j : Int) : 0 < gd j ∧ gd j ≤ dim (gy j) (gm j) := by
  obtain ⟨h1, h2, h3, h4, h5⟩ := gm_spec j
  omega
theorem g_back (j : Int) : gj (gy j) (gm j) (gd j) = j := by
  obtain ⟨h1, h2, h3, h4, h5⟩ := gm_spec j
  rw [gj_gs _ _ h1 h2]
  omega
theorem gs_mono (y : Int) (a b : Int) (h0 : 0 ≤ a) (h : a < b) (h1 : b ≤ 11) : gs y a + sz y a ≤ gs y b := by
  have ha : a = 0 ∨ a = 1 ∨ a = 2 ∨ a = 3 ∨ a = 4 ∨ a = 5 ∨ a = 6 ∨ a = 7 ∨ a = 8 ∨ a = 9 ∨ a = 10 := by omega
  rw [← gs_succ y a h0 (by omega), gs_eq y (a + 1) (by omega) (by omega), gs_eq y b (by omega) h1]
  cases isl y <;> simp only [Bool.false_eq_true, if_false, if_true] <;> (repeat' split) <;> omega
theorem dt_ok (y n : Int) (h : gy n ≤ y) : DtOk y n (gy n) (gm n - 1) := by
  obtain ⟨h1, h2, h3, h4, h5⟩ := gm_spec n
  have hy := gy_year n
  refine ⟨h, fun i hi hn => ?_, fun i hi hn => ?_, by omega, by omega, fun k k0 k1 hk => ?_, fun k k0 k1 hk => ?_⟩
  · rcases Int.lt_or_eq_of_le hi with k | k
    · exact k
    · rw [← k] at hn; omega
  · rcases Int.lt_or_eq_of_le hi with k | k
    · have : ja (gy n + 1) ≤ ja i := by
        rcases Int.lt_or_eq_of_le (show gy n + 1 ≤ i by omega) with q | q
        · exact Int.le_of_lt (ja_mono _ _ q)
        · rw [q]; exact Int.le_refl _
      omega
    · exact k.symm
  · rcases Int.lt_or_eq_of_le k1 with q | q
    · exact q
    · rw [q, sz_eq _ _ (by omega) (by omega), show gm n - 1 + 1 = gm n by omega] at hk
      omega
  · rcases Int.lt_or_eq_of_le k1 with q | q
    · have := gs_mono (gy n) k (gm n - 1) k0 q (by omega)
      omega
    · exact q
end Mine
end
section
open PySem.W
namespace Mine
theorem yd_ti (y : Int) (h : -951 ≤ y) : yd y = ti (y + 1) - ti y := by
  have a := ti_pos y h
  have b := ti_pos (y + 1) (by omega)
  unfold yd hj mid
  rw [← ti_eq, ← ti_eq, if_pos (by omega), if_pos (by omega)]
theorem ms0 (y a : Int) (s : Int) : msum y a s 0 = a := rfl
theorem ms_succ (y a s : Int) (n : Nat) : msum y a s (n + 1) = msum y a s n + ml y (s + n) := by
  unfold msum rangeKs
  rw [List.range_succ, List.map_append, List.foldl_append]
  rfl
theorem hj_ti (y : Int) (h : -951 ≤ y) : hj y = ti y := by
  have a := ti_pos y h
  unfold hj mid
  rw [← ti_eq, if_pos (by omega)]
theorem any2 (a b n : Int) : (([a, b] : List Int).any (· == n) = true) = (a = n ∨ b = n) := by
  simp
theorem ml8 (y : Int) (h : -951 ≤ y) : ml y 8 = if ([355, 385] : List Int).any (· == ti (y + 1) - ti y) = true then 30 else 29 := by
  have hl := year_len y
  simp only [any2]
  unfold ml
  rw [yd_ti y h, fm _ (by omega)]
  simp
  rcases hl with ⟨_, hl | hl | hl⟩ | ⟨_, hl | hl | hl⟩ <;> rw [hl] <;> decide
theorem ml9 (y : Int) (h : -951 ≤ y) : ml y 9 = if ([353, 383] : List Int).any (· == ti (y + 1) - ti y) = true then 29 else 30 := by
  have hl := year_len y
  simp only [any2]
  unfold ml
  rw [yd_ti y h, fm _ (by omega)]
  simp
  rcases hl with ⟨_, hl | hl | hl⟩ | ⟨_, hl | hl | hl⟩ <;> rw [hl] <;> decide
theorem ml12 (y : Int) : ml y 12 = if th y = true then 30 else 29 := by
  unfold ml
  rw [← leap_th]
  cases leapB y <;> simp
theorem ms_add (y a s : Int) : ∀ n : Nat, msum y a s n = a + msum y 0 s n
  | 0 => by rw [ms0, ms0]; omega
  | n + 1 => by rw [ms_succ, ms_succ, ms_add y a s n]; omega
/-- the days of the Hebrew year ahead of the month -/
def st (y m : Int) : Int := if m < 7 then msum y 0 7 (ym y + 1 - 7).toNat + msum y 0 1 (m.toNat - 1) else msum y 0 7 (m - 7).toNat
theorem hjd_st (y m d : Int) : hjd y m d = mid (ti y - 1 + d + st y m) := by
  have e := ti_eq y
  unfold hjd st
  split
  · rw [ms_add, ms_add y _ 7]; congr 1; omega
  · rw [ms_add]; congr 1; omega
end Mine
end
section
open PySem.W
namespace Mine
theorem mlc (y : Int) : ml y 7 = 30 ∧ ml y 10 = 29 ∧ ml y 11 = 30 ∧ ml y 13 = 29 ∧ ml y 1 = 30 ∧ ml y 2 = 29 ∧ ml y 3 = 30 ∧ ml y 4 = 29 ∧ ml y 5 = 30 ∧ ml y 6 = 29 := by
  unfold ml
  simp
theorem ym_th (y : Int) : ym y = if th y = true then 13 else 12 := by
  unfold ym; rw [leap_th]
/-- the law's day number by the program's month lengths -/
theorem ld_eq (y m d : Int) (h : -951 ≤ y) (h0 : 1 ≤ m) (h1 : m ≤ 13) (h13 : m = 13 → th y = true) : ld y m d = if d ≤ ml y m then some (ti y + st y m + d - 1) else none := by
  obtain ⟨e7, e10, e11, e13, e1, e2, e3, e4, e5, e6⟩ := mlc y
  have e8 := ml8 y h
  have e9 := ml9 y h
  have e12 := ml12 y
  have ey := ym_th y
  have hm : m = 1 ∨ m = 2 ∨ m = 3 ∨ m = 4 ∨ m = 5 ∨ m = 6 ∨ m = 7 ∨ m = 8 ∨ m = 9 ∨ m = 10 ∨ m = 11 ∨ m = 12 ∨ m = 13 := by omega
  unfold ld ldRows
  rw [← e8, ← e9]
  unfold st
  rw [ey]
  generalize ti y = t at *
  cases hth : th y
  · rw [hth] at e12 h13
    rcases hm with rfl | rfl | rfl | rfl | rfl | rfl | rfl | rfl | rfl | rfl | rfl | rfl | rfl <;> simp [ldGo, msum, rangeKs, List.range_succ, *] at * <;> (repeat' split) <;> simp <;> omega
  · rw [hth] at e12
    rcases hm with rfl | rfl | rfl | rfl | rfl | rfl | rfl | rfl | rfl | rfl | rfl | rfl | rfl <;> simp [ldGo, msum, rangeKs, List.range_succ, *] at * <;> (repeat' split) <;> simp <;> omega
end Mine
end
section
open PySem.W
namespace Mine
theorem ti_mono (y z : Int) (h : y < z) : ti y + 300 ≤ ti z := by
  have a := (ti_bd y).2
  have b := (ti_bd z).1
  have c := (ev_lin y).1
  have d := (ev_lin z).2
  omega
theorem ti_mono' (y z : Int) (h : y ≤ z) : ti y ≤ ti z := by
  rcases Int.lt_or_eq_of_le h with k | k
  · have := ti_mono y z k; omega
  · rw [k]; exact Int.le_refl _
theorem hj_le (i Y j : Int) (hY : -951 ≤ Y) (h1 : ti Y ≤ j) (h : i ≤ Y) : hj i ≤ j := by
  have e := ti_eq i
  unfold hj mid
  rw [← e]
  have := ti_pos Y hY
  rcases Int.lt_or_eq_of_le h with k | k
  · have := ti_mono i Y k
    split <;> omega
  · subst k; rw [if_pos (by omega)]; exact h1
theorem hj_gt (i Y j : Int) (hY : -951 ≤ Y) (h2 : j < ti (Y + 1)) (h : Y < i) : j < hj i := by
  rw [hj_ti i (by omega)]
  have := ti_mono' (Y + 1) i (by omega)
  omega
theorem cnt_le (Y j : Int) (h2 : j < ti (Y + 1)) : cnt j - 1 ≤ Y := by
  have a := (ti_bd (Y + 1)).2
  have b := (ev_lin (Y + 1)).1
  unfold cnt
  rw [fd _ (by omega)]
  omega
end Mine
end
section
open PySem.W
namespace Mine
theorem st_step (y i : Int) (h : 7 ≤ i ∨ (1 ≤ i ∧ i ≤ 5)) : st y (i + 1) = st y i + ml y i := by
  unfold st
  rcases h with h | h
  · rw [if_neg (by omega), if_neg (by omega), show (i + 1 - 7).toNat = (i - 7).toNat + 1 by omega, ms_succ, show 7 + (((i - 7).toNat : Nat) : Int) = i by omega]
  · rw [if_pos (by omega), if_pos (by omega), show (i + 1).toNat - 1 = (i.toNat - 1) + 1 by omega, ms_succ, show 1 + ((i.toNat - 1 : Nat) : Int) = i by omega]
    omega
theorem ml_bd (y m : Int) : 29 ≤ ml y m ∧ ml y m ≤ 30 := by
  unfold ml
  (repeat' split) <;> omega
/-- within the months 7 .. 13, and within 1 .. 6, the sums rise -/
theorem st_rise (y i : Int) : ∀ n : Nat, (7 ≤ i ∨ (1 ≤ i ∧ i + n ≤ 5)) → st y i + ml y i ≤ st y (i + n + 1)
  | 0, h => by
    rw [show i + ((0 : Nat) : Int) + 1 = i + 1 by omega, st_step y i (by omega)]
    omega
  | n + 1, h => by
    have ih := st_rise y i n (by omega)
    have b := ml_bd y (i + n + 1)
    rw [show i + ((n + 1 : Nat) : Int) + 1 = (i + n + 1) + 1 by omega, st_step y (i + n + 1) (by omega)]
    omega
theorem st_lt (y i m : Int) (h : i < m) (hh : 7 ≤ i ∨ (1 ≤ i ∧ m ≤ 6)) : st y i + ml y i ≤ st y m := by
  have := st_rise y i (m - i - 1).toNat (by omega)
  rw [show i + (((m - i - 1).toNat : Nat) : Int) + 1 = m by omega] at this
  exact this
theorem ms_nn (y s : Int) : ∀ n : Nat, 0 ≤ msum y 0 s n
  | 0 => by rw [ms0]; omega
  | n + 1 => by
    have := ms_nn y s n
    have b := ml_bd y (s + n)
    rw [ms_succ]; omega
theorem st_nn (y m : Int) : 0 ≤ st y m := by
  have a := ms_nn y 7 (ym y + 1 - 7).toNat
  have b := ms_nn y 1 (m.toNat - 1)
  have c := ms_nn y 7 (m - 7).toNat
  unfold st
  split <;> omega
end Mine
end
section
open PySem.W
namespace Mine
theorem hjd_pos (y m d : Int) (h : -951 ≤ y) (hd : 1 ≤ d) : hjd y m d = ti y + st y m + d - 1 := by
  have a := ti_pos y h
  have b := st_nn y m
  rw [hjd_st]; unfold mid
  rw [if_pos (by omega)]; omega
/-- months 7 .. of the year end ahead of month 1 -/
theorem st_one (y m : Int) (h : 7 ≤ m) (h2 : m ≤ ym y) : st y m + ml y m ≤ st y 1 := by
  have e : st y 1 = st y (ym y + 1) := by
    have := ym_or y
    unfold st
    rw [if_pos (by omega), if_neg (by omega), show (1 : Int).toNat - 1 = 0 by decide, ms0]; omega
  rw [e]
  exact st_lt y m (ym y + 1) (by omega) (.inl h)
theorem fh_ok (y m d : Int) (h : -951 ≤ y) (h0 : 1 ≤ m) (hm : m ≤ ym y) (hd : 1 ≤ d) (hl : d ≤ ml y m) (hlast : ti y + st y m + ml y m ≤ ti (y + 1)) : FhOk (ti y + st y m + d - 1) y m (if m < 7 then 1 else 7) := by
  have hy := ym_or y
  have b := st_nn y m
  have hml : ∀ i, 1 ≤ ml y i := fun i => by have := ml_bd y i; omega
  have hs : m < 7 → st y 1 ≤ st y m := fun q => by
    rcases Int.lt_or_eq_of_le h0 with k | k
    · have := st_lt y 1 m k (.inr ⟨by omega, by omega⟩); have := hml 1; omega
    · rw [← k]; exact Int.le_refl _
  refine ⟨fun i hi => ?_, fun i hi => ?_, cnt_le y _ (by omega), fun q => ?_, fun q => ?_, by split <;> omega, by split <;> omega, by omega, fun i i0 i1 q => ?_, fun i i0 i1 q => ?_⟩
  · rcases Int.lt_or_le y i with k | k
    · have := hj_gt i y _ h (by omega : ti y + st y m + d - 1 < ti (y + 1)) k; omega
    · exact k
  · rcases Int.lt_or_le y i with k | k
    · exact k
    · exact absurd (hj_le i y _ h (by omega : ti y ≤ ti y + st y m + d - 1) k) hi
  · rw [hjd_pos y 1 1 h (by omega)] at q
    split
    · rename_i k; have := hs k; omega
    · rfl
  · rw [hjd_pos y 1 1 h (by omega)] at q
    split
    · rfl
    · have := st_one y m (by omega) hm; omega
  · rw [hjd_pos y i _ h (hml i)] at q
    rcases Int.lt_or_eq_of_le i1 with k | k
    · exact k
    · subst k; omega
  · rw [hjd_pos y i _ h (hml i)] at q
    rcases Int.lt_or_eq_of_le i1 with k | k
    · have := st_lt y i m k (by split at i0 <;> omega); omega
    · exact k
end Mine
end
section
open PySem.W
namespace Mine
/-- the months fill the year -/
theorem fill (y : Int) (h : -951 ≤ y) : ti y + st y 6 + 29 = ti (y + 1) := by
  obtain ⟨e7, e10, e11, e13, e1, e2, e3, e4, e5, e6⟩ := mlc y
  have e8 := ml8 y h
  have e9 := ml9 y h
  have e12 := ml12 y
  have ey := ym_th y
  have hl := year_len y
  rw [leap_th] at hl
  unfold st
  rw [ey]
  rcases hl with ⟨hth, hl | hl | hl⟩ | ⟨hth, hl | hl | hl⟩ <;> rw [hl] at e8 e9 <;> rw [hth] at e12 ⊢ <;> simp at e8 e9 e12 <;>
    simp [msum, rangeKs, List.range_succ, e1, e2, e3, e4, e5, e7, e8, e9, e10, e11, e12, e13] <;> omega
end Mine
end
section
open PySem.W
namespace Mine
def tot : List (Int × Int) → Int
  | [] => 0
  | (_, z) :: r => z + tot r
theorem tot_nn : ∀ rs : List (Int × Int), (∀ p ∈ rs, 0 ≤ p.2) → 0 ≤ tot rs
  | [], _ => by simp [tot]
  | (o, z) :: r, h => by
    have a := h (o, z) (List.mem_cons_self ..)
    have b := tot_nn r fun p q => h p (List.mem_cons_of_mem _ q)
    simp only [tot]
    dsimp only at a
    omega
theorem ldGo_bd (M D : Int) (hD : 1 ≤ D) : ∀ (rs : List (Int × Int)) (k v : Int), (∀ p ∈ rs, 0 ≤ p.2) → ldGo rs M D k = some v → k ≤ v ∧ v < k + tot rs
  | [], _, _, _, h => by simp [ldGo] at h
  | (o, z) :: r, k, v, hp, h => by
    have hz := hp (o, z) (List.mem_cons_self ..)
    have tn := tot_nn r fun p q => hp p (List.mem_cons_of_mem _ q)
    dsimp only at hz
    unfold ldGo at h
    simp only [tot]
    split at h
    · injection h with h; omega
    · have := ldGo_bd M D hD r (k + z) v (fun p q => hp p (List.mem_cons_of_mem _ q)) h
      omega
theorem rows_nn (y : Int) : ∀ p ∈ ldRows y, 0 ≤ p.2 := by
  intro p hp
  unfold ldRows at hp
  cases hth : th y <;> rw [hth] at hp <;> simp at hp
  · rcases hp with h | h | h | h | h | h | h | h | h | h | h | h <;> subst h <;> dsimp only <;> (try split) <;> omega
  · rcases hp with h | h | h | h | h | h | h | h | h | h | h | h | h <;> subst h <;> dsimp only <;> (try split) <;> omega
theorem rows_tot (y : Int) : tot (ldRows y) = ti (y + 1) - ti y := by
  have hl := year_len y
  rw [leap_th] at hl
  unfold ldRows
  rcases hl with ⟨hth, hl | hl | hl⟩ | ⟨hth, hl | hl | hl⟩ <;> rw [hl, hth] <;> decide
theorem ld_bd (y m d v : Int) (hd : 1 ≤ d) (h : ld y m d = some v) : ti y ≤ v ∧ v < ti (y + 1) := by
  have a := ldGo_bd m d hd (ldRows y) (ti y) v (rows_nn y) h
  have b := rows_tot y
  omega
theorem ld13 (y d : Int) (h : th y = false) : ld y 13 d = none := by
  unfold ld ldRows
  rw [h]
  simp [ldGo]
theorem ld_inv (y m d v : Int) (h : -951 ≤ y) (h0 : 1 ≤ m) (h1 : m ≤ 13) (hl : ld y m d = some v) : m ≤ ym y ∧ d ≤ ml y m ∧ v = ti y + st y m + d - 1 := by
  have hth : m = 13 → th y = true := fun e => by
    cases q : th y with
    | true => rfl
    | false => rw [e, ld13 y d q] at hl; cases hl
  have ey := ym_th y
  rw [ld_eq y m d h h0 h1 hth] at hl
  split at hl
  · injection hl with hl
    refine ⟨?_, by assumption, hl.symm⟩
    rw [ey]
    rcases Int.lt_or_eq_of_le h1 with k | k
    · split <;> omega
    · rw [hth k, if_pos rfl]; omega
  · cases hl
theorem last (y m : Int) (h : -951 ≤ y) (h0 : 1 ≤ m) (hm : m ≤ ym y) : ti y + st y m + ml y m ≤ ti (y + 1) := by
  have f := fill y h
  have hy := ym_or y
  obtain ⟨e7, e10, e11, e13, e1, e2, e3, e4, e5, e6⟩ := mlc y
  have s16 := st_lt y 1 6 (by omega) (.inr ⟨by omega, by omega⟩)
  rcases Int.lt_or_le m 7 with k | k
  · rcases Int.lt_or_eq_of_le (show m ≤ 6 by omega) with q | q
    · have := st_lt y m 6 q (.inr ⟨h0, by omega⟩); omega
    · subst q; omega
  · have := st_one y m k hm; omega
/-- the day's number and its Hebrew date belong together -/
def Own (h m d n : Int) : Prop := 1 ≤ m ∧ m ≤ 13 ∧ hjd h m d = n ∧ d = n - hjd h m 1 + 1 ∧ ∃ f, FhOk n h m f
def Told (y m d v : Int) : Prop := 1 ≤ m ∧ m ≤ 13 ∧ ((gy (hjd (y + 3760) m d) = y ∧ v = hjd (y + 3760) m d) ∨ (¬ gy (hjd (y + 3760) m d) = y ∧ gy (hjd (y + 3760 + 1) m d) = y ∧ v = hjd (y + 3760 + 1) m d))
def Refd (y m d : Int) : Prop := 1 ≤ m ∧ m ≤ 13 ∧ ¬ gy (hjd (y + 3760) m d) = y ∧ ¬ gy (hjd (y + 3760 + 1) m d) = y
theorem own_ok (y m d v : Int) (h : -951 ≤ y) (h0 : 1 ≤ m) (h1 : m ≤ 13) (hd : 1 ≤ d) (hl : ld y m d = some v) : Own y m d v := by
  obtain ⟨a, b, c⟩ := ld_inv y m d v h h0 h1 hl
  refine ⟨h0, h1, ?_, ?_, if m < 7 then 1 else 7, ?_⟩
  · rw [hjd_pos y m d h hd, c]
  · rw [hjd_pos y m 1 h (by omega), c]; omega
  · rw [c]; exact fh_ok y m d h h0 a hd b (last y m h h0 a)
theorem out_lo (y m d v : Int) (hy : -4711 ≤ y ∧ y ≤ 21000) (hd : 1 ≤ d) (h : ld (y + 3759) m d = some v) : v < ja y := by
  have a := (ld_bd _ m d v hd h).2
  rw [show y + 3759 + 1 = y + 3760 by omega] at a
  have := drift y (by omega) (by omega)
  omega
theorem out_hi (y m d v : Int) (hy : -4711 ≤ y ∧ y ≤ 21000) (hd : 1 ≤ d) (h : ld (y + 3762) m d = some v) : ja (y + 1) ≤ v := by
  have a := (ld_bd _ m d v hd h).1
  have := (drift2 y (by omega) (by omega)).1
  omega
theorem gy_le (y o : Int) (h : o < ja (y + 1)) : gy o ≤ y := by
  have a := (gy_year o).1
  rcases Int.lt_or_le y (gy o) with k | k
  · have : ja (y + 1) ≤ ja (gy o) := by
      rcases Int.lt_or_eq_of_le (show y + 1 ≤ gy o by omega) with q | q
      · exact Int.le_of_lt (ja_mono _ _ q)
      · rw [q]; exact Int.le_refl _
    omega
  · exact k
/-- what the law finds, what the program tells -/
theorem scen (y m d o : Int) (hy : -4711 ≤ y ∧ y ≤ 21000) (h0 : 1 ≤ m) (h1 : m ≤ 13) (hd : 1 ≤ d) (hl : ld (y + 3760) m d = some o) (h2 : ja y ≤ o ∨ ∃ v, ld (y + 3761) m d = some v) :
    Own (y + 3760) m d o ∧ o < ja (y + 1) ∧ ((ja y ≤ o ∧ Told y m d o) ∨ (o < ja y ∧ ∃ v, ld (y + 3761) m d = some v ∧ Own (y + 3761) m d v ∧ ja y ≤ v ∧ ((v < ja (y + 1) ∧ Told y m d v) ∨ (ja (y + 1) ≤ v ∧ Refd y m d)))) := by
  have own := own_ok _ m d o (by omega) h0 h1 hd hl
  have a := ld_bd _ m d o hd hl
  rw [show y + 3760 + 1 = y + 1 + 3760 by omega] at a
  have dr := drift (y + 1) (by omega) (by omega)
  refine ⟨own, by omega, ?_⟩
  rcases Int.lt_or_le o (ja y) with k | k
  · right
    rcases h2 with h2 | ⟨v, h2⟩
    · omega
    have b := ld_bd _ m d v hd h2
    have dr' := drift' y (by omega)
    have own2 := own_ok _ m d v (by omega) h0 h1 hd h2
    have n1 : ¬ gy (hjd (y + 3760) m d) = y := by rw [own.2.2.1, gy_iff]; omega
    have e2 : hjd (y + 3760 + 1) m d = v := by rw [show y + 3760 + 1 = y + 3761 by omega]; exact own2.2.2.1
    refine ⟨k, v, h2, own2, by omega, ?_⟩
    rcases Int.lt_or_le v (ja (y + 1)) with q | q
    · exact .inl ⟨q, h0, h1, .inr ⟨n1, by rw [e2, gy_iff]; omega, e2.symm⟩⟩
    · exact .inr ⟨q, h0, h1, n1, by rw [e2, gy_iff]; omega⟩
  · left
    exact ⟨k, h0, h1, .inl ⟨by rw [own.2.2.1, gy_iff]; omega, own.2.2.1.symm⟩⟩
theorem st13 (y : Int) : 176 ≤ st y 13 := by
  have a := st_lt y 12 13 (by omega) (.inl (by omega))
  have b := st_lt y 11 12 (by omega) (.inl (by omega))
  have c := st_lt y 10 11 (by omega) (.inl (by omega))
  have d := st_lt y 9 10 (by omega) (.inl (by omega))
  have e := st_lt y 8 9 (by omega) (.inl (by omega))
  have f := st_lt y 7 8 (by omega) (.inl (by omega))
  have g := st_nn y 7
  obtain ⟨e7, e10, e11, e13, e1, e2, e3, e4, e5, e6⟩ := mlc y
  have := (ml_bd y 12).1
  have := (ml_bd y 8).1
  have := (ml_bd y 9).1
  omega
/-- the twenty-ninth day stands -/
theorem tweak (y m : Int) (hy : -4711 ≤ y ∧ y ≤ 21000) (h0 : 1 ≤ m) (h1 : m ≤ 13) (h13 : m = 13 → th (y + 3760) = true) : ∃ o, ld (y + 3760) m 29 = some o ∧ (ja y ≤ o ∨ ∃ v, ld (y + 3761) m 29 = some v) := by
  have e := ld_eq (y + 3760) m 29 (by omega) h0 h1 h13
  have b := ml_bd (y + 3760) m
  rw [if_pos b.1] at e
  refine ⟨_, e, ?_⟩
  rcases Int.lt_or_eq_of_le h1 with k | k
  · right
    have e' := ld_eq (y + 3761) m 29 (by omega) h0 h1 (by omega)
    rw [if_pos (ml_bd (y + 3761) m).1] at e'
    exact ⟨_, e'⟩
  · left
    subst k
    have := st13 (y + 3760)
    have a := (ti_bd (y + 3760)).1
    have c := (ev_lin (y + 3760)).2
    have j := (ja_lin y).1
    omega
end Mine
end
section
open PySem PySem.W PyProof.Rows PySem.Spec PySem.Calls
namespace Mine
theorem told_c {w loose mean mg mb news} {y m d v : Int} {t tm td : Tok} (h : Told y m d v) : Cl w loose mean mg mb 120 8 news [.int y t, .int m tm, .int d td] (fun t => .int v t) := by
  obtain ⟨h0, h1, h2⟩ := h
  rcases h2 with ⟨e, rfl⟩ | ⟨n, e, rfl⟩
  · have k := @gyr_c1 w loose mean mg mb news y m d t tm td h0 h1 (g_legal _) e
    rw [g_back] at k
    exact @k
  · have k := @gyr_c2 w loose mean mg mb news y m d t tm td h0 h1 (g_legal _) n e
    rw [g_back] at k
    exact @k
theorem refd_c {w loose mean mg mb news} {y m d : Int} {t tm td : Tok} (h : Refd y m d) : ClE w loose mean mg mb 120 8 news [.int y t, .int m tm, .int d td] := by
  obtain ⟨h0, h1, h2, h3⟩ := h
  have k := @gyrx_c w loose mean mg mb news y m d t tm td h0 h1 h2 h3
  exact @k
theorem date_c {w loose mean mg mb news} {y n : Int} {t tn : Tok} (h : gy n ≤ y) : Cl3 w loose mean mg mb 177 3 news [.int y t, .int n tn] (gy n) (gm n) (gd n) := by
  have k := @dt_c w loose mean mg mb news y n _ _ t tn (dt_ok y n h)
  obtain ⟨h1, h2, h3, h4, h5⟩ := gm_spec n
  rw [← h5, show gm n - 1 + 1 = gm n by omega] at k
  exact @k
theorem togr_c {w loose mean mg mb news} {h m d n : Int} {t tm td : Tok} (o : Own h m d n) : Cl3 w loose mean mg mb 134 8 news [.int h t, .int m tm, .int d td] (gy n) (gm n) (gd n) := by
  obtain ⟨h0, h1, e, _, _⟩ := o
  have k := @tg_c w loose mean mg mb news h m d t tm td h0 h1
  rw [e] at k
  exact @k
theorem frgr_c {w loose mean mg mb news} {h m d n : Int} {t tm td : Tok} (o : Own h m d n) : Cl3 w loose mean mg mb 127 10 news [.int (gy n) t, .int (gm n) tm, .int (gd n) td] h m d := by
  obtain ⟨h0, h1, _, e, f, q⟩ := o
  rw [← g_back n] at q
  have k := @fgr_c w loose mean mg mb news (gy n) (gm n) (gd n) h m f t tm td (g_legal n) q
  rw [g_back, ← e] at k
  exact @k
/-- the year's sizes are the months' -/
theorem past_bad (y o p : Int) (ho : 1 ≤ o ∧ o ≤ 12) (hp : 0 ≤ p) : ¬ (0 < sz y (o - 1) + 1 + p ∧ sz y (o - 1) + 1 + p ≤ dim y o) := by
  have := sz_eq y (o - 1) (by omega) (by omega)
  rw [show o - 1 + 1 = o by omega] at this
  omega
theorem dim_bd (y m : Int) : 28 ≤ dim y m ∧ dim y m ≤ 31 := by
  unfold dim
  (repeat' split) <;> omega
end Mine
end
section
open PySem PySem.W PyProof.Rows PySem.Spec PySem.Calls
namespace Mine
def Has (m : Str → Option Value) : List (Str × Value) → Prop
  | [] => True
  | p :: r => m p.1 = some p.2 ∧ Has m r
theorem Has.all {m : Str → Option Value} : ∀ {ps : List (Str × Value)}, Has m ps → ∀ p ∈ ps, m p.1 = some p.2
  | [], _, _, h => nomatch h
  | _ :: _, x, p, h => by
    rcases List.mem_cons.mp h with rfl | h
    · exact x.1
    · exact Has.all x.2 p h
/-- the state at a cut: some names of the frame, some things of the ledger -/
def St (s : Shared) (h₀ : Heap) (L : Addr) (ps : List (Str × Value)) (news : List (Addr × Obj)) (s' : Shared) : Prop :=
  ∃ (h : Heap) (tk : Nat) (u : Str → Option Value), s' = { s with heap := h, toks := tk } ∧ Fr h₀ L h (kstB u ps) ∧ News h₀ L h news
theorem st_mk {s s' : Shared} {h₀ h : Heap} {L : Addr} {tk : Nat} {m : Str → Option Value} {ps : List (Str × Value)} {news all : List (Addr × Obj)} (hs : s' = { s with heap := h, toks := tk }) (F : Fr h₀ L h m) (N : News h₀ L h all) (hp : Has m ps) (sub : SubL news all) : St s h₀ L ps news s' := by
  have e : kstB m ps = m := by
    funext z
    exact kstB_eq hp.all fun _ => rfl
  exact ⟨h, tk, m, hs, by rw [e]; exact F, fun p q => N p (sub.mem p q)⟩
theorem cut_pt {M : Model} {A : Around} {env : Env} {Q : Flow → Shared → Prop} {E : Value → Shared → Prop} {s : Shared} {h₀ h : Heap} {L : Addr} {m : Str → Option Value} (P : Shared → Heap → Addr → Shared → Prop) (_F : Fr h₀ L h m) (n : Nat) {body : List Stmt}
    (h1 : Cut M A env Q E (P s h₀ L) n body s) (h2 : ∀ s', P s h₀ L s' → wpAny M A (execs (body.drop n) env) Q E s') : wpAny M A (execs body env) Q E s := cut_at _ n h1 h2
abbrev nm (x : String) : Str := Str.ofString x
/-- behind the fourth statement -/
def P4 (s : Shared) (h₀ : Heap) (L : Addr) (s' : Shared) : Prop :=
  ∃ (D : Addr) (ws : List Value) (ns : List Int) (t1 t2 t3 : Tok) (y m d : Int), St s h₀ L [(Str.ofString "numbers", .ref D), (Str.ofString "year", .int y t1), (Str.ofString "month", .int m t2), (Str.ofString "day", .int d t3)] [(D, PySem.W.listOf ws.toArray 0)] s' ∧
    IntsAre ws ns ∧ ns.length = 5 ∧ (-4711 ≤ y ∧ y ≤ 21000) ∧ (1 ≤ m ∧ m ≤ 13) ∧ (1 ≤ d ∧ d ≤ 30)
/-- behind the sixth: the month settled -/
def P6 (s : Shared) (h₀ : Heap) (L : Addr) (s' : Shared) : Prop :=
  ∃ (D : Addr) (ws : List Value) (ns : List Int) (t1 t2 t3 t4 t5 : Tok) (y m d : Int), St s h₀ L [(Str.ofString "numbers", .ref D), (Str.ofString "year", .int y t1), (Str.ofString "month", .int m t2), (Str.ofString "day", .int d t3), (Str.ofString "first", .int (ja y) t4), (Str.ofString "behind", .int (ja (y + 1)) t5)] [(D, PySem.W.listOf ws.toArray 0)] s' ∧
    IntsAre ws ns ∧ ns.length = 5 ∧ (-4711 ≤ y ∧ y ≤ 21000) ∧ (1 ≤ m ∧ m ≤ 13) ∧ (1 ≤ d ∧ d ≤ 30) ∧ (m = 13 → th (y + 3760) = true)
/-- behind the eighth: the day settled -/
def P8 (s : Shared) (h₀ : Heap) (L : Addr) (s' : Shared) : Prop :=
  ∃ (D : Addr) (ws : List Value) (ns : List Int) (t1 t2 t3 t4 t5 t6 : Tok) (y m d o : Int), St s h₀ L [(Str.ofString "numbers", .ref D), (Str.ofString "year", .int y t1), (Str.ofString "month", .int m t2), (Str.ofString "day", .int d t3), (Str.ofString "first", .int (ja y) t4), (Str.ofString "behind", .int (ja (y + 1)) t5), (Str.ofString "one", .int o t6)] [(D, PySem.W.listOf ws.toArray 0)] s' ∧
    IntsAre ws ns ∧ ns.length = 5 ∧ (-4711 ≤ y ∧ y ≤ 21000) ∧ (1 ≤ m ∧ m ≤ 13) ∧ (1 ≤ d ∧ d ≤ 30) ∧ ld (y + 3760) m d = some o ∧ (ja y ≤ o ∨ ∃ v, ld (y + 3761) m d = some v)
abbrev tupN (own n : Int) (ta tb : Tok) : Obj := { cls := .type "tuple", data := .seq #[.int own ta, .int n tb] }
/-- behind the loop: one day found | two | none -/
def P10 (s : Shared) (h₀ : Heap) (L : Addr) (s' : Shared) : Prop :=
  (∃ (D : Addr) (ws : List Value) (ns : List Int) (t1 t2 t3 : Tok) (y m d : Int) (Lf T : Addr) (own n : Int) (ta tb : Tok), St s h₀ L [(Str.ofString "numbers", .ref D), (Str.ofString "year", .int y t1), (Str.ofString "month", .int m t2), (Str.ofString "day", .int d t3), (Str.ofString "found", .ref Lf)]
      [(D, PySem.W.listOf ws.toArray 0), (Lf, PySem.W.listOf (#[].push (.ref T)) (0 + 1)), (T, { cls := .type "tuple", data := .seq #[.int own ta, .int n tb] })] s' ∧
    IntsAre ws ns ∧ ns.length = 5 ∧ (-4711 ≤ y ∧ y ≤ 21000) ∧ Own own m d n ∧ Told y m d n ∧ gy n ≤ y) ∨
  (∃ (D : Addr) (ws : List Value) (ns : List Int) (t1 t2 t3 : Tok) (y m d : Int) (Lf T T2 : Addr) (own n : Int) (ta tb : Tok), St s h₀ L [(Str.ofString "numbers", .ref D), (Str.ofString "year", .int y t1), (Str.ofString "month", .int m t2), (Str.ofString "day", .int d t3), (Str.ofString "found", .ref Lf)]
      [(D, PySem.W.listOf ws.toArray 0), (Lf, PySem.W.listOf ((#[].push (.ref T)).push (.ref T2)) (0 + 1 + 1)), (T, { cls := .type "tuple", data := .seq #[.int own ta, .int n tb] })] s' ∧
    IntsAre ws ns ∧ ns.length = 5 ∧ (-4711 ≤ y ∧ y ≤ 21000) ∧ Own own m d n ∧ Told y m d n ∧ gy n ≤ y) ∨
  (∃ (D : Addr) (ws : List Value) (ns : List Int) (t1 t2 t3 t6 : Tok) (y m d o : Int) (Lf : Addr), St s h₀ L [(Str.ofString "numbers", .ref D), (Str.ofString "year", .int y t1), (Str.ofString "month", .int m t2), (Str.ofString "day", .int d t3), (Str.ofString "found", .ref Lf), (Str.ofString "one", .int o t6)]
      [(D, PySem.W.listOf ws.toArray 0), (Lf, PySem.W.listOf #[] 0)] s' ∧
    IntsAre ws ns ∧ ns.length = 5 ∧ (-4711 ≤ y ∧ y ≤ 21000) ∧ Own (y + 3760) m d o ∧ Refd y m d ∧ gy o ≤ y)
theorem P10.fr {s s' : Shared} {h₀ : Heap} {L : Addr} (hp : P10 s h₀ L s') : ∃ (h : Heap) (tk : Nat) (m : Str → Option Value), s' = { s with heap := h, toks := tk } ∧ Fr h₀ L h m := by
  rcases hp with ⟨_, _, _, _, _, _, _, _, _, _, _, _, _, _, _, ⟨h, tk, u, e, F, _⟩, _⟩ | ⟨_, _, _, _, _, _, _, _, _, _, _, _, _, _, _, _, ⟨h, tk, u, e, F, _⟩, _⟩ | ⟨_, _, _, _, _, _, _, _, _, _, _, _, ⟨h, tk, u, e, F, _⟩, _⟩
  · exact ⟨h, tk, _, e, F⟩
  · exact ⟨h, tk, _, e, F⟩
  · exact ⟨h, tk, _, e, F⟩
def P16 (s : Shared) (h₀ : Heap) (L : Addr) (s' : Shared) : Prop :=
  ∃ (D : Addr) (ws : List Value) (ns : List Int) (t1 : Tok) (y : Int), St s h₀ L [(Str.ofString "numbers", .ref D), (Str.ofString "year", .int y t1)] [(D, PySem.W.listOf ws.toArray 0)] s' ∧
    IntsAre ws ns ∧ ns.length = 5 ∧ (-4711 ≤ y ∧ y ≤ 21000)
def P19 (s : Shared) (h₀ : Heap) (L : Addr) (s' : Shared) : Prop :=
  ∃ (t1 t2 t3 : Tok) (y o p : Int), St s h₀ L [(Str.ofString "year", .int y t1), (Str.ofString "other", .int o t2), (Str.ofString "past", .int p t3)] [] s' ∧ ¬ (0 < p ∧ p ≤ dim y o) ∧ (-100 < o ∧ o < 100) ∧ (-100 < p ∧ p < 100)
theorem rg4 (y : Int) (hy : -4711 ≤ y ∧ y ≤ 21000) : Builtin.Range.small (y + 3759) (y + 3763) 1 = true := small_one (by omega) (by omega) (by omega) (by omega)
theorem rs4 (y : Int) : Builtin.Range.rangeSize (y + 3759) (y + 3763) 1 = ((4 : Nat) : Int) := by
  rw [rangeSize_one]
  split <;> omega
theorem add0 (y : Int) : y + 3759 + ((0 : Nat) : Int) = y + 3759 := by omega
theorem add1 (y : Int) : y + 3759 + ((1 : Nat) : Int) = y + 3760 := by omega
theorem add2 (y : Int) : y + 3759 + ((2 : Nat) : Int) = y + 3761 := by omega
theorem add3 (y : Int) : y + 3759 + ((3 : Nat) : Int) = y + 3762 := by omega
theorem rr_succ {prog : Program} {w : World} {A : Around} {E : Value → Shared → Prop} {s : Shared} {env : Env} {h₀ : Heap} {x : Str} {body : List Stmt} {Q : Flow → Shared → Prop} {I : Addr} {a v : Int} {n k i : Nat} {m : Str → Option Value} {news : List (Addr × Obj)}
    (e : a + (i : Int) = v)
    (h : ∀ t h tk, Fr h₀ env.locals h (fun y => if y = x then some (.int v t) else m y) → News h₀ env.locals h ((I, itR (a + ((i + 1 : Nat) : Int)) ((n : Int) - ((i + 1 : Nat) : Int))) :: news) →
      wpAny (model prog w) A (execs body env) (UnrPost h₀ env.locals { s with heap := h, toks := tk } I (itR (a + ((i + 1 : Nat) : Int)) ((n : Int) - ((i + 1 : Nat) : Int))) (RangeRest prog w A E h₀ env x body Q s I a n k (i + 1)) Q) E { s with heap := h, toks := tk }) :
    RangeRest prog w A E h₀ env x body Q s I a n (k + 1) i m news := RangeRest.succ fun t h' tk F N => h t h' tk (by rw [← e]; exact F) N
theorem cut_out {M : Model} {A : Around} {env : Env} {Q : Flow → Shared → Prop} {E : Value → Shared → Prop} {s : Shared} {h₀ : Heap} {L : Addr} {m : Str → Option Value} {news : List (Addr × Obj)} (_F : Fr h₀ L s.heap m) (_N : News h₀ L s.heap news) (x : Str) (n : Nat) {body : List Stmt}
    (h1 : Cut M A env Q E (fun s' => ∃ (h : Heap) (tk : Nat) (v : Value), s' = { s with heap := h, toks := tk } ∧ Fr h₀ L h (fun z => if z = x then some v else m z) ∧ News h₀ L h news) n body s)
    (h2 : ∀ (h : Heap) (tk : Nat) (v : Value), Fr h₀ L h (fun z => if z = x then some v else m z) → News h₀ L h news → wpAny M A (execs (body.drop n) env) Q E { s with heap := h, toks := tk }) : wpAny M A (execs body env) Q E s :=
  cut_at _ n h1 fun _ ⟨h, tk, v, e, F, N⟩ => e ▸ h2 h tk v F N
theorem len5 (xs : List Int) : (List.take 5 (List.take 5 xs ++ [0, 0, 0, 0, 0])).length = 5 := by
  simp only [List.length_take, List.length_append, List.length_cons, List.length_nil]
  omega
theorem fm_bd (a k : Int) (h : 0 < k) : 0 ≤ a.fmod k ∧ a.fmod k < k := by
  rw [fm a (Int.le_of_lt h)]
  exact ⟨Int.emod_nonneg _ (by omega), Int.emod_lt_of_pos _ h⟩
theorem y_bd (a : Int) : -4711 ≤ (a + 6735).fmod 25712 - 4711 ∧ (a + 6735).fmod 25712 - 4711 ≤ 21000 := by
  have q := fm_bd (a + 6735) 25712 (by omega)
  omega
theorem m_bd (a k : Int) (h : 0 < k) : 1 ≤ a.fmod k + 1 ∧ a.fmod k + 1 ≤ k := by
  have q := fm_bd a k h
  omega
theorem p19a (y a b : Int) (h : b.fmod 64 < 32) : ¬ (0 < [31, feb y, 31, 30, 31, 30, 31, 31, 30, 31, 30, 31].getD (a.fmod 12 + 1 - 1).toNat 0 + 1 + b.fmod 64 ∧ [31, feb y, 31, 30, 31, 30, 31, 31, 30, 31, 30, 31].getD (a.fmod 12 + 1 - 1).toNat 0 + 1 + b.fmod 64 ≤ dim y (a.fmod 12 + 1)) ∧
    (-100 < a.fmod 12 + 1 ∧ a.fmod 12 + 1 < 100) ∧ (-100 < [31, feb y, 31, 30, 31, 30, 31, 31, 30, 31, 30, 31].getD (a.fmod 12 + 1 - 1).toNat 0 + 1 + b.fmod 64 ∧ [31, feb y, 31, 30, 31, 30, 31, 31, 30, 31, 30, 31].getD (a.fmod 12 + 1 - 1).toNat 0 + 1 + b.fmod 64 < 100) := by
  have q := fm_bd a 12 (by omega)
  have r := fm_bd b 64 (by omega)
  have k := past_bad y (a.fmod 12 + 1) (b.fmod 64) (by omega) r.1
  have e := sz_eq y (a.fmod 12 + 1 - 1) (by omega) (by omega)
  have z := dim_bd y (a.fmod 12 + 1 - 1 + 1)
  rw [← e] at z
  unfold sz szs at k z
  exact ⟨k, by omega, by omega⟩
theorem p19b (y a b : Int) (h : ¬ b.fmod 64 < 32) : ¬ (0 < 32 - b.fmod 64 ∧ 32 - b.fmod 64 ≤ dim y (a.fmod 12 + 1)) ∧ (-100 < a.fmod 12 + 1 ∧ a.fmod 12 + 1 < 100) ∧ (-100 < 32 - b.fmod 64 ∧ 32 - b.fmod 64 < 100) := by
  have q := fm_bd a 12 (by omega)
  have r := fm_bd b 64 (by omega)
  exact ⟨by omega, by omega, by omega⟩
end Mine
end
section
open PySem PySem.W PyProof.Rows PySem.Spec PySem.Calls
namespace Mine
local macro_rules | `(tactic| walk_at "no such step") => `(tactic| fail)
local macro_rules | `(tactic| walk_at "no such step") => `(tactic| fail)
local macro_rules | `(tactic| walk_at "no such step") => `(tactic| fail)
local macro_rules | `(tactic| walk_at "no such step") => `(tactic| fail)
local macro_rules | `(tactic| walk_at "no such step") => `(tactic| fail)
local macro_rules | `(tactic| walk_at "no such step") => `(tactic| fail)
local macro_rules | `(tactic| walk_at "no such step") => `(tactic| fail)
local macro_rules | `(tactic| walk_at "no such step") => `(tactic| fail)
local macro_rules | `(tactic| walk_at "no such step") => `(tactic| fail)
local macro_rules | `(tactic| walk_at "no such step") => `(tactic| fail)
local macro_rules | `(tactic| walk_at "no such step") => `(tactic| fail)
local macro_rules | `(tactic| walk_at "no such step") => `(tactic| fail)
local macro_rules | `(tactic| walk_at "no such step") => `(tactic| fail)
local macro_rules | `(tactic| walk_at "no such step") => `(tactic| fail)
local macro_rules | `(tactic| walk_at "no such step") => `(tactic| fail)
local macro_rules | `(tactic| walk_at "no such step") => `(tactic| fail)
local macro_rules | `(tactic| walk_at "no such step") => `(tactic| fail)
local macro_rules | `(tactic| walk_at "eval Call") => `(tactic| (k_here; (with_reducible show wpAny _ _ (eval (Expr.Call (Expr.Name _ _) _ [] _) _) _ _ _); k_dflt (refine Call_ ?_)))
local macro_rules | `(tactic| walk_at "call ref") => `(tactic| (
  k_here
  (with_reducible show wpAny _ _ (call (Value.ref 57) _) _ _ _)
  k_dflt (
  refine' leap_c ?k1 ?k2 ?k3 ?k4 ?k5 ?kK ?kd ?ku ?_
  (case k1 => first | k_asm | ktn_no "use: the frames below")
  (case k2 => first | k_asm | ktn_no "use: the frame")
  (case k3 => first | k_asm | ktn_no "use: the written part")
  (case k4 => first | k_asm | ktn_no "use: the ledger")
  (case k5 => first | k_asm | ktn_no "use: the top's facts")
  (case kK => first | exact rfl | assumption | ktn_no "use: the caller is no def")
  (case kd => first | ktr_room | ktn_no "use: the frames' room")
  (case ku => first | ktr_units | ktn_no "use: the C units")
  intro t9 h9 tk9 F9 N9
  (try k_sweep)
  (try dsimp only)
  (try k_fold))))
local macro_rules | `(tactic| walk_at "call ref") => `(tactic| (
  k_here
  (with_reducible show wpAny _ _ (call (Value.ref 71) _) _ _ _)
  k_dflt (
  refine' d1_c ?k1 ?k2 ?k3 ?k4 ?k5 ?kK ?kd ?ku ?_
  (case k1 => first | k_asm | ktn_no "use: the frames below")
  (case k2 => first | k_asm | ktn_no "use: the frame")
  (case k3 => first | k_asm | ktn_no "use: the written part")
  (case k4 => first | k_asm | ktn_no "use: the ledger")
  (case k5 => first | k_asm | ktn_no "use: the top's facts")
  (case kK => first | exact rfl | assumption | ktn_no "use: the caller is no def")
  (case kd => first | ktr_room | ktn_no "use: the frames' room")
  (case ku => first | ktr_units | ktn_no "use: the C units")
  intro t9 h9 tk9 F9 N9
  (try k_sweep)
  (try dsimp only)
  (try k_fold))))
local macro_rules | `(tactic| walk_at "call ref") => `(tactic| (
  k_here
  (with_reducible show wpAny _ _ (call (Value.ref 28) _) _ _ _)
  k_dflt (
  refine' mid_c ?k1 ?k2 ?k3 ?k4 ?k5 ?kK ?kd ?ku ?_
  (case k1 => first | k_asm | ktn_no "use: the frames below")
  (case k2 => first | k_asm | ktn_no "use: the frame")
  (case k3 => first | k_asm | ktn_no "use: the written part")
  (case k4 => first | k_asm | ktn_no "use: the ledger")
  (case k5 => first | k_asm | ktn_no "use: the top's facts")
  (case kK => first | exact rfl | assumption | ktn_no "use: the caller is no def")
  (case kd => first | ktr_room | ktn_no "use: the frames' room")
  (case ku => first | ktr_units | ktn_no "use: the C units")
  intro t9 h9 tk9 F9 N9
  (try k_sweep)
  (try dsimp only)
  (try k_fold))))
local macro_rules | `(tactic| walk_at "call ref") => `(tactic| (
  k_here
  (with_reducible show wpAny _ _ (call (Value.ref 21) _) _ _ _)
  k_dflt (
  refine' isl_c ?k1 ?k2 ?k3 ?k4 ?k5 ?kK ?kd ?ku ?_
  (case k1 => first | k_asm | ktn_no "use: the frames below")
  (case k2 => first | k_asm | ktn_no "use: the frame")
  (case k3 => first | k_asm | ktn_no "use: the written part")
  (case k4 => first | k_asm | ktn_no "use: the ledger")
  (case k5 => first | k_asm | ktn_no "use: the top's facts")
  (case kK => first | exact rfl | assumption | ktn_no "use: the caller is no def")
  (case kd => first | ktr_room | ktn_no "use: the frames' room")
  (case ku => first | ktr_units | ktn_no "use: the C units")
  intro t9 h9 tk9 F9 N9
  (try k_sweep)
  (try dsimp only)
  (try k_fold))))
local macro_rules | `(tactic| walk_at "call ref") => `(tactic| (
  k_here
  (with_reducible show wpAny _ _ (call (Value.ref 64) _) _ _ _)
  k_dflt (
  refine' ym_c ?k1 ?k2 ?k3 ?k4 ?k5 ?kK ?kd ?ku ?_
  (case k1 => first | k_asm | ktn_no "use: the frames below")
  (case k2 => first | k_asm | ktn_no "use: the frame")
  (case k3 => first | k_asm | ktn_no "use: the written part")
  (case k4 => first | k_asm | ktn_no "use: the ledger")
  (case k5 => first | k_asm | ktn_no "use: the top's facts")
  (case kK => first | exact rfl | assumption | ktn_no "use: the caller is no def")
  (case kd => first | ktr_room | ktn_no "use: the frames' room")
  (case ku => first | ktr_units | ktn_no "use: the C units")
  intro t9 h9 tk9 F9 N9
  (try k_sweep)
  (try dsimp only)
  (try k_fold))))
local macro_rules | `(tactic| walk_at "call ref") => `(tactic| (
  k_here
  (with_reducible show wpAny _ _ (call (Value.ref 78) _) _ _ _)
  k_dflt (
  refine' d2_c ?k1 ?k2 ?k3 ?k4 ?k5 ?kK ?kd ?ku ?_
  (case k1 => first | k_asm | ktn_no "use: the frames below")
  (case k2 => first | k_asm | ktn_no "use: the frame")
  (case k3 => first | k_asm | ktn_no "use: the written part")
  (case k4 => first | k_asm | ktn_no "use: the ledger")
  (case k5 => first | k_asm | ktn_no "use: the top's facts")
  (case kK => first | exact rfl | assumption | ktn_no "use: the caller is no def")
  (case kd => first | ktr_room | ktn_no "use: the frames' room")
  (case ku => first | ktr_units | ktn_no "use: the C units")
  intro t9 h9 tk9 F9 N9
  (try k_sweep)
  (try dsimp only)
  (try k_fold))))
local macro_rules | `(tactic| walk_at "call ref") => `(tactic| (
  k_here
  (with_reducible show wpAny _ _ (call (Value.ref 106) _) _ _ _)
  k_dflt (
  refine' hj_c ?k1 ?k2 ?k3 ?k4 ?k5 ?kK ?kd ?ku ?_
  (case k1 => first | k_asm | ktn_no "use: the frames below")
  (case k2 => first | k_asm | ktn_no "use: the frame")
  (case k3 => first | k_asm | ktn_no "use: the written part")
  (case k4 => first | k_asm | ktn_no "use: the ledger")
  (case k5 => first | k_asm | ktn_no "use: the top's facts")
  (case kK => first | exact rfl | assumption | ktn_no "use: the caller is no def")
  (case kd => first | ktr_room | ktn_no "use: the frames' room")
  (case ku => first | ktr_units | ktn_no "use: the C units")
  intro t9 h9 tk9 F9 N9
  (try k_sweep)
  (try dsimp only)
  (try k_fold))))
local macro_rules | `(tactic| walk_at "call ref") => `(tactic| (
  k_here
  (with_reducible show wpAny _ _ (call (Value.ref 85) _) _ _ _)
  k_dflt (
  refine' yd_c ?k1 ?k2 ?k3 ?k4 ?k5 ?kK ?kd ?ku ?_
  (case k1 => first | k_asm | ktn_no "use: the frames below")
  (case k2 => first | k_asm | ktn_no "use: the frame")
  (case k3 => first | k_asm | ktn_no "use: the written part")
  (case k4 => first | k_asm | ktn_no "use: the ledger")
  (case k5 => first | k_asm | ktn_no "use: the top's facts")
  (case kK => first | exact rfl | assumption | ktn_no "use: the caller is no def")
  (case kd => first | ktr_room | ktn_no "use: the frames' room")
  (case ku => first | ktr_units | ktn_no "use: the C units")
  intro t9 h9 tk9 F9 N9
  (try k_sweep)
  (try dsimp only)
  (try k_fold))))
local macro_rules | `(tactic| walk_at "call ref") => `(tactic| (
  k_here
  (with_reducible show wpAny _ _ (call (Value.ref 92) _) _ _ _)
  k_dflt (
  refine' (ml_c ?kp) ?k1 ?k2 ?k3 ?k4 ?k5 ?kK ?kd ?ku ?_
  (case k1 => first | k_asm | ktn_no "use: the frames below")
  (case k2 => first | k_asm | ktn_no "use: the frame")
  (case k3 => first | k_asm | ktn_no "use: the written part")
  (case k4 => first | k_asm | ktn_no "use: the ledger")
  (case k5 => first | k_asm | ktn_no "use: the top's facts")
  (case kK => first | exact rfl | assumption | ktn_no "use: the caller is no def")
  (case kd => first | ktr_room | ktn_no "use: the frames' room")
  (case ku => first | ktr_units | ktn_no "use: the C units")
  (case kp => first | assumption | omega | l_fact | ktn_no "use: the premise")
  intro t9 h9 tk9 F9 N9
  (try k_sweep)
  (try dsimp only)
  (try k_fold))))
local macro_rules | `(tactic| walk_at "call ref") => `(tactic| (
  k_here
  (with_reducible show wpAny _ _ (call (Value.ref 99) _) _ _ _)
  k_dflt (
  refine' (md_c ?kp) ?k1 ?k2 ?k3 ?k4 ?k5 ?kK ?kd ?ku ?_
  (case k1 => first | k_asm | ktn_no "use: the frames below")
  (case k2 => first | k_asm | ktn_no "use: the frame")
  (case k3 => first | k_asm | ktn_no "use: the written part")
  (case k4 => first | k_asm | ktn_no "use: the ledger")
  (case k5 => first | k_asm | ktn_no "use: the top's facts")
  (case kK => first | exact rfl | assumption | ktn_no "use: the caller is no def")
  (case kd => first | ktr_room | ktn_no "use: the frames' room")
  (case ku => first | ktr_units | ktn_no "use: the C units")
  (case kp => first | assumption | omega | l_fact | ktn_no "use: the premise")
  intro t9 h9 tk9 F9 N9
  (try k_sweep)
  (try dsimp only)
  (try k_fold))))
local macro_rules | `(tactic| walk_at "call ref") => `(tactic| (
  k_here
  (with_reducible show wpAny _ _ (call (Value.ref 106) _) _ _ _)
  k_dflt (
  refine' (tj_c ?kp ?kq) ?k1 ?k2 ?k3 ?k4 ?k5 ?kK ?kd ?ku ?_
  (case k1 => first | k_asm | ktn_no "use: the frames below")
  (case k2 => first | k_asm | ktn_no "use: the frame")
  (case k3 => first | k_asm | ktn_no "use: the written part")
  (case k4 => first | k_asm | ktn_no "use: the ledger")
  (case k5 => first | k_asm | ktn_no "use: the top's facts")
  (case kK => first | exact rfl | assumption | ktn_no "use: the caller is no def")
  (case kd => first | ktr_room | ktn_no "use: the frames' room")
  (case ku => first | ktr_units | ktn_no "use: the C units")
  (case kp => first | assumption | omega | l_fact | ktn_no "use: the premise")
  (case kq => first | assumption | omega | l_fact | ktn_no "use: the premise")
  intro t9 h9 tk9 F9 N9
  (try k_sweep)
  (try dsimp only)
  (try k_fold))))
local macro_rules | `(tactic| walk_at "call ref") => `(tactic| (
  k_here
  (with_reducible show wpAny _ _ (call (Value.ref 106) _) _ _ _)
  k_dflt (
  refine' hj_c ?k1 ?k2 ?k3 ?k4 ?k5 ?kK ?kd ?ku ?_
  (case k1 => first | k_asm | ktn_no "use: the frames below")
  (case k2 => first | k_asm | ktn_no "use: the frame")
  (case k3 => first | k_asm | ktn_no "use: the written part")
  (case k4 => first | k_asm | ktn_no "use: the ledger")
  (case k5 => first | k_asm | ktn_no "use: the top's facts")
  (case kK => first | exact rfl | assumption | ktn_no "use: the caller is no def")
  (case kd => first | ktr_room | ktn_no "use: the frames' room")
  (case ku => first | ktr_units | ktn_no "use: the C units")
  intro t9 h9 tk9 F9 N9
  (try k_sweep)
  (try dsimp only)
  (try k_fold))))
theorem in30d {prog : Program} {w : World} {A : Around} {E : Value → Shared → Prop} {s : Shared} {K : Frag} {x : Int} {u : Tok} {Q : Value → Shared → Prop} {t1 t2 t3 t4 : Tok} {n : Nat} {dd : Option Addr} {sl : Array (Option Value)} (X : K.In s.heap) (hl : K.lookup 29 = some ⟨.type "tuple", dd, .seq [.int 4 t1, .int 6 t2, .int 9 t3, .int 11 t4].toArray n, sl⟩)
    (h : Q (.bool (has30 x)) s) : wpAny (model prog w) A (compareOp .In (.int x u) (.ref 29)) Q E s := in_tuple_ints (tupK X hl) (.cons _ _ (.cons _ _ (.cons _ _ (.cons _ _ .nil)))) h
local macro_rules | `(tactic| walk_at "compareOp In int ref") => `(tactic| (k_here; (with_reducible show wpAny _ _ (compareOp CmpOp.In (Value.int _ _) (Value.ref 29)) _ _ _); k_dflt (refine' in30d ?X ?l ?_; (case X => first | assumption | exact Frag.In.keeps (by k_asm) (Fr.keep (by k_asm))); (case l => k_is))))
local macro_rules | `(tactic| walk_at "call ref") => `(tactic| (
  k_here
  (with_reducible show wpAny _ _ (call (Value.ref 36) _) _ _ _)
  k_dflt (
  refine' (lg_c ?kp) ?k1 ?k2 ?k3 ?k4 ?k5 ?kK ?kd ?ku ?_
  (case k1 => first | k_asm | ktn_no "use: the frames below")
  (case k2 => first | k_asm | ktn_no "use: the frame")
  (case k3 => first | k_asm | ktn_no "use: the written part")
  (case k4 => first | k_asm | ktn_no "use: the ledger")
  (case k5 => first | k_asm | ktn_no "use: the top's facts")
  (case kK => first | exact rfl | assumption | ktn_no "use: the caller is no def")
  (case kd => first | ktr_room | ktn_no "use: the frames' room")
  (case ku => first | ktr_units | ktn_no "use: the C units")
  (case kp => first | assumption | omega | l_fact | ktn_no "use: the premise")
  intro t9 h9 tk9 F9 N9
  (try k_sweep)
  (try dsimp only)
  (try k_fold))))
local macro_rules | `(tactic| walk_at "call ref") => `(tactic| (
  k_here
  (with_reducible show wpAny _ _ (call (Value.ref 43) _) _ _ _)
  k_dflt (
  refine' (gj_c ?kp) ?k1 ?k2 ?k3 ?k4 ?k5 ?kK ?kd ?ku ?_
  (case k1 => first | k_asm | ktn_no "use: the frames below")
  (case k2 => first | k_asm | ktn_no "use: the frame")
  (case k3 => first | k_asm | ktn_no "use: the written part")
  (case k4 => first | k_asm | ktn_no "use: the ledger")
  (case k5 => first | k_asm | ktn_no "use: the top's facts")
  (case kK => first | exact rfl | assumption | ktn_no "use: the caller is no def")
  (case kd => first | ktr_room | ktn_no "use: the frames' room")
  (case ku => first | ktr_units | ktn_no "use: the C units")
  (case kp => first | exact dim_one _ _ | assumption | assumption | omega | l_fact | ktn_no "use: the premise")
  intro t9 h9 tk9 F9 N9
  (try k_sweep)
  (try dsimp only)
  (try k_fold))))
local macro_rules | `(tactic| walk_at "call ref") => `(tactic| (
  k_here
  (with_reducible show wpAny _ _ (call (Value.ref 50) _) _ _ _)
  k_dflt (
  refine' fg_c ?k1 ?k2 ?k3 ?k4 ?k5 ?kK ?kd ?ku ?_
  (case k1 => first | k_asm | ktn_no "use: the frames below")
  (case k2 => first | k_asm | ktn_no "use: the frame")
  (case k3 => first | k_asm | ktn_no "use: the written part")
  (case k4 => first | k_asm | ktn_no "use: the ledger")
  (case k5 => first | k_asm | ktn_no "use: the top's facts")
  (case kK => first | exact rfl | assumption | ktn_no "use: the caller is no def")
  (case kd => first | ktr_room | ktn_no "use: the frames' room")
  (case ku => first | ktr_units | ktn_no "use: the C units")
  intro D9 t91 t92 t93 c9 h9 tk9 F9 N9 l9
  (try simp only [AllLt, and_true] at l9)
  (try k_sweep)
  (try dsimp only)
  (try k_fold))))
local macro_rules | `(tactic| walk_at "call ref") => `(tactic| (
  k_here
  (with_reducible show wpAny _ _ (call (Value.ref 113) _) _ _ _)
  k_dflt (
  refine' (fh_c (f := _) ?kp) ?k1 ?k2 ?k3 ?k4 ?k5 ?kK ?kd ?ku ?_
  (case k1 => first | k_asm | ktn_no "use: the frames below")
  (case k2 => first | k_asm | ktn_no "use: the frame")
  (case k3 => first | k_asm | ktn_no "use: the written part")
  (case k4 => first | k_asm | ktn_no "use: the ledger")
  (case k5 => first | k_asm | ktn_no "use: the top's facts")
  (case kK => first | exact rfl | assumption | ktn_no "use: the caller is no def")
  (case kd => first | ktr_room | ktn_no "use: the frames' room")
  (case ku => first | ktr_units | ktn_no "use: the C units")
  (case kp => first | assumption | omega | l_fact | ktn_no "use: the premise")
  intro D9 t91 t92 t93 c9 h9 tk9 F9 N9 l9
  (try simp only [AllLt, and_true] at l9)
  (try k_sweep)
  (try dsimp only)
  (try k_fold))))
local macro_rules | `(tactic| walk_at "call ref") => `(tactic| (
  k_here
  (with_reducible show wpAny _ _ (call (Value.ref 163) _) _ _ _)
  k_dflt (
  refine' ja_c ?k1 ?k2 ?k3 ?k4 ?k5 ?kK ?kd ?ku ?_
  (case k1 => first | k_asm | ktn_no "use: the frames below")
  (case k2 => first | k_asm | ktn_no "use: the frame")
  (case k3 => first | k_asm | ktn_no "use: the written part")
  (case k4 => first | k_asm | ktn_no "use: the ledger")
  (case k5 => first | k_asm | ktn_no "use: the top's facts")
  (case kK => first | exact rfl | assumption | ktn_no "use: the caller is no def")
  (case kd => first | ktr_room | ktn_no "use: the frames' room")
  (case ku => first | ktr_units | ktn_no "use: the C units")
  intro t9 h9 tk9 F9 N9
  (try k_sweep)
  (try dsimp only)
  (try k_fold))))
local macro_rules | `(tactic| walk_at "call ref") => `(tactic| (
  k_here
  (with_reducible show wpAny _ _ (call (Value.ref 142) _) _ _ _)
  k_dflt (
  refine' th_c ?k1 ?k2 ?k3 ?k4 ?k5 ?kK ?kd ?ku ?_
  (case k1 => first | k_asm | ktn_no "use: the frames below")
  (case k2 => first | k_asm | ktn_no "use: the frame")
  (case k3 => first | k_asm | ktn_no "use: the written part")
  (case k4 => first | k_asm | ktn_no "use: the ledger")
  (case k5 => first | k_asm | ktn_no "use: the top's facts")
  (case kK => first | exact rfl | assumption | ktn_no "use: the caller is no def")
  (case kd => first | ktr_room | ktn_no "use: the frames' room")
  (case ku => first | ktr_units | ktn_no "use: the C units")
  intro t9 h9 tk9 F9 N9
  (try k_sweep)
  (try dsimp only)
  (try k_fold))))
local macro_rules | `(tactic| walk_at "call ref") => `(tactic| (
  k_here
  (with_reducible show wpAny _ _ (call (Value.ref 149) _) _ _ _)
  k_dflt (
  refine' ti_c ?k1 ?k2 ?k3 ?k4 ?k5 ?kK ?kd ?ku ?_
  (case k1 => first | k_asm | ktn_no "use: the frames below")
  (case k2 => first | k_asm | ktn_no "use: the frame")
  (case k3 => first | k_asm | ktn_no "use: the written part")
  (case k4 => first | k_asm | ktn_no "use: the ledger")
  (case k5 => first | k_asm | ktn_no "use: the top's facts")
  (case kK => first | exact rfl | assumption | ktn_no "use: the caller is no def")
  (case kd => first | ktr_room | ktn_no "use: the frames' room")
  (case ku => first | ktr_units | ktn_no "use: the C units")
  intro t9 h9 tk9 F9 N9
  (try k_sweep)
  (try dsimp only)
  (try k_fold))))
local macro_rules | `(tactic| walk_at "call ref") => `(tactic| (
  k_here
  (with_reducible show wpAny _ _ (call (Value.ref 170) _) _ _ _)
  k_dflt (
  refine' sz_c ?k1 ?k2 ?k3 ?k4 ?k5 ?kK ?kd ?ku ?_
  (case k1 => first | k_asm | ktn_no "use: the frames below")
  (case k2 => first | k_asm | ktn_no "use: the frame")
  (case k3 => first | k_asm | ktn_no "use: the written part")
  (case k4 => first | k_asm | ktn_no "use: the ledger")
  (case k5 => first | k_asm | ktn_no "use: the top's facts")
  (case kK => first | exact rfl | assumption | ktn_no "use: the caller is no def")
  (case kd => first | ktr_room | ktn_no "use: the frames' room")
  (case ku => first | ktr_units | ktn_no "use: the C units")
  intro D9 t1 t2 t3 t4 t5 t6 t7 t8 t9 t10 t11 t12 c9 h9 tk9 F9 N9 l9
  (try simp only [AllLt, and_true] at l9)
  (try k_sweep)
  (try dsimp only)
  (try k_fold))))
local macro_rules | `(tactic| walk_at "call ref") => `(tactic| (
  k_here
  (with_reducible show wpAny _ _ (call (Value.ref 177) _) _ _ _)
  k_dflt (
  refine' (date_c ?kp) ?k1 ?k2 ?k3 ?k4 ?k5 ?kK ?kd ?ku ?_
  (case k1 => first | k_asm | ktn_no "use: the frames below")
  (case k2 => first | k_asm | ktn_no "use: the frame")
  (case k3 => first | k_asm | ktn_no "use: the written part")
  (case k4 => first | k_asm | ktn_no "use: the ledger")
  (case k5 => first | k_asm | ktn_no "use: the top's facts")
  (case kK => first | exact rfl | assumption | ktn_no "use: the caller is no def")
  (case kd => first | ktr_room | ktn_no "use: the frames' room")
  (case ku => first | ktr_units | ktn_no "use: the C units")
  (case kp => first | assumption | omega | l_fact | ktn_no "use: the premise")
  intro D9 t91 t92 t93 c9 h9 tk9 F9 N9 l9
  (try simp only [AllLt, and_true] at l9)
  (try k_sweep)
  (try dsimp only)
  (try k_fold))))
local macro_rules | `(tactic| walk_at "call ref") => `(tactic| (
  k_here
  (with_reducible show wpAny _ _ (call (Value.ref 156) _) _ _ _)
  k_dflt (
  refine' (ld_some ?kp) ?k1 ?k2 ?k3 ?k4 ?k5 ?kK ?kd ?ku ?_
  (case k1 => first | k_asm | ktn_no "use: the frames below")
  (case k2 => first | k_asm | ktn_no "use: the frame")
  (case k3 => first | k_asm | ktn_no "use: the written part")
  (case k4 => first | k_asm | ktn_no "use: the ledger")
  (case k5 => first | k_asm | ktn_no "use: the top's facts")
  (case kK => first | exact rfl | assumption | ktn_no "use: the caller is no def")
  (case kd => first | ktr_room | ktn_no "use: the frames' room")
  (case ku => first | ktr_units | ktn_no "use: the C units")
  (case kp => first | assumption | omega | l_fact | ktn_no "use: the premise")
  intro t9 h9 tk9 F9 N9
  (try k_sweep)
  (try dsimp only)
  (try k_fold))))
local macro_rules | `(tactic| walk_at "call ref") => `(tactic| (
  k_here
  (with_reducible show wpAny _ _ (call (Value.ref 156) _) _ _ _)
  k_dflt (
  refine' (ld_none ?kp) ?k1 ?k2 ?k3 ?k4 ?k5 ?kK ?kd ?ku ?_
  (case k1 => first | k_asm | ktn_no "use: the frames below")
  (case k2 => first | k_asm | ktn_no "use: the frame")
  (case k3 => first | k_asm | ktn_no "use: the written part")
  (case k4 => first | k_asm | ktn_no "use: the ledger")
  (case k5 => first | k_asm | ktn_no "use: the top's facts")
  (case kK => first | exact rfl | assumption | ktn_no "use: the caller is no def")
  (case kd => first | ktr_room | ktn_no "use: the frames' room")
  (case ku => first | ktr_units | ktn_no "use: the C units")
  (case kp => first | assumption | omega | l_fact | ktn_no "use: the premise")
  intro t9 h9 tk9 F9 N9
  (try k_sweep)
  (try dsimp only)
  (try k_fold))))
local macro_rules | `(tactic| walk_at "call ref") => `(tactic| (
  k_here
  (with_reducible show wpAny _ _ (call (Value.ref 134) _) _ _ _)
  k_dflt (
  refine' (togr_c ?kp) ?k1 ?k2 ?k3 ?k4 ?k5 ?kK ?kd ?ku ?_
  (case k1 => first | k_asm | ktn_no "use: the frames below")
  (case k2 => first | k_asm | ktn_no "use: the frame")
  (case k3 => first | k_asm | ktn_no "use: the written part")
  (case k4 => first | k_asm | ktn_no "use: the ledger")
  (case k5 => first | k_asm | ktn_no "use: the top's facts")
  (case kK => first | exact rfl | assumption | ktn_no "use: the caller is no def")
  (case kd => first | ktr_room | ktn_no "use: the frames' room")
  (case ku => first | ktr_units | ktn_no "use: the C units")
  (case kp => first | assumption | omega | l_fact | ktn_no "use: the premise")
  intro D9 t91 t92 t93 c9 h9 tk9 F9 N9 l9
  (try simp only [AllLt, and_true] at l9)
  (try k_sweep)
  (try dsimp only)
  (try k_fold))))
local macro_rules | `(tactic| walk_at "call ref") => `(tactic| (
  k_here
  (with_reducible show wpAny _ _ (call (Value.ref 127) _) _ _ _)
  k_dflt (
  refine' (frgr_c ?kp) ?k1 ?k2 ?k3 ?k4 ?k5 ?kK ?kd ?ku ?_
  (case k1 => first | k_asm | ktn_no "use: the frames below")
  (case k2 => first | k_asm | ktn_no "use: the frame")
  (case k3 => first | k_asm | ktn_no "use: the written part")
  (case k4 => first | k_asm | ktn_no "use: the ledger")
  (case k5 => first | k_asm | ktn_no "use: the top's facts")
  (case kK => first | exact rfl | assumption | ktn_no "use: the caller is no def")
  (case kd => first | ktr_room | ktn_no "use: the frames' room")
  (case ku => first | ktr_units | ktn_no "use: the C units")
  (case kp => first | assumption | omega | l_fact | ktn_no "use: the premise")
  intro D9 t91 t92 t93 c9 h9 tk9 F9 N9 l9
  (try simp only [AllLt, and_true] at l9)
  (try k_sweep)
  (try dsimp only)
  (try k_fold))))
local macro_rules | `(tactic| walk_at "call ref") => `(tactic| (
  k_here
  (with_reducible show wpAny _ _ (call (Value.ref 127) _) _ _ _)
  k_dflt (
  refine' (fgrx_c ?kp ?kq ?kr) ?k1 ?k2 ?k3 ?k4 ?k5 ?kK ?kd ?ku ?_
  (case k1 => first | k_asm | ktn_no "use: the frames below")
  (case k2 => first | k_asm | ktn_no "use: the frame")
  (case k3 => first | k_asm | ktn_no "use: the written part")
  (case k4 => first | k_asm | ktn_no "use: the ledger")
  (case k5 => first | k_asm | ktn_no "use: the top's facts")
  (case kK => first | exact rfl | assumption | ktn_no "use: the caller is no def")
  (case kd => first | ktr_room | ktn_no "use: the frames' room")
  (case ku => first | ktr_units | ktn_no "use: the C units")
  (case kp => first | assumption | omega | l_fact | ktn_no "use: the premise")
  (case kq => first | assumption | omega | l_fact | ktn_no "use: the premise")
  (case kr => first | assumption | omega | l_fact | ktn_no "use: the premise")
  intro e9 g9 h9 tk9 F9 R9 U9
  (try dsimp only)
  (try k_fold))))
local macro_rules | `(tactic| walk_at "call ref") => `(tactic| (
  k_here
  (with_reducible show wpAny _ _ (call (Value.ref 120) _) _ _ _)
  k_dflt (
  refine' (told_c ?kp) ?k1 ?k2 ?k3 ?k4 ?k5 ?kK ?kd ?ku ?_
  (case k1 => first | k_asm | ktn_no "use: the frames below")
  (case k2 => first | k_asm | ktn_no "use: the frame")
  (case k3 => first | k_asm | ktn_no "use: the written part")
  (case k4 => first | k_asm | ktn_no "use: the ledger")
  (case k5 => first | k_asm | ktn_no "use: the top's facts")
  (case kK => first | exact rfl | assumption | ktn_no "use: the caller is no def")
  (case kd => first | ktr_room | ktn_no "use: the frames' room")
  (case ku => first | ktr_units | ktn_no "use: the C units")
  (case kp => first | assumption | omega | l_fact | ktn_no "use: the premise")
  intro t9 h9 tk9 F9 N9
  (try k_sweep)
  (try dsimp only)
  (try k_fold))))
local macro_rules | `(tactic| walk_at "call ref") => `(tactic| (
  k_here
  (with_reducible show wpAny _ _ (call (Value.ref 120) _) _ _ _)
  k_dflt (
  refine' (refd_c ?kp) ?k1 ?k2 ?k3 ?k4 ?k5 ?kK ?kd ?ku ?_
  (case k1 => first | k_asm | ktn_no "use: the frames below")
  (case k2 => first | k_asm | ktn_no "use: the frame")
  (case k3 => first | k_asm | ktn_no "use: the written part")
  (case k4 => first | k_asm | ktn_no "use: the ledger")
  (case k5 => first | k_asm | ktn_no "use: the top's facts")
  (case kK => first | exact rfl | assumption | ktn_no "use: the caller is no def")
  (case kd => first | ktr_room | ktn_no "use: the frames' room")
  (case ku => first | ktr_units | ktn_no "use: the C units")
  (case kp => first | assumption | omega | l_fact | ktn_no "use: the premise")
  intro e9 g9 h9 tk9 F9 R9 U9
  (try dsimp only)
  (try k_fold))))
local macro_rules | `(tactic| walk_at "ite") => `(tactic| (k_here; first | with_reducible refine ite_epos (by with_reducible assumption) ?_ | with_reducible refine ite_eneg (by with_reducible assumption) ?_ | with_reducible refine ite_dpos (by with_reducible assumption) ?_ | with_reducible refine ite_dneg (by with_reducible assumption) ?_ | with_reducible refine ite_pos (by with_reducible assumption) ?_ | with_reducible refine ite_bneg (by with_reducible assumption) ?_ | with_reducible refine ite_neg (by with_reducible assumption) ?_))
local macro_rules | `(tactic| walk_at "subscriptTail") => `(tactic| (k_here; (with_reducible show wpAny _ _ (subscriptTail (PySem.Expr.BinOp _ _ _ _) (PySem.Expr.Slice _ _ _ _) _ _) _ _ _); k_dflt (refine kba_turn (value' := PySem.Expr.Name (PySem.Str.ofString "_") ⟨0, 0, 0, 0⟩) (fun _ => rfl) ?_)))
local macro_rules | `(tactic| walk_at "pyIter ref") => `(tactic| (k_here; (with_reducible show wpAny _ _ (pyIter (Value.ref _)) (fun it s₂ => LoopAtV _ _ _ _ _ _ _ _ _ it s₂) _ _); (rename Fr _ _ _ _ => lF'); (rename News _ _ _ _ => lN'); (rename IsRange _ _ _ _ _ _ _ _ => rgX); (with_unfolding_all refine iter_rangeUnr (n := 4) (by rfl) rgX (rg4 _ (by assumption)) (rs4 _) lF' lN' ?_); clear lF' lN' rgX; intro i' l1; (try k_lt l1)))
set_option maxRecDepth 100000 in
set_option maxHeartbeats 20000000 in
theorem law_true : PySem.Challenge.rw_bn0008_01.Holds := hd (by
  k_go0
  (all_goals try k_fold)
  (rename Fr _ _ _ _ => F0)
  refine cut_pt P4 F0 4 ?_ ?_
  · repeat' (first | (k_unfold; (try dsimp only)) | ((with_reducible show Cut _ _ _ _ _ _ _ _ _); refine cut_cons ?_; (try k_fold)) | (walk1))
    (refine ⟨_, _, _, _, _, _, _, _, _, st_mk (by rfl) (by assumption) (by assumption) ⟨by rfl, by rfl, by rfl, by rfl, trivial⟩ ⟨by k_mem, trivial⟩, (by assumption), ?_, ?_, ?_, ?_⟩)
    · exact len5 _
    · exact y_bd _
    · exact m_bd _ 13 (by omega)
    · exact m_bd _ 30 (by omega)
  intro s9 ⟨D, ws, ns, t1, t2, t3, y, m, d, ⟨h9, tk9, u9, e9, F9, N9⟩, hI9, hn9, hy9, hm9, hd9⟩
  subst e9
  clear F0
  (try k_sweep)
  dsimp only [List.drop]
  refine cut_pt P6 F9 2 ?_ ?_
  · repeat' (first | (k_unfold; (try dsimp only)) | ((with_reducible show Cut _ _ _ _ _ _ _ _ _); refine cut_cons ?_; (try k_fold)) | (walk1; all_goals (try dsimp only)))
    all_goals (
      (refine ⟨_, _, _, _, _, _, _, _, _, _, _, st_mk (by rfl) (by first | with_reducible assumption | assumption) (by first | with_reducible assumption | assumption) ⟨by rfl, by rfl, by rfl, by rfl, by rfl, by rfl, trivial⟩ ⟨by k_mem, trivial⟩, (by assumption), (by assumption), hy9, ?_, hd9, ?_⟩)
      · omega
      · first | (intro _; assumption) | (intro q; exact absurd q (by omega)))
  clear hI9 hn9 hy9 hm9 hd9 F9 N9
  intro s9 ⟨D, ws, ns, t1, t2, t3, t4, t5, y, m, d, ⟨h9, tk9, u9, e9, F9, N9⟩, hI9, hn9, hy9, hm9, hd9, hth9⟩
  subst e9
  (try k_sweep)
  dsimp only [List.drop]
  obtain ⟨o29, ht9, hw9⟩ := tweak y m hy9 hm9.1 hm9.2 hth9
  refine cut_pt P8 F9 2 ?_ ?_
  · cases h60 : ld (y + 3760) m d with
    | none =>
      repeat' (first | (k_unfold; (try dsimp only)) | ((with_reducible show Cut _ _ _ _ _ _ _ _ _); refine cut_cons ?_; (try k_fold)) | (walk1; all_goals (try dsimp only)))
      all_goals ((refine ⟨_, _, _, _, _, _, _, _, _, _, _, _, _, st_mk (by rfl) (by first | with_reducible assumption | assumption) (by first | with_reducible assumption | assumption) ⟨by rfl, by rfl, by rfl, by rfl, by rfl, by rfl, by rfl, trivial⟩ ⟨by k_mem, trivial⟩, (by assumption), (by assumption), hy9, hm9, (by omega), (by assumption), (by first | exact hw9 | exact .inl (by omega) | exact .inr ⟨_, by assumption⟩)⟩))
    | some o =>
      by_cases hlo : o < ja y
      · cases h61 : ld (y + 3761) m d with
        | none =>
          repeat' (first | (k_unfold; (try dsimp only)) | ((with_reducible show Cut _ _ _ _ _ _ _ _ _); refine cut_cons ?_; (try k_fold)) | (walk1; all_goals (try dsimp only)))
          all_goals ((refine ⟨_, _, _, _, _, _, _, _, _, _, _, _, _, st_mk (by rfl) (by first | with_reducible assumption | assumption) (by first | with_reducible assumption | assumption) ⟨by rfl, by rfl, by rfl, by rfl, by rfl, by rfl, by rfl, trivial⟩ ⟨by k_mem, trivial⟩, (by assumption), (by assumption), hy9, hm9, (by omega), (by assumption), (by first | exact hw9 | exact .inl (by omega) | exact .inr ⟨_, by assumption⟩)⟩))
        | some v =>
          repeat' (first | (k_unfold; (try dsimp only)) | ((with_reducible show Cut _ _ _ _ _ _ _ _ _); refine cut_cons ?_; (try k_fold)) | (walk1; all_goals (try dsimp only)))
          all_goals ((refine ⟨_, _, _, _, _, _, _, _, _, _, _, _, _, st_mk (by rfl) (by first | with_reducible assumption | assumption) (by first | with_reducible assumption | assumption) ⟨by rfl, by rfl, by rfl, by rfl, by rfl, by rfl, by rfl, trivial⟩ ⟨by k_mem, trivial⟩, (by assumption), (by assumption), hy9, hm9, (by omega), (by assumption), (by first | exact hw9 | exact .inl (by omega) | exact .inr ⟨_, by assumption⟩)⟩))
      · repeat' (first | (k_unfold; (try dsimp only)) | ((with_reducible show Cut _ _ _ _ _ _ _ _ _); refine cut_cons ?_; (try k_fold)) | (walk1; all_goals (try dsimp only)))
        all_goals ((refine ⟨_, _, _, _, _, _, _, _, _, _, _, _, _, st_mk (by rfl) (by first | with_reducible assumption | assumption) (by first | with_reducible assumption | assumption) ⟨by rfl, by rfl, by rfl, by rfl, by rfl, by rfl, by rfl, trivial⟩ ⟨by k_mem, trivial⟩, (by assumption), (by assumption), hy9, hm9, (by omega), (by assumption), (by first | exact hw9 | exact .inl (by omega) | exact .inr ⟨_, by assumption⟩)⟩))
  clear hI9 hn9 hy9 hm9 hd9 hth9 ht9 hw9 F9 N9
  intro s9 ⟨D, ws, ns, t1, t2, t3, t4, t5, t6, y, m, d, o, ⟨h9, tk9, u9, e9, F9, N9⟩, hI9, hn9, hy9, hm9, hd9, h60, h61o⟩
  subst e9
  (try k_sweep)
  dsimp only [List.drop]
  obtain ⟨own0, hob, hsc⟩ := scen y m d o hy9 hm9.1 hm9.2 hd9.1 h60 h61o
  clear h61o
  refine cut_pt P10 F9 2 ?_ ?_
  · rcases hsc with ⟨hin, told⟩ | ⟨hlo, v, h61, own1, hv, ⟨hvb, told⟩ | ⟨hvb, refd⟩⟩
    · repeat' (first | (k_unfold; (try dsimp only)) | ((with_reducible show Cut _ _ _ _ _ _ _ _ _); refine cut_cons ?_; (try k_fold)) | ((fail_if_success (with_reducible show RangeRest _ _ _ _ _ _ _ _ _ _ _ _ _ _ _ _ _)); walk1; all_goals (try dsimp only)))
      refine rr_succ (add0 _) (fun t7 h7 tk7 F7 N7 => ?_)
      (try dsimp only)
      (try dsimp only at F7 N7)
      refine cut_out F7 N7 (Str.ofString "number") 2 ?_ ?_
      · cases h8 : ld (y + 3759) m d with
        | none =>
          repeat' (first | (k_unfold; (try dsimp only)) | ((with_reducible show Cut _ _ _ _ _ _ _ _ _); refine cut_cons ?_; (try k_fold)) | (walk1; all_goals (try dsimp only)))
          all_goals exact ⟨_, _, _, rfl, by first | with_reducible assumption | assumption, by first | with_reducible assumption | assumption⟩
        | some v8 =>
          have q8 := out_lo y m d v8 hy9 hd9.1 h8; have q7 : ¬ ja y ≤ v8 := (by omega)
          repeat' (first | (k_unfold; (try dsimp only)) | ((with_reducible show Cut _ _ _ _ _ _ _ _ _); refine cut_cons ?_; (try k_fold)) | (walk1; all_goals (try dsimp only)))
          all_goals exact ⟨_, _, _, rfl, by first | with_reducible assumption | assumption, by first | with_reducible assumption | assumption⟩
      intro h7 tk7 v7 F7 N7
      dsimp only [List.drop]
      (try dsimp only at F7 N7)
      repeat' (first | (k_unfold; (try dsimp only)) | ((with_reducible show Cut _ _ _ _ _ _ _ _ _); refine cut_cons ?_; (try k_fold)) | ((fail_if_success (with_reducible show RangeRest _ _ _ _ _ _ _ _ _ _ _ _ _ _ _ _ _)); walk1; all_goals (try dsimp only)))
      refine rr_succ (add1 _) (fun t7 h7 tk7 F7 N7 => ?_)
      (try dsimp only)
      (try dsimp only at F7 N7)
      repeat' (first | (k_unfold; (try dsimp only)) | ((with_reducible show Cut _ _ _ _ _ _ _ _ _); refine cut_cons ?_; (try k_fold)) | ((fail_if_success (with_reducible show RangeRest _ _ _ _ _ _ _ _ _ _ _ _ _ _ _ _ _)); walk1; all_goals (try dsimp only)))
      by_cases hq : ∃ v, ld (y + 3761) m d = some v ∧ v < ja (y + 1)
      · obtain ⟨v, h61, hq⟩ := hq
        have q5 := (ld_bd _ m d v hd9.1 h61).1
        have q4 := drift' y (by omega)
        have q6 : ja y ≤ v := (by omega)
        refine rr_succ (add2 _) (fun t7 h7 tk7 F7 N7 => ?_)
        (try dsimp only)
        (try dsimp only at F7 N7)
        repeat' (first | (k_unfold; (try dsimp only)) | ((with_reducible show Cut _ _ _ _ _ _ _ _ _); refine cut_cons ?_; (try k_fold)) | ((fail_if_success (with_reducible show RangeRest _ _ _ _ _ _ _ _ _ _ _ _ _ _ _ _ _)); walk1; all_goals (try dsimp only)))
        refine rr_succ (add3 _) (fun t7 h7 tk7 F7 N7 => ?_)
        (try dsimp only)
        (try dsimp only at F7 N7)
        refine cut_out F7 N7 (Str.ofString "number") 2 ?_ ?_
        · cases h8 : ld (y + 3762) m d with
          | none =>
            repeat' (first | (k_unfold; (try dsimp only)) | ((with_reducible show Cut _ _ _ _ _ _ _ _ _); refine cut_cons ?_; (try k_fold)) | (walk1; all_goals (try dsimp only)))
            all_goals exact ⟨_, _, _, rfl, by first | with_reducible assumption | assumption, by first | with_reducible assumption | assumption⟩
          | some v8 =>
            have q8 := out_hi y m d v8 hy9 hd9.1 h8; have q9 := ja_mono y (y + 1) (by omega); have q6 : ja y ≤ v8 := (by omega); have q7 : ¬ v8 < ja (y + 1) := (by omega)
            repeat' (first | (k_unfold; (try dsimp only)) | ((with_reducible show Cut _ _ _ _ _ _ _ _ _); refine cut_cons ?_; (try k_fold)) | (walk1; all_goals (try dsimp only)))
            all_goals exact ⟨_, _, _, rfl, by first | with_reducible assumption | assumption, by first | with_reducible assumption | assumption⟩
        intro h7 tk7 v7 F7 N7
        dsimp only [List.drop]
        (try dsimp only at F7 N7)
        repeat' (first | (k_unfold; (try dsimp only)) | ((with_reducible show Cut _ _ _ _ _ _ _ _ _); refine cut_cons ?_; (try k_fold)) | ((fail_if_success (with_reducible show RangeRest _ _ _ _ _ _ _ _ _ _ _ _ _ _ _ _ _)); walk1; all_goals (try dsimp only)))
        refine RangeRest.zero (fun h7 tk7 F7 N7 => ?_)
        (try dsimp only at F7 N7)
        repeat' (first | (k_unfold; (try dsimp only)) | ((with_reducible show Cut _ _ _ _ _ _ _ _ _); refine cut_cons ?_; (try k_fold)) | (walk1; all_goals (try dsimp only)))
        all_goals (refine .inr (.inl ?_); (refine ⟨_, _, _, _, _, _, _, _, _, _, _, _, _, _, _, _, st_mk (by rfl) (by first | with_reducible assumption | assumption) (by first | with_reducible assumption | assumption) ⟨by rfl, by rfl, by rfl, by rfl, by rfl, trivial⟩ ⟨by k_mem, by k_mem, by k_mem, trivial⟩, (by assumption), hn9, hy9, own0, told, gy_le _ _ (by assumption)⟩))
      · refine rr_succ (add2 _) (fun t7 h7 tk7 F7 N7 => ?_)
        (try dsimp only)
        (try dsimp only at F7 N7)
        refine cut_out F7 N7 (Str.ofString "number") 2 ?_ ?_
        · cases h8 : ld (y + 3761) m d with
          | none =>
            repeat' (first | (k_unfold; (try dsimp only)) | ((with_reducible show Cut _ _ _ _ _ _ _ _ _); refine cut_cons ?_; (try k_fold)) | (walk1; all_goals (try dsimp only)))
            all_goals exact ⟨_, _, _, rfl, by first | with_reducible assumption | assumption, by first | with_reducible assumption | assumption⟩
          | some v8 =>
            have q7 : ¬ v8 < ja (y + 1) := (fun q => hq ⟨v8, h8, q⟩); have q5 := (ld_bd _ m d v8 hd9.1 h8).1; have q4 := drift' y (by omega); have q6 : ja y ≤ v8 := (by omega)
            repeat' (first | (k_unfold; (try dsimp only)) | ((with_reducible show Cut _ _ _ _ _ _ _ _ _); refine cut_cons ?_; (try k_fold)) | (walk1; all_goals (try dsimp only)))
            all_goals exact ⟨_, _, _, rfl, by first | with_reducible assumption | assumption, by first | with_reducible assumption | assumption⟩
        intro h7 tk7 v7 F7 N7
        dsimp only [List.drop]
        (try dsimp only at F7 N7)
        repeat' (first | (k_unfold; (try dsimp only)) | ((with_reducible show Cut _ _ _ _ _ _ _ _ _); refine cut_cons ?_; (try k_fold)) | ((fail_if_success (with_reducible show RangeRest _ _ _ _ _ _ _ _ _ _ _ _ _ _ _ _ _)); walk1; all_goals (try dsimp only)))
        refine rr_succ (add3 _) (fun t7 h7 tk7 F7 N7 => ?_)
        (try dsimp only)
        (try dsimp only at F7 N7)
        refine cut_out F7 N7 (Str.ofString "number") 2 ?_ ?_
        · cases h8 : ld (y + 3762) m d with
          | none =>
            repeat' (first | (k_unfold; (try dsimp only)) | ((with_reducible show Cut _ _ _ _ _ _ _ _ _); refine cut_cons ?_; (try k_fold)) | (walk1; all_goals (try dsimp only)))
            all_goals exact ⟨_, _, _, rfl, by first | with_reducible assumption | assumption, by first | with_reducible assumption | assumption⟩
          | some v8 =>
            have q8 := out_hi y m d v8 hy9 hd9.1 h8; have q9 := ja_mono y (y + 1) (by omega); have q6 : ja y ≤ v8 := (by omega); have q7 : ¬ v8 < ja (y + 1) := (by omega)
            repeat' (first | (k_unfold; (try dsimp only)) | ((with_reducible show Cut _ _ _ _ _ _ _ _ _); refine cut_cons ?_; (try k_fold)) | (walk1; all_goals (try dsimp only)))
            all_goals exact ⟨_, _, _, rfl, by first | with_reducible assumption | assumption, by first | with_reducible assumption | assumption⟩
        intro h7 tk7 v7 F7 N7
        dsimp only [List.drop]
        (try dsimp only at F7 N7)
        repeat' (first | (k_unfold; (try dsimp only)) | ((with_reducible show Cut _ _ _ _ _ _ _ _ _); refine cut_cons ?_; (try k_fold)) | ((fail_if_success (with_reducible show RangeRest _ _ _ _ _ _ _ _ _ _ _ _ _ _ _ _ _)); walk1; all_goals (try dsimp only)))
        refine RangeRest.zero (fun h7 tk7 F7 N7 => ?_)
        (try dsimp only at F7 N7)
        repeat' (first | (k_unfold; (try dsimp only)) | ((with_reducible show Cut _ _ _ _ _ _ _ _ _); refine cut_cons ?_; (try k_fold)) | (walk1; all_goals (try dsimp only)))
        all_goals (refine .inl ?_; (refine ⟨_, _, _, _, _, _, _, _, _, _, _, _, _, _, _, st_mk (by rfl) (by first | with_reducible assumption | assumption) (by first | with_reducible assumption | assumption) ⟨by rfl, by rfl, by rfl, by rfl, by rfl, trivial⟩ ⟨by k_mem, by k_mem, by k_mem, trivial⟩, (by assumption), hn9, hy9, own0, told, gy_le _ _ (by assumption)⟩))
    · have q6 : ¬ ja y ≤ o := (by omega)
      repeat' (first | (k_unfold; (try dsimp only)) | ((with_reducible show Cut _ _ _ _ _ _ _ _ _); refine cut_cons ?_; (try k_fold)) | ((fail_if_success (with_reducible show RangeRest _ _ _ _ _ _ _ _ _ _ _ _ _ _ _ _ _)); walk1; all_goals (try dsimp only)))
      refine rr_succ (add0 _) (fun t7 h7 tk7 F7 N7 => ?_)
      (try dsimp only)
      (try dsimp only at F7 N7)
      refine cut_out F7 N7 (Str.ofString "number") 2 ?_ ?_
      · cases h8 : ld (y + 3759) m d with
        | none =>
          repeat' (first | (k_unfold; (try dsimp only)) | ((with_reducible show Cut _ _ _ _ _ _ _ _ _); refine cut_cons ?_; (try k_fold)) | (walk1; all_goals (try dsimp only)))
          all_goals exact ⟨_, _, _, rfl, by first | with_reducible assumption | assumption, by first | with_reducible assumption | assumption⟩
        | some v8 =>
          have q8 := out_lo y m d v8 hy9 hd9.1 h8; have q7 : ¬ ja y ≤ v8 := (by omega)
          repeat' (first | (k_unfold; (try dsimp only)) | ((with_reducible show Cut _ _ _ _ _ _ _ _ _); refine cut_cons ?_; (try k_fold)) | (walk1; all_goals (try dsimp only)))
          all_goals exact ⟨_, _, _, rfl, by first | with_reducible assumption | assumption, by first | with_reducible assumption | assumption⟩
      intro h7 tk7 v7 F7 N7
      dsimp only [List.drop]
      (try dsimp only at F7 N7)
      repeat' (first | (k_unfold; (try dsimp only)) | ((with_reducible show Cut _ _ _ _ _ _ _ _ _); refine cut_cons ?_; (try k_fold)) | ((fail_if_success (with_reducible show RangeRest _ _ _ _ _ _ _ _ _ _ _ _ _ _ _ _ _)); walk1; all_goals (try dsimp only)))
      refine rr_succ (add1 _) (fun t7 h7 tk7 F7 N7 => ?_)
      (try dsimp only)
      (try dsimp only at F7 N7)
      repeat' (first | (k_unfold; (try dsimp only)) | ((with_reducible show Cut _ _ _ _ _ _ _ _ _); refine cut_cons ?_; (try k_fold)) | ((fail_if_success (with_reducible show RangeRest _ _ _ _ _ _ _ _ _ _ _ _ _ _ _ _ _)); walk1; all_goals (try dsimp only)))
      refine rr_succ (add2 _) (fun t7 h7 tk7 F7 N7 => ?_)
      (try dsimp only)
      (try dsimp only at F7 N7)
      repeat' (first | (k_unfold; (try dsimp only)) | ((with_reducible show Cut _ _ _ _ _ _ _ _ _); refine cut_cons ?_; (try k_fold)) | ((fail_if_success (with_reducible show RangeRest _ _ _ _ _ _ _ _ _ _ _ _ _ _ _ _ _)); walk1; all_goals (try dsimp only)))
      refine rr_succ (add3 _) (fun t7 h7 tk7 F7 N7 => ?_)
      (try dsimp only)
      (try dsimp only at F7 N7)
      refine cut_out F7 N7 (Str.ofString "number") 2 ?_ ?_
      · cases h8 : ld (y + 3762) m d with
        | none =>
          repeat' (first | (k_unfold; (try dsimp only)) | ((with_reducible show Cut _ _ _ _ _ _ _ _ _); refine cut_cons ?_; (try k_fold)) | (walk1; all_goals (try dsimp only)))
          all_goals exact ⟨_, _, _, rfl, by first | with_reducible assumption | assumption, by first | with_reducible assumption | assumption⟩
        | some v8 =>
          have q8 := out_hi y m d v8 hy9 hd9.1 h8; have q9 := ja_mono y (y + 1) (by omega); have q6 : ja y ≤ v8 := (by omega); have q7 : ¬ v8 < ja (y + 1) := (by omega)
          repeat' (first | (k_unfold; (try dsimp only)) | ((with_reducible show Cut _ _ _ _ _ _ _ _ _); refine cut_cons ?_; (try k_fold)) | (walk1; all_goals (try dsimp only)))
          all_goals exact ⟨_, _, _, rfl, by first | with_reducible assumption | assumption, by first | with_reducible assumption | assumption⟩
      intro h7 tk7 v7 F7 N7
      dsimp only [List.drop]
      (try dsimp only at F7 N7)
      repeat' (first | (k_unfold; (try dsimp only)) | ((with_reducible show Cut _ _ _ _ _ _ _ _ _); refine cut_cons ?_; (try k_fold)) | ((fail_if_success (with_reducible show RangeRest _ _ _ _ _ _ _ _ _ _ _ _ _ _ _ _ _)); walk1; all_goals (try dsimp only)))
      refine RangeRest.zero (fun h7 tk7 F7 N7 => ?_)
      (try dsimp only at F7 N7)
      repeat' (first | (k_unfold; (try dsimp only)) | ((with_reducible show Cut _ _ _ _ _ _ _ _ _); refine cut_cons ?_; (try k_fold)) | (walk1; all_goals (try dsimp only)))
      all_goals (refine .inl ?_; (refine ⟨_, _, _, _, _, _, _, _, _, _, _, _, _, _, _, st_mk (by rfl) (by first | with_reducible assumption | assumption) (by first | with_reducible assumption | assumption) ⟨by rfl, by rfl, by rfl, by rfl, by rfl, trivial⟩ ⟨by k_mem, by k_mem, by k_mem, trivial⟩, (by assumption), hn9, hy9, own1, told, gy_le _ _ (by assumption)⟩))
    · have q6 : ¬ ja y ≤ o := (by omega)
      have q7 : ¬ v < ja (y + 1) := (by omega)
      repeat' (first | (k_unfold; (try dsimp only)) | ((with_reducible show Cut _ _ _ _ _ _ _ _ _); refine cut_cons ?_; (try k_fold)) | ((fail_if_success (with_reducible show RangeRest _ _ _ _ _ _ _ _ _ _ _ _ _ _ _ _ _)); walk1; all_goals (try dsimp only)))
      refine rr_succ (add0 _) (fun t7 h7 tk7 F7 N7 => ?_)
      (try dsimp only)
      (try dsimp only at F7 N7)
      refine cut_out F7 N7 (Str.ofString "number") 2 ?_ ?_
      · cases h8 : ld (y + 3759) m d with
        | none =>
          repeat' (first | (k_unfold; (try dsimp only)) | ((with_reducible show Cut _ _ _ _ _ _ _ _ _); refine cut_cons ?_; (try k_fold)) | (walk1; all_goals (try dsimp only)))
          all_goals exact ⟨_, _, _, rfl, by first | with_reducible assumption | assumption, by first | with_reducible assumption | assumption⟩
        | some v8 =>
          have q8 := out_lo y m d v8 hy9 hd9.1 h8; have q7 : ¬ ja y ≤ v8 := (by omega)
          repeat' (first | (k_unfold; (try dsimp only)) | ((with_reducible show Cut _ _ _ _ _ _ _ _ _); refine cut_cons ?_; (try k_fold)) | (walk1; all_goals (try dsimp only)))
          all_goals exact ⟨_, _, _, rfl, by first | with_reducible assumption | assumption, by first | with_reducible assumption | assumption⟩
      intro h7 tk7 v7 F7 N7
      dsimp only [List.drop]
      (try dsimp only at F7 N7)
      repeat' (first | (k_unfold; (try dsimp only)) | ((with_reducible show Cut _ _ _ _ _ _ _ _ _); refine cut_cons ?_; (try k_fold)) | ((fail_if_success (with_reducible show RangeRest _ _ _ _ _ _ _ _ _ _ _ _ _ _ _ _ _)); walk1; all_goals (try dsimp only)))
      refine rr_succ (add1 _) (fun t7 h7 tk7 F7 N7 => ?_)
      (try dsimp only)
      (try dsimp only at F7 N7)
      repeat' (first | (k_unfold; (try dsimp only)) | ((with_reducible show Cut _ _ _ _ _ _ _ _ _); refine cut_cons ?_; (try k_fold)) | ((fail_if_success (with_reducible show RangeRest _ _ _ _ _ _ _ _ _ _ _ _ _ _ _ _ _)); walk1; all_goals (try dsimp only)))
      refine rr_succ (add2 _) (fun t7 h7 tk7 F7 N7 => ?_)
      (try dsimp only)
      (try dsimp only at F7 N7)
      repeat' (first | (k_unfold; (try dsimp only)) | ((with_reducible show Cut _ _ _ _ _ _ _ _ _); refine cut_cons ?_; (try k_fold)) | ((fail_if_success (with_reducible show RangeRest _ _ _ _ _ _ _ _ _ _ _ _ _ _ _ _ _)); walk1; all_goals (try dsimp only)))
      refine rr_succ (add3 _) (fun t7 h7 tk7 F7 N7 => ?_)
      (try dsimp only)
      (try dsimp only at F7 N7)
      refine cut_out F7 N7 (Str.ofString "number") 2 ?_ ?_
      · cases h8 : ld (y + 3762) m d with
        | none =>
          repeat' (first | (k_unfold; (try dsimp only)) | ((with_reducible show Cut _ _ _ _ _ _ _ _ _); refine cut_cons ?_; (try k_fold)) | (walk1; all_goals (try dsimp only)))
          all_goals exact ⟨_, _, _, rfl, by first | with_reducible assumption | assumption, by first | with_reducible assumption | assumption⟩
        | some v8 =>
          have q8 := out_hi y m d v8 hy9 hd9.1 h8; have q9 := ja_mono y (y + 1) (by omega); have q6 : ja y ≤ v8 := (by omega); have q7 : ¬ v8 < ja (y + 1) := (by omega)
          repeat' (first | (k_unfold; (try dsimp only)) | ((with_reducible show Cut _ _ _ _ _ _ _ _ _); refine cut_cons ?_; (try k_fold)) | (walk1; all_goals (try dsimp only)))
          all_goals exact ⟨_, _, _, rfl, by first | with_reducible assumption | assumption, by first | with_reducible assumption | assumption⟩
      intro h7 tk7 v7 F7 N7
      dsimp only [List.drop]
      (try dsimp only at F7 N7)
      repeat' (first | (k_unfold; (try dsimp only)) | ((with_reducible show Cut _ _ _ _ _ _ _ _ _); refine cut_cons ?_; (try k_fold)) | ((fail_if_success (with_reducible show RangeRest _ _ _ _ _ _ _ _ _ _ _ _ _ _ _ _ _)); walk1; all_goals (try dsimp only)))
      refine RangeRest.zero (fun h7 tk7 F7 N7 => ?_)
      (try dsimp only at F7 N7)
      repeat' (first | (k_unfold; (try dsimp only)) | ((with_reducible show Cut _ _ _ _ _ _ _ _ _); refine cut_cons ?_; (try k_fold)) | (walk1; all_goals (try dsimp only)))
      all_goals (refine .inr (.inr ?_); (refine ⟨_, _, _, _, _, _, _, _, _, _, _, _, st_mk (by rfl) (by first | with_reducible assumption | assumption) (by first | with_reducible assumption | assumption) ⟨by rfl, by rfl, by rfl, by rfl, by rfl, by rfl, trivial⟩ ⟨by k_mem, by k_mem, trivial⟩, (by assumption), hn9, hy9, own0, refd, gy_le _ _ (by assumption)⟩))
  intro s9 hp9
  clear hI9 hn9 hy9 hm9 hd9 h60 hob own0 hsc F9 N9
  obtain ⟨h9, tk9, m9, e9, F9⟩ := hp9.fr
  refine cut_pt P16 F9 6 ?_ ?_
  · clear F9 e9
    rcases hp9 with ⟨D, ws, ns, t1, t2, t3, y, m, d, Lf, T, own, n, ta, tb, ⟨h9, tk9, u9, e9, F9, N9⟩, hI9, hn9, hy9, own9, told9, hg9⟩ | ⟨D, ws, ns, t1, t2, t3, y, m, d, Lf, T, T2, own, n, ta, tb, ⟨h9, tk9, u9, e9, F9, N9⟩, hI9, hn9, hy9, own9, told9, hg9⟩ | ⟨D, ws, ns, t1, t2, t3, t6, y, m, d, o, Lf, ⟨h9, tk9, u9, e9, F9, N9⟩, hI9, hn9, hy9, own9, refd9, hg9⟩
    · subst e9
      (try k_sweep)
      dsimp only [List.drop]
      repeat' (first | (k_unfold; (try dsimp only)) | ((with_reducible show Cut _ _ _ _ _ _ _ _ _); refine cut_cons ?_; (try k_fold)) | (walk1; all_goals (try dsimp only)))
      all_goals first | (exfalso; exact absurd rfl (by assumption)) | (refine ⟨_, _, _, _, _, st_mk (by rfl) (by first | with_reducible assumption | assumption) (by first | with_reducible assumption | assumption) ⟨by rfl, by rfl, trivial⟩ ⟨by k_mem, trivial⟩, (by assumption), hn9, hy9⟩)
    · subst e9
      (try k_sweep)
      dsimp only [List.drop]
      repeat' (first | (k_unfold; (try dsimp only)) | ((with_reducible show Cut _ _ _ _ _ _ _ _ _); refine cut_cons ?_; (try k_fold)) | (walk1; all_goals (try dsimp only)))
      all_goals first | (exfalso; exact absurd rfl (by assumption)) | (refine ⟨_, _, _, _, _, st_mk (by rfl) (by first | with_reducible assumption | assumption) (by first | with_reducible assumption | assumption) ⟨by rfl, by rfl, trivial⟩ ⟨by k_mem, trivial⟩, (by assumption), hn9, hy9⟩)
    · subst e9
      (try k_sweep)
      dsimp only [List.drop]
      repeat' (first | (k_unfold; (try dsimp only)) | ((with_reducible show Cut _ _ _ _ _ _ _ _ _); refine cut_cons ?_; (try k_fold)) | (walk1; all_goals (try dsimp only)))
      all_goals first | (exfalso; exact absurd rfl (by assumption)) | (refine ⟨_, _, _, _, _, st_mk (by rfl) (by first | with_reducible assumption | assumption) (by first | with_reducible assumption | assumption) ⟨by rfl, by rfl, trivial⟩ ⟨by k_mem, trivial⟩, (by assumption), hn9, hy9⟩)
  intro s8 ⟨D, ws, ns, t1, y, ⟨h9, tk8, u9, e8, F8, N8⟩, hI9, hn9, hy9⟩
  clear hp9 F9
  subst e9
  subst e8
  (try k_sweep)
  dsimp only [List.drop]
  refine cut_pt P19 F8 3 ?_ ?_
  · repeat' (first | (k_unfold; (try dsimp only)) | ((with_reducible show Cut _ _ _ _ _ _ _ _ _); refine cut_cons ?_; (try k_fold)) | (walk1; all_goals (try dsimp only)))
    all_goals (refine ⟨_, _, _, _, _, _, st_mk (by rfl) (by first | with_reducible assumption | assumption) (by first | with_reducible assumption | assumption) ⟨by rfl, by rfl, by rfl, trivial⟩ trivial, (by first | exact p19a _ _ _ (by assumption) | exact p19b _ _ _ (by assumption))⟩)
  intro s9 ⟨t1, t2, t3, y, o, p, ⟨h9, tk9, u9, e9, F9, N9⟩, hp9, ho9, hq9⟩
  clear F8 N8 hI9 hn9 hy9
  subst e9
  (try k_sweep)
  dsimp only [List.drop]
  repeat' (first | (k_unfold; (try dsimp only)) | ((with_reducible show Cut _ _ _ _ _ _ _ _ _); refine cut_cons ?_; (try k_fold)) | (walk1; all_goals (try dsimp only)))
  all_goals (k_end; kc_close))
end Mine
end
theorem PySem.Challenge.cw_bn0008_01_holds : PySem.Challenge.rw_bn0008_01.Holds := by
  exact Mine.law_true
