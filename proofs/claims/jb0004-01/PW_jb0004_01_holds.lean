import PyProof.Rows.All
import Wide.All
import OpenK.AllK
import Wide.FinOn
import PySem.Challenge.RW_jb0004_01
open PySem PySem.W PyProof.Rows
set_option Elab.async false
set_option maxRecDepth 100000
namespace Mine
section
set_option maxHeartbeats 8000000 in
open_top hd for PySem.Challenge.rw_jb0004_01

/-- the context in which a def is called, and what is wanted behind the call -/
def FnOk (f : Addr) (D U : Nat) (vs : List Value) (Ret : Value → Prop) : Prop :=
  ∀ (prog : Program) (w : World) (mean : ExcName → Option Value) (mg mb : Str → Option Value) (news : List (Addr × Obj))
    (dp un : Nat) (gd : Option (List Code)) (cn : Str) (cs : Scope) (a : Addr) (ccd : Value) (cl : List (Str × Addr)) (outer : List Env) (A₀ : Around) (base h₀ : Heap) (L : Addr) (m : Str → Option Value) (s : Shared) (Q E : Value → Shared → Prop),
    Below A₀ base outer h₀ → Fr h₀ L s.heap m → (hd.heap_39 w.params).In h₀ → News h₀ L s.heap news → Top hd.view_39 (looseW hd.view_39 []) mean mg mb h₀ → cs.kind = .function → dp + D < recursionLimit → un + U < cLine →
    (∀ (r : Value) (h' : Heap) (tk' : Nat), Ret r → Fr h₀ L h' m → News h₀ L h' news → Q r { s with heap := h', toks := tk' }) →
    wpAny (model prog w) (ktrTop dp un gd cn cs L a ccd cl outer) (call (.ref f) vs) Q E s

theorem fn_use {f : Addr} {D U : Nat} {vs : List Value} {Ret : Value → Prop} {prog : Program} {w : World} {mean : ExcName → Option Value} {mg mb : Str → Option Value} {news : List (Addr × Obj)}
    {dp un : Nat} {gd : Option (List Code)} {cn : Str} {cs : Scope} {a : Addr} {ccd : Value} {cl : List (Str × Addr)} {outer : List Env} {A₀ : Around} {base h₀ : Heap} {L : Addr} {m : Str → Option Value} {s : Shared} {Q E : Value → Shared → Prop}
    (C : FnOk f D U vs Ret)
    (B : Below A₀ base outer h₀) (F : Fr h₀ L s.heap m) (X : (hd.heap_39 w.params).In h₀) (N : News h₀ L s.heap news) (T : Top hd.view_39 (looseW hd.view_39 []) mean mg mb h₀) (hk : cs.kind = .function) (hd : dp + D < recursionLimit) (hu : un + U < cLine)
    (ret : ∀ (r : Value) (h' : Heap) (tk' : Nat), Ret r → Fr h₀ L h' m → News h₀ L h' news → Q r { s with heap := h', toks := tk' }) :
    wpAny (model prog w) (ktrTop dp un gd cn cs L a ccd cl outer) (call (.ref f) vs) Q E s :=
  C _ _ _ _ _ _ _ _ _ _ _ _ _ _ _ _ _ _ _ _ _ _ _ B F X N T hk hd hu ret

def Is {α : Type} (a b : α) : Prop := a = b
theorem gen_store {M : Model} {A : Around} {E : Value → Shared → Prop} {s : Shared} {x : Str} {e : Int} {t : Tok} {env : Env} {Q : Unit → Shared → Prop}
    (h : ∀ v, Is v e → wpAny M A (storeName env x (.int v t)) Q E s) : wpAny M A (storeName env x (.int e t)) Q E s := h e rfl
def RInt (x : Int) (r : Value) : Prop := ∃ t, r = .int x t
def RBool (x : Bool) (r : Value) : Prop := r = .bool x
end
section
def leapF (y : Int) : Bool := decide ((y * 7 + 1).fmod 19 < 7)
def midF (x : Int) : Int := if 0 < x then x else x + 1
def day1 (y : Int) : Int := (235 * y - 234).fdiv 19 * 29 + (12084 + 13753 * (235 * y - 234).fdiv 19).fdiv 25920
def delay1 (y : Int) : Int := if (3 * (day1 y + 1)).fmod 7 < 3 then day1 y + 1 else day1 y
def yearMonths (y : Int) : Int := if leapF y = true then 13 else 12
def delay2 (y : Int) : Int := if delay1 (y + 1) - delay1 y = 356 then 2 else if delay1 y - delay1 (y - 1) = 382 then 1 else 0
theorem d1_pos {y a b c d : Int} (ha : Is a ((235 * y - 234).fdiv 19)) (hb : Is b (12084 + 13753 * a)) (hc : Is c (a * 29 + b.fdiv 25920)) (h : (3 * (c + 1)).fmod 7 < 3) (hd : Is d (c + 1)) : d = delay1 y := by
  unfold Is at *
  subst ha; subst hb; subst hc; subst hd
  exact (if_pos h).symm
theorem d1_neg {y a b c : Int} (ha : Is a ((235 * y - 234).fdiv 19)) (hb : Is b (12084 + 13753 * a)) (hc : Is c (a * 29 + b.fdiv 25920)) (h : ¬ (3 * (c + 1)).fmod 7 < 3) : c = delay1 y := by
  unfold Is at *
  subst ha; subst hb; subst hc
  exact (if_neg h).symm
theorem d2_a {y : Int} (h : delay1 (y + 1) - delay1 y = 356) : 2 = delay2 y := (if_pos h).symm
theorem d2_b {y : Int} (h : delay1 (y + 1) - delay1 y ≠ 356) (h2 : delay1 y - delay1 (y - 1) = 382) : 1 = delay2 y := by
  unfold delay2; rw [if_neg h, if_pos h2]
theorem d2_c {y : Int} (h : delay1 (y + 1) - delay1 y ≠ 356) (h2 : delay1 y - delay1 (y - 1) ≠ 382) : 0 = delay2 y := by
  unfold delay2; rw [if_neg h, if_neg h2]
set_option maxHeartbeats 4000000 in
theorem leap_ok (y : Int) (t : Tok) : FnOk 28 1 8 [.int y t] (RBool (leapF y)) := by
  unfold FnOk
  intro prog w mean mg mb news dp un gd cn cs a ccd cl outer A₀ base h₀ L m s Q E B F X N T hk hdp hun hret
  refine wpAny_call ?_
  k_dflt cell_enter
  repeat' (first | (k_unfold; (try dsimp only)) | (walk1 <;> (try dsimp only)) | (leave1; try dsimp only))
  all_goals exact hret _ _ _ rfl (by k_asm) (by k_asm)

set_option maxHeartbeats 4000000 in
theorem mid_ok (y : Int) (t : Tok) : FnOk 21 1 8 [.int y t] (RInt (midF y)) := by
  unfold FnOk
  intro prog w mean mg mb news dp un gd cn cs a ccd cl outer A₀ base h₀ L m s Q E B F X N T hk hdp hun hret
  refine wpAny_call ?_
  k_dflt cell_enter
  repeat' (first | (k_unfold; (try dsimp only)) | (walk1 <;> (try dsimp only)) | (leave1; try dsimp only))
  all_goals (refine hret _ _ _ ⟨_, congrArg (fun z => Value.int z _) ?_⟩ (by k_asm) (by k_asm); simp only [midF]; split <;> first | rfl | omega)

local macro_rules | `(tactic| walk_at "storeName") => `(tactic| (k_here; (first | (with_reducible show wpAny _ _ (storeName _ _ (Value.int (_ + _) _)) _ _ _) | (with_reducible show wpAny _ _ (storeName _ _ (Value.int (_ - _) _)) _ _ _) | (with_reducible show wpAny _ _ (storeName _ _ (Value.int (_ * _) _)) _ _ _) | (with_reducible show wpAny _ _ (storeName _ _ (Value.int (Int.fdiv _ _) _)) _ _ _) | (with_reducible show wpAny _ _ (storeName _ _ (Value.int (Int.fmod _ _) _)) _ _ _)); refine gen_store ?_; intro v9 hv9))
set_option maxHeartbeats 4000000 in
theorem delay1_ok (y : Int) (t : Tok) : FnOk 42 1 8 [.int y t] (RInt (delay1 y)) := by
  unfold FnOk
  intro prog w mean mg mb news dp un gd cn cs a ccd cl outer A₀ base h₀ L m s Q E B F X N T hk hdp hun hret
  refine wpAny_call ?_
  k_dflt cell_enter
  repeat' (first | (k_unfold; (try dsimp only)) | (walk1 <;> (try dsimp only)) | (leave1; try dsimp only))
  all_goals (refine hret _ _ _ ⟨_, congrArg (fun z => Value.int z _) ?_⟩ (by k_asm) (by k_asm))
  · exact d1_pos (by assumption) (by assumption) (by assumption) (by assumption) (by assumption)
  · exact d1_neg (by assumption) (by assumption) (by assumption) (by assumption)

local macro_rules | `(tactic| walk_at "call ref") => `(tactic| (k_here; k_dflt (
  (first | refine' fn_use (leap_ok _ _) ?k1 ?k2 ?k3 ?k4 ?k5 ?kK ?kd ?ku ?_ | refine' fn_use (delay1_ok _ _) ?k1 ?k2 ?k3 ?k4 ?k5 ?kK ?kd ?ku ?_);
  (case k1 => k_asm); (case k2 => k_asm); (case k3 => k_asm); (case k4 => k_asm); (case k5 => k_asm); (case kK => first | exact rfl | assumption); (case kd => ktr_room); (case ku => ktr_units);
  intro r9 h9 tk9 R9 F9 N9; (first | (obtain ⟨t9, e9⟩ := R9; subst e9) | (replace R9 : r9 = _ := R9; subst R9)); (try k_sweep); (try dsimp only); (try k_fold))))
set_option maxHeartbeats 4000000 in
theorem yearMonths_ok (y : Int) (t : Tok) : FnOk 35 2 16 [.int y t] (RInt (yearMonths y)) := by
  unfold FnOk
  intro prog w mean mg mb news dp un gd cn cs a ccd cl outer A₀ base h₀ L m s Q E B F X N T hk hdp hun hret
  refine wpAny_call ?_
  k_dflt cell_enter
  repeat' (first | (k_unfold; (try dsimp only)) | (walk1 <;> (try dsimp only)) | (leave1; try dsimp only))
  all_goals (refine hret _ _ _ ⟨_, congrArg (fun z => Value.int z _) ?_⟩ (by k_asm) (by k_asm))
  · exact (if_pos (by assumption)).symm
  · exact (if_neg (by simp [*])).symm

set_option maxHeartbeats 4000000 in
theorem delay2_ok (y : Int) (t : Tok) : FnOk 49 2 16 [.int y t] (RInt (delay2 y)) := by
  unfold FnOk
  intro prog w mean mg mb news dp un gd cn cs a ccd cl outer A₀ base h₀ L m s Q E B F X N T hk hdp hun hret
  refine wpAny_call ?_
  k_dflt cell_enter
  repeat' (first | (k_unfold; (try dsimp only)) | (walk1 <;> (try dsimp only)) | (leave1; try dsimp only))
  all_goals (refine hret _ _ _ ⟨_, congrArg (fun z => Value.int z _) ?_⟩ (by k_asm) (by k_asm))
  · exact d2_a (by assumption)
  · exact d2_b (by assumption) (by assumption)
  · exact d2_c (by assumption) (by assumption)
end
section
local macro_rules | `(tactic| walk_at "mine: a row that parts the sections") => `(tactic| fail)
local macro_rules | `(tactic| walk_at "storeName") => `(tactic| (k_here; (first | (with_reducible show wpAny _ _ (storeName _ _ (Value.int (_ + _) _)) _ _ _) | (with_reducible show wpAny _ _ (storeName _ _ (Value.int (_ - _) _)) _ _ _) | (with_reducible show wpAny _ _ (storeName _ _ (Value.int (_ * _) _)) _ _ _) | (with_reducible show wpAny _ _ (storeName _ _ (Value.int (Int.fdiv _ _) _)) _ _ _) | (with_reducible show wpAny _ _ (storeName _ _ (Value.int (Int.fmod _ _) _)) _ _ _)); refine gen_store ?_; intro v9 hv9))
local macro_rules | `(tactic| walk_at "call ref") => `(tactic| (k_here; k_dflt (
  (first | refine' fn_use (leap_ok _ _) ?k1 ?k2 ?k3 ?k4 ?k5 ?kK ?kd ?ku ?_ | refine' fn_use (delay1_ok _ _) ?k1 ?k2 ?k3 ?k4 ?k5 ?kK ?kd ?ku ?_ | refine' fn_use (delay2_ok _ _) ?k1 ?k2 ?k3 ?k4 ?k5 ?kK ?kd ?ku ?_ | refine' fn_use (yearMonths_ok _ _) ?k1 ?k2 ?k3 ?k4 ?k5 ?kK ?kd ?ku ?_ | refine' fn_use (mid_ok _ _) ?k1 ?k2 ?k3 ?k4 ?k5 ?kK ?kd ?ku ?_);
  (case k1 => k_asm); (case k2 => k_asm); (case k3 => k_asm); (case k4 => k_asm); (case k5 => k_asm); (case kK => first | exact rfl | assumption); (case kd => ktr_room); (case ku => ktr_units);
  intro r9 h9 tk9 R9 F9 N9; (first | (obtain ⟨t9, e9⟩ := R9; subst e9) | (replace R9 : r9 = _ := R9; subst R9)); (try k_sweep); (try dsimp only); (try k_fold))))

def newYear (y : Int) : Int := midF (347996 + delay1 y + delay2 y + 1 + 1)
theorem ny_end {y v : Int} (h : Is v (347996 + delay1 y + delay2 y + 1 + 1)) : midF v = newYear y := by
  unfold Is at h; subst h; rfl
def yearDays (y : Int) : Int := newYear (y + 1) - newYear y
def monthLen (y m : Int) : Int := if m = 2 ∨ m = 4 ∨ m = 6 ∨ m = 10 ∨ m = 13 then 29 else if m = 12 ∧ leapF y = false then 29 else if m = 8 ∧ (yearDays y).fmod 10 ≠ 5 then 29 else if m = 9 ∧ (yearDays y).fmod 10 = 3 then 29 else 30
theorem any_t {m : Int} (h : ([2, 4, 6, 10, 13].any fun x => x == m) = true) : m = 2 ∨ m = 4 ∨ m = 6 ∨ m = 10 ∨ m = 13 := by
  simp at h; omega
theorem any_f {m : Int} (h : ([2, 4, 6, 10, 13].any fun x => x == m) = false) : ¬ (m = 2 ∨ m = 4 ∨ m = 6 ∨ m = 10 ∨ m = 13) := by
  simp at h; omega
theorem ml1 {y m : Int} (h : ([2, 4, 6, 10, 13].any fun x => x == m) = true) : 29 = monthLen y m := by
  unfold monthLen; rw [if_pos (any_t h)]
theorem ml2 {y m : Int} (h : ([2, 4, 6, 10, 13].any fun x => x == m) = false) (h1 : m = 12) (h2 : leapF y = false) : 29 = monthLen y m := by
  unfold monthLen; rw [if_neg (any_f h), if_pos ⟨h1, h2⟩]
theorem ml3 {y m : Int} (h : ([2, 4, 6, 10, 13].any fun x => x == m) = false) (h1 : m ≠ 12) (h2 : m = 8) (h3 : (yearDays y).fmod 10 ≠ 5) : 29 = monthLen y m := by
  unfold monthLen; rw [if_neg (any_f h), if_neg (by omega), if_pos ⟨h2, h3⟩]
theorem ml4 {y m : Int} (h : ([2, 4, 6, 10, 13].any fun x => x == m) = false) (h1 : m ≠ 12) (h2 : m = 8) (h3 : (yearDays y).fmod 10 = 5) : 30 = monthLen y m := by
  unfold monthLen; rw [if_neg (any_f h), if_neg (by omega), if_neg (fun q => q.2 h3), if_neg (by omega)]
theorem ml5 {y m : Int} (h : ([2, 4, 6, 10, 13].any fun x => x == m) = false) (h1 : m ≠ 12) (h2 : m ≠ 8) (h4 : m = 9) (h3 : (yearDays y).fmod 10 = 3) : 29 = monthLen y m := by
  unfold monthLen; rw [if_neg (any_f h), if_neg (by omega), if_neg (by omega), if_pos ⟨h4, h3⟩]
theorem ml6 {y m : Int} (h : ([2, 4, 6, 10, 13].any fun x => x == m) = false) (h1 : m ≠ 12) (h2 : m ≠ 8) (h4 : m = 9) (h3 : (yearDays y).fmod 10 ≠ 3) : 30 = monthLen y m := by
  unfold monthLen; rw [if_neg (any_f h), if_neg (by omega), if_neg (by omega), if_neg (fun q => h3 q.2)]
theorem ml7 {y m : Int} (h : ([2, 4, 6, 10, 13].any fun x => x == m) = false) (h1 : m ≠ 12) (h2 : m ≠ 8) (h4 : m ≠ 9) : 30 = monthLen y m := by
  unfold monthLen; rw [if_neg (any_f h), if_neg (by omega), if_neg (by omega), if_neg (by omega)]
theorem ml8 {y m : Int} (h : ([2, 4, 6, 10, 13].any fun x => x == m) = false) (h1 : m = 12) (h2 : leapF y = true) : 30 = monthLen y m := by
  unfold monthLen; rw [if_neg (any_f h), if_neg (fun q => by rw [h2] at q; exact Bool.noConfusion q.2), if_neg (by omega), if_neg (by omega)]
theorem drop1 {h₀ h : Heap} {L : Addr} {p : Addr × Obj} {news : List (Addr × Obj)} (N : News h₀ L h (p :: news)) : News h₀ L h news := fun q hq => N q (.tail _ hq)
set_option maxHeartbeats 4000000 in
theorem toJd7_ok (y : Int) (t1 t2 t3 : Tok) : FnOk 77 4 32 [.int y t1, .int 7 t2, .int 1 t3] (RInt (newYear y)) := by
  unfold FnOk
  intro prog w mean mg mb news dp un gd cn cs a ccd cl outer A₀ base h₀ L m s Q E B F X N T hk hdp hun hret
  refine wpAny_call ?_
  k_dflt cell_enter
  repeat' (first | (k_unfold; (try dsimp only)) | (walk1 <;> (try dsimp only)) | (leave1; try dsimp only))
  all_goals (refine hret _ _ _ ⟨_, congrArg (fun z => Value.int z _) ?_⟩ (by k_asm) (by k_asm))
  all_goals exact ny_end (by assumption)

local macro_rules | `(tactic| walk_at "call ref") => `(tactic| (k_here; k_dflt (
  (first | refine' fn_use (toJd7_ok _ _ _ _) ?k1 ?k2 ?k3 ?k4 ?k5 ?kK ?kd ?ku ?_);
  (case k1 => k_asm); (case k2 => k_asm); (case k3 => k_asm); (case k4 => k_asm); (case k5 => k_asm); (case kK => first | exact rfl | assumption); (case kd => ktr_room); (case ku => ktr_units);
  intro r9 h9 tk9 R9 F9 N9; (first | (obtain ⟨t9, e9⟩ := R9; subst e9) | (replace R9 : r9 = _ := R9; subst R9)); (try k_sweep); (try dsimp only); (try k_fold))))
set_option maxHeartbeats 4000000 in
theorem yearDays_ok (y : Int) (t1 : Tok) : FnOk 56 5 40 [.int y t1] (RInt (yearDays y)) := by
  unfold FnOk
  intro prog w mean mg mb news dp un gd cn cs a ccd cl outer A₀ base h₀ L m s Q E B F X N T hk hdp hun hret
  refine wpAny_call ?_
  k_dflt cell_enter
  repeat' (first | (k_unfold; (try dsimp only)) | (walk1 <;> (try dsimp only)) | (leave1; try dsimp only))
  all_goals (refine hret _ _ _ ⟨_, congrArg (fun z => Value.int z _) ?_⟩ (by k_asm) (by k_asm))
  all_goals rfl

local macro_rules | `(tactic| walk_at "call ref") => `(tactic| (k_here; k_dflt (
  (first | refine' fn_use (leap_ok _ _) ?k1 ?k2 ?k3 ?k4 ?k5 ?kK ?kd ?ku ?_ | refine' fn_use (yearDays_ok _ _) ?k1 ?k2 ?k3 ?k4 ?k5 ?kK ?kd ?ku ?_);
  (case k1 => k_asm); (case k2 => k_asm); (case k3 => k_asm); (case k4 => k_asm); (case k5 => k_asm); (case kK => first | exact rfl | assumption); (case kd => ktr_room); (case ku => ktr_units);
  intro r9 h9 tk9 R9 F9 N9; (first | (obtain ⟨t9, e9⟩ := R9; subst e9) | (replace R9 : r9 = _ := R9; subst R9)); (try k_sweep); (try dsimp only); (try k_fold))))
set_option maxHeartbeats 4000000 in
theorem monthLen_ok (y m : Int) (t1 t2 : Tok) (hm : m ≤ 13) : FnOk 63 6 48 [.int y t1, .int m t2] (RInt (monthLen y m)) := by
  unfold FnOk
  intro prog w mean mg mb news dp un gd cn cs a ccd cl outer A₀ base h₀ L m s Q E B F X N T hk hdp hun hret
  refine wpAny_call ?_
  k_dflt cell_enter
  repeat' (first | (k_unfold; (try dsimp only)) | (walk1 <;> (try dsimp only)) | (leave1; try dsimp only))
  all_goals (refine hret _ _ _ ⟨_, congrArg (fun z => Value.int z _) ?_⟩ (by k_asm) (by first | k_asm | exact drop1 (by assumption)))
  all_goals first
    | exact ml1 (by assumption)
    | exact ml2 (by assumption) (by assumption) (by assumption)
    | exact ml8 (by assumption) (by assumption) (by assumption)
    | exact ml3 (by assumption) (by assumption) (by assumption) (by assumption)
    | exact ml4 (by assumption) (by assumption) (by assumption) (by assumption)
    | exact ml5 (by assumption) (by assumption) (by assumption) (by assumption) (by assumption)
    | exact ml6 (by assumption) (by assumption) (by assumption) (by assumption) (by assumption)
    | exact ml7 (by assumption) (by assumption) (by assumption) (by assumption)
    | (exfalso; omega)

local macro_rules | `(tactic| walk_at "call ref") => `(tactic| (k_here; k_dflt (
  (first | refine' fn_use (monthLen_ok _ _ _ _ (by assumption)) ?k1 ?k2 ?k3 ?k4 ?k5 ?kK ?kd ?ku ?_);
  (case k1 => k_asm); (case k2 => k_asm); (case k3 => k_asm); (case k4 => k_asm); (case k5 => k_asm); (case kK => first | exact rfl | assumption); (case kd => ktr_room); (case ku => ktr_units);
  intro r9 h9 tk9 R9 F9 N9; (first | (obtain ⟨t9, e9⟩ := R9; subst e9) | (replace R9 : r9 = _ := R9; subst R9)); (try k_sweep); (try dsimp only); (try k_fold))))
set_option maxHeartbeats 4000000 in
theorem monthDays_ok (y m : Int) (t1 t2 : Tok) (hm : m ≤ 13) : FnOk 70 7 56 [.int y t1, .int m t2] (RInt (monthLen y m)) := by
  unfold FnOk
  intro prog w mean mg mb news dp un gd cn cs a ccd cl outer A₀ base h₀ L m s Q E B F X N T hk hdp hun hret
  refine wpAny_call ?_
  k_dflt cell_enter
  repeat' (first | (k_unfold; (try dsimp only)) | (walk1 <;> (try dsimp only)) | (leave1; try dsimp only))
  all_goals (refine hret _ _ _ ⟨_, congrArg (fun z => Value.int z _) ?_⟩ (by k_asm) (by k_asm))
  all_goals rfl
end
section
theorem ym_le (y : Int) : yearMonths y ≤ 13 ∧ 12 ≤ yearMonths y := by
  unfold yearMonths; split <;> omega
theorem ym_lt {y k : Int} (h : k < 7 + ((yearMonths y + 1 - 7).toNat : Int)) : k ≤ 13 := by
  have := ym_le y; omega
def sumM (y a : Int) (n : Nat) (c : Int) : Int := (rangeKs a n).foldl (fun s k => s + monthLen y k) c
def start (y d : Int) : Int := 347996 + delay1 y + delay2 y + d + 1
local macro_rules | `(tactic| walk_at "call ref") => `(tactic| (k_here; k_dflt (
  (first | refine' fn_use (monthDays_ok _ _ _ _ (by first | assumption | decide | omega | exact ym_lt (by assumption))) ?k1 ?k2 ?k3 ?k4 ?k5 ?kK ?kd ?ku ?_ | refine' fn_use (leap_ok _ _) ?k1 ?k2 ?k3 ?k4 ?k5 ?kK ?kd ?ku ?_ | refine' fn_use (delay1_ok _ _) ?k1 ?k2 ?k3 ?k4 ?k5 ?kK ?kd ?ku ?_ | refine' fn_use (delay2_ok _ _) ?k1 ?k2 ?k3 ?k4 ?k5 ?kK ?kd ?ku ?_ | refine' fn_use (yearMonths_ok _ _) ?k1 ?k2 ?k3 ?k4 ?k5 ?kK ?kd ?ku ?_ | refine' fn_use (mid_ok _ _) ?k1 ?k2 ?k3 ?k4 ?k5 ?kK ?kd ?ku ?_);
  (case k1 => k_asm); (case k2 => k_asm); (case k3 => k_asm); (case k4 => k_asm); (case k5 => k_asm); (case kK => first | exact rfl | assumption); (case kd => ktr_room); (case ku => ktr_units);
  intro r9 h9 tk9 R9 F9 N9; (first | (obtain ⟨t9, e9⟩ := R9; subst e9) | (replace R9 : r9 = _ := R9; subst R9)); (try k_sweep); (try dsimp only); (try k_fold))))
set_option maxHeartbeats 4000000 in
theorem toJdHi_ok (y m d : Int) (t1 t2 t3 : Tok) (h0 : 7 ≤ m) (hm : m ≤ 13) : FnOk 77 8 64 [.int y t1, .int m t2, .int d t3] (RInt (midF (sumM y 7 (m - 7).toNat (start y d)))) := by
  unfold FnOk
  intro prog w mean mg mb news dp un gd cn cs a ccd cl outer A₀ base h₀ L m s Q E B F X N T hk hdp hun hret
  refine wpAny_call ?_
  k_dflt cell_enter
  repeat' (first | (k_unfold; (try dsimp only)) | ((fail_if_success (with_reducible show wpAny _ _ (pyIter (Value.ref _)) _ _ _)); (fail_if_success (with_reducible show InvEndN _ _ _ _ _ _ _)); (walk1 <;> (try dsimp only))) | (leave1; try dsimp only))
  (rename Fr _ _ _ _ => lF'); (rename News _ _ _ _ => lN'); (rename IsRange _ _ _ _ _ _ _ _ => rgX)
  with_unfolding_all refine' kpr_n1 (y := Str.ofString "jd") [] (fun a k => a + monthLen y k) (by rfl) (by first | exact rgX | assumption) (small_one (by omega) (by omega) (by omega) (by omega)) (rangeSize_nat _ _) lF' lN' (by rfl) (fun k' t' a' ta' u' h' tk' own' hlo' hhi' hoff' F' N' => ?_) (fun u' t' h' tk' F' N' => ?_)
  all_goals (clear lF' lN')
  · try dsimp only
    try k_fold
    repeat' (first | (k_unfold; (try dsimp only)) | ((fail_if_success (with_reducible show wpAny _ _ (pyIter (Value.ref _)) _ _ _)); (fail_if_success (with_reducible show InvEndN _ _ _ _ _ _ _)); (walk1 <;> (try dsimp only))) | (leave1; try dsimp only))
    · refine InvEndN.intro (by assumption) (by assumption) ⟨rfl, ⟨_, rfl⟩, ?_⟩ (by rfl) (fun p hp => List.mem_append_left _ hp) (fun p hp => List.mem_append_right _ hp)
      intro z h1 h2 h3
      first | rfl | (simp [h1, h2]; done)
  · try dsimp only
    repeat' (first | (k_unfold; (try dsimp only)) | ((fail_if_success (with_reducible show wpAny _ _ (pyIter (Value.ref _)) _ _ _)); (fail_if_success (with_reducible show InvEndN _ _ _ _ _ _ _)); (walk1 <;> (try dsimp only))) | (leave1; try dsimp only))
    all_goals exact hret _ _ _ ⟨_, rfl⟩ (by k_asm) (by k_asm)

set_option maxHeartbeats 4000000 in
theorem toJdLo_ok (y m d : Int) (t1 t2 t3 : Tok) (h0 : 1 ≤ m) (hm : m < 7) : FnOk 77 8 64 [.int y t1, .int m t2, .int d t3] (RInt (midF (sumM y 1 (m - 1).toNat (sumM y 7 (yearMonths y + 1 - 7).toNat (start y d))))) := by
  unfold FnOk
  intro prog w mean mg mb news dp un gd cn cs a ccd cl outer A₀ base h₀ L m s Q E B F X N T hk hdp hun hret
  refine wpAny_call ?_
  k_dflt cell_enter
  have hym := ym_le y
  repeat' (first | (k_unfold; (try dsimp only)) | ((fail_if_success (with_reducible show wpAny _ _ (pyIter (Value.ref _)) _ _ _)); (fail_if_success (with_reducible show InvEndN _ _ _ _ _ _ _)); (walk1 <;> (try dsimp only))) | (leave1; try dsimp only))
  (rename Fr _ _ _ _ => lF'); (rename News _ _ _ _ => lN'); (rename IsRange _ _ _ _ _ _ _ _ => rgX)
  with_unfolding_all refine' kpr_n1 (y := Str.ofString "jd") [] (fun a k => a + monthLen y k) (by rfl) (by first | exact rgX | assumption) (small_one (by omega) (by omega) (by omega) (by omega)) (rangeSize_nat _ _) lF' lN' (by rfl) (fun k' t' a' ta' u' h' tk' own' hlo' hhi' hoff' F' N' => ?_) (fun u' t' h' tk' F' N' => ?_)
  all_goals (clear lF' lN')
  · try dsimp only
    try k_fold
    repeat' (first | (k_unfold; (try dsimp only)) | ((fail_if_success (with_reducible show wpAny _ _ (pyIter (Value.ref _)) _ _ _)); (fail_if_success (with_reducible show InvEndN _ _ _ _ _ _ _)); (walk1 <;> (try dsimp only))) | (leave1; try dsimp only))
    · refine InvEndN.intro (by assumption) (by assumption) ⟨rfl, ⟨_, rfl⟩, ?_⟩ (by rfl) (fun p hp => List.mem_append_left _ hp) (fun p hp => List.mem_append_right _ hp)
      intro z h1 h2 h3
      first | rfl | (simp [h1, h2]; done)
  · try dsimp only
    repeat' (first | (k_unfold; (try dsimp only)) | ((fail_if_success (with_reducible show wpAny _ _ (pyIter (Value.ref _)) _ _ _)); (fail_if_success (with_reducible show InvEndN _ _ _ _ _ _ _)); (walk1 <;> (try dsimp only))) | (leave1; try dsimp only))
    (rename Fr _ _ _ _ => lF'); (rename News _ _ _ _ => lN'); (rename IsRange _ _ _ _ _ _ _ _ => rgX)
    with_unfolding_all refine' kpr_n1 (y := Str.ofString "jd") [] (fun a k => a + monthLen y k) (by rfl) (by first | exact rgX | assumption) (small_one (by omega) (by omega) (by omega) (by omega)) (rangeSize_nat _ _) lF' lN' (by rfl) (fun k' t' a' ta' u' h' tk' own' hlo' hhi' hoff' F' N' => ?_) (fun u' t' h' tk' F' N' => ?_)
    all_goals (clear lF' lN')
    · try dsimp only
      try k_fold
      repeat' (first | (k_unfold; (try dsimp only)) | ((fail_if_success (with_reducible show wpAny _ _ (pyIter (Value.ref _)) _ _ _)); (fail_if_success (with_reducible show InvEndN _ _ _ _ _ _ _)); (walk1 <;> (try dsimp only))) | (leave1; try dsimp only))
      · refine InvEndN.intro (by assumption) (by assumption) ⟨rfl, ⟨_, rfl⟩, ?_⟩ (by rfl) (fun p hp => List.mem_append_left _ hp) (fun p hp => List.mem_append_right _ hp)
        intro z h1 h2 h3
        first | rfl | (simp [h1, h2]; done)
    · try dsimp only
      repeat' (first | (k_unfold; (try dsimp only)) | ((fail_if_success (with_reducible show wpAny _ _ (pyIter (Value.ref _)) _ _ _)); (fail_if_success (with_reducible show InvEndN _ _ _ _ _ _ _)); (walk1 <;> (try dsimp only))) | (leave1; try dsimp only))
      all_goals exact hret _ _ _ ⟨_, rfl⟩ (by k_asm) (by k_asm)
end
section
def toJd (y m d : Int) : Int := midF (if m < 7 then sumM y 1 (m - 1).toNat (sumM y 7 (yearMonths y + 1 - 7).toNat (start y d)) else sumM y 7 (m - 7).toNat (start y d))
def W1 (jd i y : Int) : Prop := y = i - 1 ∧ 0 ≤ i ∧ newYear (i - 1) ≤ jd
def Year (jd y : Int) : Prop := 1 ≤ y ∧ newYear y ≤ jd ∧ jd < newYear (y + 1)
def W2 (jd y i mo : Int) : Prop := mo = i ∧ ((7 ≤ i ∧ i ≤ yearMonths y ∧ jd < toJd y 1 1) ∨ (1 ≤ i ∧ i ≤ 6)) ∧ toJd y i 1 ≤ jd
theorem w2_lo {jd y i mo : Int} (h : W2 jd y i mo) : 1 ≤ i ∧ i ≤ 13 := by
  have := ym_le y
  unfold W2 at h; omega
theorem w2_mo {jd y i mo : Int} (h : W2 jd y i mo) : 1 ≤ mo ∧ mo ≤ 13 := by
  have := ym_le y
  unfold W2 at h; omega
theorem w2_less {jd y i mo i' : Int} (h : W2 jd y i mo) (h1 : Is i' (i + 1)) : (20 - i').toNat < (20 - i).toNat := by
  have := ym_le y
  unfold W2 at h; unfold Is at h1; omega
def Spec (jd y m d : Int) : Prop := Year jd y ∧ W2 jd y m m ∧ jd ≤ toJd y m (monthLen y m) ∧ d = jd - toJd y m 1 + 1
theorem spec_of {jd y i m d : Int} (hy : Year jd y) (hw : W2 jd y i m) (ht : ¬ toJd y i (monthLen y i) < jd) (hd : Is d (jd - toJd y m 1 + 1)) : Spec jd y m d := by
  have e : m = i := hw.1
  subst e
  exact ⟨hy, hw, by omega, hd⟩
end
section
section
open PyProof.Rows.LCg PyProof.Rows.LCt
theorem compT_ints {prog : Program} {w : World} {A : Around} {s : Shared} {h₀ : Heap} {L : Addr} {m : Str → Option Value} {env : Env} {ct elt : PySem.Expr} {x : Str} {scope : Scope} {cl : List (Str × Addr)} {S : List (Addr × Obj) → Prop} {Fin : List Value → List (Addr × Obj) → Prop} {news : List (Addr × Obj)} {vs : List Value}
    (ns : List Int) (hi : IntsAre vs ns) (test : Int → Bool)
    (turn : ∀ (n : Int) t (ys : List Value) I oI C oC D m₂ h tk (E' : Value → Shared → Prop) (K1 K0 : Value → List (Addr × Obj) → Prop), NsObj oC m₂ → m₂ x = some (.int n t) → Fr h₀ L h m → News h₀ L h ((I, oI) :: (C, oC) :: (D, lst ys) :: news) → Off3 I C D news → ((@Ne Nat I C) ∧ (@Ne Nat I D) ∧ (@Ne Nat C D)) →
      (test n = true → ∀ y, K1 y news) → (test n = false → ∀ y, K0 y news) →
      wpAny (model prog w) A (isTrue ct (compEnvC scope cl C env) (eval ct (compEnvC scope cl C env))) (fun ok s' => if ok = true then
        wpAny (model prog w) A (eval elt (compEnvC scope cl C env)) (CompEnd h₀ L m { s with heap := h, toks := tk } I oI C oC D (lst ys) S K1) E' s'
        else CompEnd h₀ L m { s with heap := h, toks := tk } I oI C oC D (lst ys) S K0 Value.none s') E' { s with heap := h, toks := tk })
    (fin : ∀ ys : List Value, ys.length = (ns.filter test).length → Fin ys news) :
    CompRestT prog w A h₀ L m env ct elt x scope cl s S (fun i v => vs.toArray[i]? = some v) Fin ns.length 0 [] news := by
  have key : ∀ k i (ys : List Value), i + k = ns.length → ys.length + ((ns.drop i).filter test).length = (ns.filter test).length →
      CompRestT prog w A h₀ L m env ct elt x scope cl s S (fun i v => vs.toArray[i]? = some v) Fin k i ys news := by
    intro k
    induction k with
    | zero =>
      intro i ys hik hl
      refine CompRestT.zero (fin ys ?_)
      rw [List.drop_of_length_le (by omega)] at hl
      simpa using hl
    | succ k ih =>
      intro i ys hik hl
      refine CompRestT.succ ?_
      intro v I oI C oC D m₂ h tk E' hP hN hx hF hW ho hne
      have hlt : i < ns.length := by omega
      obtain ⟨t, ht⟩ := hi.get i ns[i] (by simp [hlt])
      have hv : v = .int ns[i] t := by
        have hP' : vs[i]? = some v := by simpa using hP
        rw [ht] at hP'; exact (Option.some.inj hP').symm
      subst hv
      have hd : ns.drop i = ns[i] :: ns.drop (i + 1) := List.drop_eq_getElem_cons hlt
      rw [hd] at hl
      refine turn ns[i] t ys I oI C oC D m₂ h tk E' _ _ hN hx hF hW ho hne (fun e y => ?_) (fun e y => ?_)
      · refine ih (i + 1) (ys ++ [y]) (by omega) ?_
        rw [List.filter_cons_of_pos e] at hl
        simp only [List.length_append, List.length_cons, List.length_nil] at hl ⊢
        omega
      · refine ih (i + 1) ys (by omega) ?_
        rw [List.filter_cons_of_neg (by simp [e])] at hl
        exact hl
  exact key ns.length 0 [] (by omega) (by simp)
end
def longs : List Int := [3, 6, 8, 11, 14, 17, 19]
def cntLe (p : Int) : Int := ((longs.filter fun n => decide (n ≤ p)).length : Nat)
def longL (y : Int) : Bool := longs.any fun x => x == (y - 1).fmod 19 + 1
def moonsL (y : Int) : Int := 235 * (y - 1).fdiv 19 + 12 * (y - 1).fmod 19 + cntLe ((y - 1).fmod 19)
def totL (y : Int) : Int := 5 * 1080 + 204 + moonsL y * (29 * 25920 + 12 * 1080 + 793)
def bump (D P y : Int) : Int := if 18 * 1080 ≤ P then 1 else if D.fmod 7 = 1 ∧ 9 * 1080 + 204 ≤ P ∧ longL y = false then 1 else if D.fmod 7 = 0 ∧ 15 * 1080 + 589 ≤ P ∧ longL (y - 1) = true then 1 else 0
def tailD (d : Int) : Int := if d.fmod 7 = 2 ∨ d.fmod 7 = 4 ∨ d.fmod 7 = 6 then d + 1 else d
def newYearL (y : Int) : Int := 347998 + tailD ((totL y).fdiv 25920 + bump ((totL y).fdiv 25920) ((totL y).fmod 25920) y)
theorem b_a {D P y d : Int} (h : 18 * 1080 ≤ P) (hd : d = D + 1) : d = D + bump D P y := by
  unfold bump; rw [if_pos h]; exact hd
theorem b_b {D P y d : Int} (h : ¬ 18 * 1080 ≤ P) (h1 : D.fmod 7 = 1) (h2 : 9 * 1080 + 204 ≤ P) (h3 : longL y = false) (hd : d = D + 1) : d = D + bump D P y := by
  unfold bump; rw [if_neg h, if_pos ⟨h1, h2, h3⟩]; exact hd
theorem b_c {D P y d : Int} (h : ¬ 18 * 1080 ≤ P) (h1 : D.fmod 7 = 0) (h2 : 15 * 1080 + 589 ≤ P) (h3 : longL (y - 1) = true) (hd : d = D + 1) : d = D + bump D P y := by
  unfold bump; rw [if_neg h, if_neg (by omega), if_pos ⟨h1, h2, h3⟩]; exact hd
theorem b_0 {D P y : Int} (h : ¬ 18 * 1080 ≤ P) (h1 : ¬ (D.fmod 7 = 1 ∧ 9 * 1080 + 204 ≤ P ∧ longL y = false)) (h2 : ¬ (D.fmod 7 = 0 ∧ 15 * 1080 + 589 ≤ P ∧ longL (y - 1) = true)) : D = D + bump D P y := by
  unfold bump; rw [if_neg h, if_neg h1, if_neg h2]; omega
theorem t_t {d e : Int} (h : ([2, 4, 6].any fun x => x == d.fmod 7) = true) (he : e = d + 1) : e = tailD d := by
  have : d.fmod 7 = 2 ∨ d.fmod 7 = 4 ∨ d.fmod 7 = 6 := by simp at h; omega
  unfold tailD; rw [if_pos this]; exact he
theorem t_f {d : Int} (h : ([2, 4, 6].any fun x => x == d.fmod 7) = false) : d = tailD d := by
  have : ¬ (d.fmod 7 = 2 ∨ d.fmod 7 = 4 ∨ d.fmod 7 = 6) := by simp at h; omega
  unfold tailD; rw [if_neg this]
theorem nl_end {y r M D P d e : Int} (hr : r = (y - 1).fdiv 19) (hM : M = 235 * r + 12 * (y - 1).fmod 19 + cntLe ((y - 1).fmod 19)) (hD : D = (5 * 1080 + 204 + M * (29 * 25920 + 12 * 1080 + 793)).fdiv 25920) (hP : P = (5 * 1080 + 204 + M * (29 * 25920 + 12 * 1080 + 793)).fmod 25920)
    (he : e = tailD d) (hd : d = D + bump D P y) : 347998 + e = newYearL y := by
  subst hr; subst hM; subst hD; subst hP; subst hd; subst he; rfl
end
section
abbrev tupOf (o l : Int) (t u : Tok) (k : Nat) : Obj := { cls := .type "tuple", data := .seq #[.int o t, .int l u] k }
inductive TupsAre (nx : List (Addr × Obj)) : List Value → List (Int × Int) → Prop
  | nil : TupsAre nx [] []
  | cons {b : Addr} {o l : Int} {t u : Tok} {k : Nat} {vs : List Value} {ps : List (Int × Int)} : (b, tupOf o l t u k) ∈ nx → TupsAre nx vs ps → TupsAre nx (.ref b :: vs) ((o, l) :: ps)
theorem TupsAre.mono {nx nx' : List (Addr × Obj)} {vs : List Value} {ps : List (Int × Int)} (h : TupsAre nx vs ps) (hs : ∀ p ∈ nx, p ∈ nx') : TupsAre nx' vs ps := by
  induction h with
  | nil => exact .nil
  | cons hm _ ih => exact .cons (hs _ hm) ih
theorem TupsAre.len {nx : List (Addr × Obj)} {vs : List Value} {ps : List (Int × Int)} (h : TupsAre nx vs ps) : vs.length = ps.length := by
  induction h with
  | nil => rfl
  | cons _ _ ih => rw [List.length_cons, List.length_cons, ih]
def hesh (sp : Int) : Int := if sp.fmod 10 = 5 then 30 else 29
def kisl (sp : Int) : Int := if sp.fmod 10 = 3 then 29 else 30
def pairsL (lg : Bool) (h k : Int) : List (Int × Int) :=
  [(7, 30), (8, h), (9, k), (10, 29), (11, 30)] ++ (if lg = true then [(12, 30), (13, 29)] else [(12, 29)]) ++ [(1, 30), (2, 29), (3, 30), (4, 29), (5, 30), (6, 29)]
def RPairs (y sp : Int) (r : Value) (xs : List (Addr × Obj)) : Prop := ∃ (a : Addr) (vs : List Value) (n : Nat) (rest : List (Addr × Obj)), r = .ref a ∧ xs = (a, W.listOf vs.toArray n) :: rest ∧ TupsAre rest vs (pairsL (longL y) (hesh sp) (kisl sp))
theorem rpairs {y sp h k : Int} {lg : Bool} {a : Addr} {vs : List Value} {n : Nat} {rest : List (Addr × Obj)} (e1 : longL y = lg) (e2 : h = hesh sp) (e3 : k = kisl sp) (t : TupsAre rest vs (pairsL lg h k)) : RPairs y sp (.ref a) ((a, W.listOf vs.toArray n) :: rest) := by
  subst e1; subst e2; subst e3
  exact ⟨a, vs, n, rest, rfl, rfl, t⟩
theorem hesh_y {sp : Int} (h : sp.fmod 10 = 5) : 30 = hesh sp := (if_pos h).symm
theorem hesh_n {sp : Int} (h : sp.fmod 10 ≠ 5) : 29 = hesh sp := (if_neg h).symm
theorem kisl_y {sp : Int} (h : sp.fmod 10 = 3) : 29 = kisl sp := (if_pos h).symm
theorem kisl_n {sp : Int} (h : sp.fmod 10 ≠ 3) : 30 = kisl sp := (if_neg h).symm
theorem ordN {news xs : List (Addr × Obj)} (h : ∀ p ∈ xs, AllLt p.1 news) : ∀ q ∈ news, ∀ p ∈ xs, q.1 < p.1 := fun q hq p hp => ktn_ltOf (h p hp) q hq
end
section
theorem fd (a : Int) {b : Int} (h : 0 ≤ b) : a.fdiv b = a / b := Int.fdiv_eq_ediv_of_nonneg a h
theorem fm (a : Int) {b : Int} (h : 0 ≤ b) : a.fmod b = a % b := Int.fmod_eq_emod_of_nonneg a h
def Mo (y : Int) : Int := (235 * y - 234) / 19
def gI (r : Int) : Int := if r % 7 = 2 ∨ r % 7 = 4 ∨ r % 7 = 6 then 1 else 0
theorem gI_mod (D o : Int) : gI (D + o) = gI (D % 7 + o) := by
  unfold gI
  rw [show (D + o) % 7 = (D % 7 + o) % 7 by omega]
theorem r19 {r : Int} (h0 : 0 ≤ r) (h1 : r < 19) : r = 0 ∨ r = 1 ∨ r = 2 ∨ r = 3 ∨ r = 4 ∨ r = 5 ∨ r = 6 ∨ r = 7 ∨ r = 8 ∨ r = 9 ∨ r = 10 ∨ r = 11 ∨ r = 12 ∨ r = 13 ∨ r = 14 ∨ r = 15 ∨ r = 16 ∨ r = 17 ∨ r = 18 := by omega
theorem cnt_eq {r : Int} (h0 : 0 ≤ r) (h1 : r < 19) : cntLe r = (7 * r + 1) / 19 := by
  rcases r19 h0 h1 with h | h | h | h | h | h | h | h | h | h | h | h | h | h | h | h | h | h | h <;> subst h <;> rfl
theorem moons_eq (y : Int) : moonsL y = Mo y := by
  unfold moonsL Mo
  rw [fd _ (by decide), fm _ (by decide), cnt_eq (by omega) (by omega)]
  omega
theorem leap_long (y : Int) : leapF y = longL y := by
  unfold leapF longL
  rw [fm _ (by decide), fm _ (by decide)]
  have e : (y * 7 + 1) % 19 = (7 * ((y - 1) % 19) + 8) % 19 := by omega
  rw [e]
  have h0 : 0 ≤ (y - 1) % 19 := by omega
  have h1 : (y - 1) % 19 < 19 := by omega
  generalize (y - 1) % 19 = r at h0 h1
  rcases r19 h0 h1 with h | h | h | h | h | h | h | h | h | h | h | h | h | h | h | h | h | h | h <;> subst h <;> rfl
theorem leap_iff (y : Int) : leapF y = true ↔ (y * 7 + 1) % 19 < 7 := by
  unfold leapF; rw [fm _ (by decide)]; exact decide_eq_true_iff
theorem y19 (y : Int) : ∃ q r : Int, 0 ≤ r ∧ r < 19 ∧ y = 19 * q + r + 1 := ⟨(y - 1) / 19, (y - 1) % 19, by omega, by omega, by omega⟩
theorem mo_next (y : Int) : Mo (y + 1) = Mo y + if leapF y = true then 13 else 12 := by
  obtain ⟨q, r, h0, h1, hy⟩ := y19 y
  by_cases h : leapF y = true
  · rw [if_pos h]
    have h2 := (leap_iff y).mp h
    unfold Mo
    rcases r19 h0 h1 with h | h | h | h | h | h | h | h | h | h | h | h | h | h | h | h | h | h | h <;> subst h <;> subst hy <;> omega
  · rw [if_neg h]
    have h2 : ¬ (y * 7 + 1) % 19 < 7 := fun q => h ((leap_iff y).mpr q)
    unfold Mo
    rcases r19 h0 h1 with h | h | h | h | h | h | h | h | h | h | h | h | h | h | h | h | h | h | h <;> subst h <;> subst hy <;> omega
theorem k7 (x : Int) : ∃ k : Int, x = 7 * k ∨ x = 7 * k + 1 ∨ x = 7 * k + 2 ∨ x = 7 * k + 3 ∨ x = 7 * k + 4 ∨ x = 7 * k + 5 ∨ x = 7 * k + 6 := ⟨x / 7, by omega⟩
theorem three7 (x : Int) : (3 * (x + 1)) % 7 < 3 ↔ x % 7 = 2 ∨ x % 7 = 4 ∨ x % 7 = 6 := by
  obtain ⟨k, h | h | h | h | h | h | h⟩ := k7 x <;> subst h <;> omega
def Dd (y : Int) : Int := (5604 + Mo y * 765433) / 25920
def Pp (y : Int) : Int := (5604 + Mo y * 765433) % 25920
theorem pp_lo (y : Int) : 0 ≤ Pp y ∧ Pp y < 25920 := by unfold Pp; omega
def fS (x : Int) : Int := x + gI x
theorem del_f (y x : Int) (h : day1 y = x) : delay1 y = fS x := by
  unfold delay1 fS gI
  rw [h, fm _ (by decide)]
  by_cases h2 : x % 7 = 2 ∨ x % 7 = 4 ∨ x % 7 = 6
  · rw [if_pos h2, if_pos ((three7 x).mpr h2)]
  · rw [if_neg h2, if_neg (fun q => h2 ((three7 x).mp q))]; omega
theorem day1_eq (y : Int) : day1 y = Mo y * 29 + (12084 + 13753 * Mo y) / 25920 := by
  unfold day1; rw [fd _ (by decide), fd _ (by decide)]; rfl
theorem day_0 (y : Int) : day1 y = Dd y + (Pp y + 6480) / 25920 := by
  rw [day1_eq]; unfold Dd Pp; omega
theorem day_p {y : Int} : day1 (y + 1) = Dd y + if leapF y = true then 377 + (Pp y + 185269) / 25920 else 348 + (Pp y + 171516) / 25920 := by
  rw [day1_eq, mo_next]; unfold Dd Pp
  split <;> omega
theorem day_m {y : Int} : day1 (y - 1) = Dd y + if leapF (y - 1) = true then -377 + (Pp y - 172309) / 25920 else -348 + (Pp y - 158556) / 25920 := by
  have h := mo_next (y - 1)
  rw [show y - 1 + 1 = y by omega] at h
  rw [day1_eq]; unfold Dd Pp
  rw [h]
  split <;> omega
/-- what stands behind the day, by the weekday, the parts and the two long years -/
def bS (w P : Int) (lg lg0 : Bool) : Int := if 19440 ≤ P then 1 else if w = 1 ∧ 9924 ≤ P ∧ lg = false then 1 else if w = 0 ∧ 16789 ≤ P ∧ lg0 = true then 1 else 0
def sS (w P : Int) (lg lg0 : Bool) : Int := bS w P lg lg0 + gI (w + bS w P lg lg0)
theorem bS_congr {w P p : Int} {lg lg0 : Bool} (h1 : 19440 ≤ P ↔ 19440 ≤ p) (h2 : 9924 ≤ P ↔ 9924 ≤ p) (h3 : 16789 ≤ P ↔ 16789 ≤ p) : bS w P lg lg0 = bS w p lg lg0 := by
  unfold bS; simp only [h1, h2, h3]
theorem sS_congr {w P p : Int} {lg lg0 : Bool} (h1 : 19440 ≤ P ↔ 19440 ≤ p) (h2 : 9924 ≤ P ↔ 9924 ≤ p) (h3 : 16789 ≤ P ↔ 16789 ≤ p) : sS w P lg lg0 = sS w p lg lg0 := by
  unfold sS; rw [bS_congr h1 h2 h3]
theorem nlL (y : Int) : newYearL y = 347998 + (Dd y + sS (Dd y % 7) (Pp y) (leapF y) (leapF (y - 1))) := by
  unfold newYearL
  have ht : totL y = 5604 + Mo y * 765433 := by unfold totL; rw [moons_eq]; omega
  rw [ht, fd _ (by decide), fm _ (by decide)]
  have hb : bump ((5604 + Mo y * 765433) / 25920) ((5604 + Mo y * 765433) % 25920) y = bS (Dd y % 7) (Pp y) (leapF y) (leapF (y - 1)) := by
    unfold bump bS Dd Pp
    rw [fm _ (by decide), leap_long, leap_long]; rfl
  rw [hb]
  generalize hB : bS (Dd y % 7) (Pp y) (leapF y) (leapF (y - 1)) = b
  have e : (5604 + Mo y * 765433) / 25920 = Dd y := rfl
  rw [e]
  unfold sS tailD
  rw [hB, fm _ (by decide), ← gI_mod]
  unfold gI
  split <;> omega
/-- the finite heart: six stretches of the parts, seven weekdays, two long years -/
def oA (i : Nat) : Int := if 4 ≤ i then 1 else 0
def oB (i : Nat) (lg : Bool) : Int := if lg = true then 384 + (if 5 ≤ i then 1 else 0) else 354 + (if 2 ≤ i then 1 else 0)
def oC (i : Nat) (lg0 : Bool) : Int := if lg0 = true then -384 + (if 3 ≤ i then 1 else 0) else -355 + (if 1 ≤ i then 1 else 0)
def rep (i : Nat) : Int := if i = 0 then 0 else if i = 1 then 3036 else if i = 2 then 9924 else if i = 3 then 16789 else if i = 4 then 19440 else 22091
def lhs (w : Int) (i : Nat) (lg lg0 : Bool) : Int :=
  (oA i + gI (w + oA i)) + (if (oB i lg + gI (w + oB i lg)) - (oA i + gI (w + oA i)) = 356 then 2 else if (oA i + gI (w + oA i)) - (oC i lg0 + gI (w + oC i lg0)) = 382 then 1 else 0)
theorem heart : ∀ w : Fin 7, ∀ i : Fin 6, ∀ lg lg0 : Bool, lhs (w.val : Int) i.val lg lg0 = sS (w.val : Int) (rep i.val) lg lg0 := by decide +kernel
end
section
theorem idx {P : Int} (h0 : 0 ≤ P) (h1 : P < 25920) : ∃ i : Fin 6, (P + 6480) / 25920 = oA i.val ∧
    (∀ lg : Bool, (if lg = true then 377 + (P + 185269) / 25920 else 348 + (P + 171516) / 25920) = oB i.val lg) ∧
    (∀ lg0 : Bool, (if lg0 = true then -377 + (P - 172309) / 25920 else -348 + (P - 158556) / 25920) = oC i.val lg0) ∧
    (19440 ≤ P ↔ 19440 ≤ rep i.val) ∧ (9924 ≤ P ↔ 9924 ≤ rep i.val) ∧ (16789 ≤ P ↔ 16789 ≤ rep i.val) := by
  have : P < 3036 ∨ (3036 ≤ P ∧ P < 9924) ∨ (9924 ≤ P ∧ P < 16789) ∨ (16789 ≤ P ∧ P < 19440) ∨ (19440 ≤ P ∧ P < 22091) ∨ 22091 ≤ P := by omega
  rcases this with h | h | h | h | h | h
  · exact ⟨0, by simp [oA]; omega, by intro lg; cases lg <;> simp [oB] <;> omega, by intro lg; cases lg <;> simp [oC] <;> omega, by simp [rep]; omega, by simp [rep]; omega, by simp [rep]; omega⟩
  · exact ⟨1, by simp [oA]; omega, by intro lg; cases lg <;> simp [oB] <;> omega, by intro lg; cases lg <;> simp [oC] <;> omega, by simp [rep]; omega, by simp [rep]; omega, by simp [rep]; omega⟩
  · exact ⟨2, by simp [oA]; omega, by intro lg; cases lg <;> simp [oB] <;> omega, by intro lg; cases lg <;> simp [oC] <;> omega, by simp [rep]; omega, by simp [rep]; omega, by simp [rep]; omega⟩
  · exact ⟨3, by simp [oA]; omega, by intro lg; cases lg <;> simp [oB] <;> omega, by intro lg; cases lg <;> simp [oC] <;> omega, by simp [rep]; omega, by simp [rep]; omega, by simp [rep]; omega⟩
  · exact ⟨4, by simp [oA]; omega, by intro lg; cases lg <;> simp [oB] <;> omega, by intro lg; cases lg <;> simp [oC] <;> omega, by simp [rep]; omega, by simp [rep]; omega, by simp [rep]; omega⟩
  · exact ⟨5, by simp [oA]; omega, by intro lg; cases lg <;> simp [oB] <;> omega, by intro lg; cases lg <;> simp [oC] <;> omega, by simp [rep]; omega, by simp [rep]; omega, by simp [rep]; omega⟩
theorem fS_off (D o : Int) : fS (D + o) = D + (o + gI (D % 7 + o)) := by
  unfold fS; rw [gI_mod]; omega
theorem heart' {w : Int} (h0 : 0 ≤ w) (h1 : w < 7) (i : Fin 6) (lg lg0 : Bool) : lhs w i.val lg lg0 = sS w (rep i.val) lg lg0 := by
  have := heart ⟨w.toNat, by omega⟩ i lg lg0
  have e : ((w.toNat : Nat) : Int) = w := Int.toNat_of_nonneg h0
  simp only [e] at this
  exact this
theorem delays (y : Int) : delay1 y + delay2 y = Dd y + sS (Dd y % 7) (Pp y) (leapF y) (leapF (y - 1)) := by
  obtain ⟨i, hA, hB, hC, h1, h2, h3⟩ := idx (pp_lo y).1 (pp_lo y).2
  have e0 : delay1 y = Dd y + (oA i.val + gI (Dd y % 7 + oA i.val)) := by
    rw [del_f y _ (day_0 y), hA, fS_off]
  have e1 : delay1 (y + 1) = Dd y + (oB i.val (leapF y) + gI (Dd y % 7 + oB i.val (leapF y))) := by
    rw [del_f (y + 1) _ day_p, hB, fS_off]
  have e2 : delay1 (y - 1) = Dd y + (oC i.val (leapF (y - 1)) + gI (Dd y % 7 + oC i.val (leapF (y - 1)))) := by
    rw [del_f (y - 1) _ day_m, hC, fS_off]
  rw [sS_congr h1 h2 h3, ← heart' (by omega) (by omega)]
  unfold delay2 lhs
  rw [e0, e1, e2]
  generalize oA i.val + gI (Dd y % 7 + oA i.val) = a
  generalize oB i.val (leapF y) + gI (Dd y % 7 + oB i.val (leapF y)) = b
  generalize oC i.val (leapF (y - 1)) + gI (Dd y % 7 + oC i.val (leapF (y - 1))) = c
  rw [show Dd y + b - (Dd y + a) = b - a by omega, show Dd y + a - (Dd y + c) = a - c by omega]
  omega
theorem gI_lo (r : Int) : 0 ≤ gI r ∧ gI r ≤ 1 := by unfold gI; split <;> omega
theorem bS_lo (w P : Int) (lg lg0 : Bool) : 0 ≤ bS w P lg lg0 ∧ bS w P lg lg0 ≤ 1 := by
  unfold bS; split
  · omega
  · split
    · omega
    · split <;> omega
theorem sS_lo (w P : Int) (lg lg0 : Bool) : 0 ≤ sS w P lg lg0 ∧ sS w P lg lg0 ≤ 2 := by
  unfold sS
  have := bS_lo w P lg lg0
  have := gI_lo (w + bS w P lg lg0)
  omega
theorem dd_pos {y : Int} (h : 1 ≤ y) : 0 ≤ Dd y := by unfold Dd Mo; omega
theorem ny_raw (y : Int) : newYear y = midF (347998 + (Dd y + sS (Dd y % 7) (Pp y) (leapF y) (leapF (y - 1)))) := by
  unfold newYear
  rw [← delays]; congr 1; omega
theorem ny_pos {y : Int} (h : 1 ≤ y) : newYear y = 347998 + (Dd y + sS (Dd y % 7) (Pp y) (leapF y) (leapF (y - 1))) := by
  rw [ny_raw]
  have := dd_pos h
  have := sS_lo (Dd y % 7) (Pp y) (leapF y) (leapF (y - 1))
  unfold midF; rw [if_pos (by omega)]
theorem nl_eq {y : Int} (h : 1 ≤ y) : newYearL y = newYear y := by rw [nlL, ny_pos h]
theorem ny_ge {y : Int} (h : 1 ≤ y) : 347998 ≤ newYear y := by
  rw [ny_pos h]
  have := dd_pos h
  have := sS_lo (Dd y % 7) (Pp y) (leapF y) (leapF (y - 1))
  omega
theorem ny_bounds (y : Int) : 347998 + Dd y ≤ newYear y ∧ newYear y ≤ 348001 + Dd y := by
  rw [ny_raw]
  have := sS_lo (Dd y % 7) (Pp y) (leapF y) (leapF (y - 1))
  unfold midF; split <;> omega
/-- the next year's day and parts -/
theorem dd_next (y : Int) : (leapF y = true → ((Pp y < 2651 ∧ Dd (y + 1) = Dd y + 383 ∧ Pp (y + 1) = Pp y + 23269) ∨ (2651 ≤ Pp y ∧ Dd (y + 1) = Dd y + 384 ∧ Pp (y + 1) = Pp y - 2651))) ∧
    (leapF y = false → ((Pp y < 16404 ∧ Dd (y + 1) = Dd y + 354 ∧ Pp (y + 1) = Pp y + 9516) ∨ (16404 ≤ Pp y ∧ Dd (y + 1) = Dd y + 355 ∧ Pp (y + 1) = Pp y - 16404))) := by
  constructor <;> intro h
  · unfold Dd Pp; rw [mo_next, if_pos h]; omega
  · unfold Dd Pp; rw [mo_next, if_neg (by rw [h]; decide)]; omega
end
section
/-- stretches of the parts of a common year and of a long one: the first of it, the days, the next year's parts -/
def rC (i : Nat) : Int × Int × Int := if i = 0 then (0, 354, 9516) else if i = 1 then (408, 354, 9924) else if i = 2 then (7273, 354, 16789) else if i = 3 then (9924, 354, 19440) else if i = 4 then (16404, 355, 0) else if i = 5 then (16789, 355, 385) else (19440, 355, 3036)
def rL (i : Nat) : Int × Int × Int := if i = 0 then (0, 383, 23269) else if i = 1 then (2651, 384, 0) else if i = 2 then (9924, 384, 7273) else if i = 3 then (12575, 384, 9924) else if i = 4 then (16789, 384, 14138) else if i = 5 then (19440, 384, 16789) else (22091, 384, 19440)
def spC (w : Int) (i : Nat) (lg0 lg1 : Bool) : Int := (rC i).2.1 + sS ((w + (rC i).2.1) % 7) (rC i).2.2 lg1 false - sS w (rC i).1 false lg0
def spL (w : Int) (i : Nat) : Int := (rL i).2.1 + sS ((w + (rL i).2.1) % 7) (rL i).2.2 false true - sS w (rL i).1 true false
theorem fin_C : ∀ w : Fin 7, ∀ i : Fin 7, ∀ lg0 lg1 : Bool, spC (w.val : Int) i.val lg0 lg1 = 353 ∨ spC (w.val : Int) i.val lg0 lg1 = 354 ∨ spC (w.val : Int) i.val lg0 lg1 = 355 := by decide +kernel
theorem fin_L : ∀ w : Fin 7, ∀ i : Fin 7, spL (w.val : Int) i.val = 383 ∨ spL (w.val : Int) i.val = 384 ∨ spL (w.val : Int) i.val = 385 := by decide +kernel
theorem idxC {P : Int} (h0 : 0 ≤ P) (h1 : P < 25920) : ∃ i : Fin 7, ((P < 16404 ∧ (rC i.val).2.1 = 354) ∨ (16404 ≤ P ∧ (rC i.val).2.1 = 355)) ∧
    (19440 ≤ P ↔ 19440 ≤ (rC i.val).1) ∧ (9924 ≤ P ↔ 9924 ≤ (rC i.val).1) ∧ (16789 ≤ P ↔ 16789 ≤ (rC i.val).1) ∧
    ∀ P', (P < 16404 → P' = P + 9516) → (16404 ≤ P → P' = P - 16404) → (19440 ≤ P' ↔ 19440 ≤ (rC i.val).2.2) ∧ (9924 ≤ P' ↔ 9924 ≤ (rC i.val).2.2) ∧ (16789 ≤ P' ↔ 16789 ≤ (rC i.val).2.2) := by
  have : P < 408 ∨ (408 ≤ P ∧ P < 7273) ∨ (7273 ≤ P ∧ P < 9924) ∨ (9924 ≤ P ∧ P < 16404) ∨ (16404 ≤ P ∧ P < 16789) ∨ (16789 ≤ P ∧ P < 19440) ∨ 19440 ≤ P := by omega
  rcases this with h | h | h | h | h | h | h
  · refine ⟨⟨0, by decide⟩, ?_, ?_, ?_, ?_, fun P' a b => ?_⟩ <;> dsimp only <;> simp only [show rC 0 = (0, 354, 9516) from rfl, eq_self, and_true, true_and] <;> omega
  · refine ⟨⟨1, by decide⟩, ?_, ?_, ?_, ?_, fun P' a b => ?_⟩ <;> dsimp only <;> simp only [show rC 1 = (408, 354, 9924) from rfl, eq_self, and_true, true_and] <;> omega
  · refine ⟨⟨2, by decide⟩, ?_, ?_, ?_, ?_, fun P' a b => ?_⟩ <;> dsimp only <;> simp only [show rC 2 = (7273, 354, 16789) from rfl, eq_self, and_true, true_and] <;> omega
  · refine ⟨⟨3, by decide⟩, ?_, ?_, ?_, ?_, fun P' a b => ?_⟩ <;> dsimp only <;> simp only [show rC 3 = (9924, 354, 19440) from rfl, eq_self, and_true, true_and] <;> omega
  · refine ⟨⟨4, by decide⟩, ?_, ?_, ?_, ?_, fun P' a b => ?_⟩ <;> dsimp only <;> simp only [show rC 4 = (16404, 355, 0) from rfl, eq_self, and_true, true_and] <;> omega
  · refine ⟨⟨5, by decide⟩, ?_, ?_, ?_, ?_, fun P' a b => ?_⟩ <;> dsimp only <;> simp only [show rC 5 = (16789, 355, 385) from rfl, eq_self, and_true, true_and] <;> omega
  · refine ⟨⟨6, by decide⟩, ?_, ?_, ?_, ?_, fun P' a b => ?_⟩ <;> dsimp only <;> simp only [show rC 6 = (19440, 355, 3036) from rfl, eq_self, and_true, true_and] <;> omega
theorem idxL {P : Int} (h0 : 0 ≤ P) (h1 : P < 25920) : ∃ i : Fin 7, ((P < 2651 ∧ (rL i.val).2.1 = 383) ∨ (2651 ≤ P ∧ (rL i.val).2.1 = 384)) ∧
    (19440 ≤ P ↔ 19440 ≤ (rL i.val).1) ∧ (9924 ≤ P ↔ 9924 ≤ (rL i.val).1) ∧ (16789 ≤ P ↔ 16789 ≤ (rL i.val).1) ∧
    ∀ P', (P < 2651 → P' = P + 23269) → (2651 ≤ P → P' = P - 2651) → (19440 ≤ P' ↔ 19440 ≤ (rL i.val).2.2) ∧ (9924 ≤ P' ↔ 9924 ≤ (rL i.val).2.2) ∧ (16789 ≤ P' ↔ 16789 ≤ (rL i.val).2.2) := by
  have : P < 2651 ∨ (2651 ≤ P ∧ P < 9924) ∨ (9924 ≤ P ∧ P < 12575) ∨ (12575 ≤ P ∧ P < 16789) ∨ (16789 ≤ P ∧ P < 19440) ∨ (19440 ≤ P ∧ P < 22091) ∨ 22091 ≤ P := by omega
  rcases this with h | h | h | h | h | h | h
  · refine ⟨⟨0, by decide⟩, ?_, ?_, ?_, ?_, fun P' a b => ?_⟩ <;> dsimp only <;> simp only [show rL 0 = (0, 383, 23269) from rfl, eq_self, and_true, true_and] <;> omega
  · refine ⟨⟨1, by decide⟩, ?_, ?_, ?_, ?_, fun P' a b => ?_⟩ <;> dsimp only <;> simp only [show rL 1 = (2651, 384, 0) from rfl, eq_self, and_true, true_and] <;> omega
  · refine ⟨⟨2, by decide⟩, ?_, ?_, ?_, ?_, fun P' a b => ?_⟩ <;> dsimp only <;> simp only [show rL 2 = (9924, 384, 7273) from rfl, eq_self, and_true, true_and] <;> omega
  · refine ⟨⟨3, by decide⟩, ?_, ?_, ?_, ?_, fun P' a b => ?_⟩ <;> dsimp only <;> simp only [show rL 3 = (12575, 384, 9924) from rfl, eq_self, and_true, true_and] <;> omega
  · refine ⟨⟨4, by decide⟩, ?_, ?_, ?_, ?_, fun P' a b => ?_⟩ <;> dsimp only <;> simp only [show rL 4 = (16789, 384, 14138) from rfl, eq_self, and_true, true_and] <;> omega
  · refine ⟨⟨5, by decide⟩, ?_, ?_, ?_, ?_, fun P' a b => ?_⟩ <;> dsimp only <;> simp only [show rL 5 = (19440, 384, 16789) from rfl, eq_self, and_true, true_and] <;> omega
  · refine ⟨⟨6, by decide⟩, ?_, ?_, ?_, ?_, fun P' a b => ?_⟩ <;> dsimp only <;> simp only [show rL 6 = (22091, 384, 19440) from rfl, eq_self, and_true, true_and] <;> omega
end
section
theorem leap_apart {y : Int} (h : leapF y = true) : leapF (y + 1) = false ∧ leapF (y - 1) = false := by
  have h1 := (leap_iff y).mp h
  obtain ⟨q, r, h0, h3, hy⟩ := y19 y
  have a : ¬ ((y + 1) * 7 + 1) % 19 < 7 := by
    rcases r19 h0 h3 with h | h | h | h | h | h | h | h | h | h | h | h | h | h | h | h | h | h | h <;> subst h <;> subst hy <;> omega
  have b : ¬ ((y - 1) * 7 + 1) % 19 < 7 := by
    rcases r19 h0 h3 with h | h | h | h | h | h | h | h | h | h | h | h | h | h | h | h | h | h | h <;> subst h <;> subst hy <;> omega
  exact ⟨Bool.eq_false_iff.mpr fun q => a ((leap_iff _).mp q), Bool.eq_false_iff.mpr fun q => b ((leap_iff _).mp q)⟩
theorem span_raw {y : Int} (h : 1 ≤ y) : newYear (y + 1) - newYear y = Dd (y + 1) - Dd y + sS (Dd (y + 1) % 7) (Pp (y + 1)) (leapF (y + 1)) (leapF y) - sS (Dd y % 7) (Pp y) (leapF y) (leapF (y - 1)) := by
  rw [ny_pos h, ny_pos (by omega : 1 ≤ y + 1), show y + 1 - 1 = y by omega]; omega
theorem span_C {y : Int} (h : 1 ≤ y) (hl : leapF y = false) : newYear (y + 1) - newYear y = 353 ∨ newYear (y + 1) - newYear y = 354 ∨ newYear (y + 1) - newYear y = 355 := by
  obtain ⟨i, hk, h1, h2, h3, h4⟩ := idxC (pp_lo y).1 (pp_lo y).2
  have hn := (dd_next y).2 hl
  obtain ⟨q1, q2, q3⟩ := h4 (Pp (y + 1)) (by omega) (by omega)
  have hD : Dd (y + 1) = Dd y + (rC i.val).2.1 := by omega
  rw [span_raw h, hl, sS_congr (P := Pp y) h1 h2 h3, sS_congr (P := Pp (y + 1)) q1 q2 q3, hD]
  have e : (Dd y + (rC i.val).2.1) % 7 = (Dd y % 7 + (rC i.val).2.1) % 7 := by omega
  rw [e]
  have hf := fin_C ⟨(Dd y % 7).toNat, by omega⟩ i (leapF (y - 1)) (leapF (y + 1))
  have e2 : (((Dd y % 7).toNat : Nat) : Int) = Dd y % 7 := Int.toNat_of_nonneg (by omega)
  simp only [e2] at hf
  unfold spC at hf
  rw [show Dd y + (rC i.val).2.1 - Dd y = (rC i.val).2.1 by omega]
  exact hf
theorem span_L {y : Int} (h : 1 ≤ y) (hl : leapF y = true) : newYear (y + 1) - newYear y = 383 ∨ newYear (y + 1) - newYear y = 384 ∨ newYear (y + 1) - newYear y = 385 := by
  obtain ⟨i, hk, h1, h2, h3, h4⟩ := idxL (pp_lo y).1 (pp_lo y).2
  have hn := (dd_next y).1 hl
  obtain ⟨q1, q2, q3⟩ := h4 (Pp (y + 1)) (by omega) (by omega)
  have hD : Dd (y + 1) = Dd y + (rL i.val).2.1 := by omega
  obtain ⟨a1, a2⟩ := leap_apart hl
  rw [span_raw h, hl, a1, a2, sS_congr (P := Pp y) h1 h2 h3, sS_congr (P := Pp (y + 1)) q1 q2 q3, hD]
  have e : (Dd y + (rL i.val).2.1) % 7 = (Dd y % 7 + (rL i.val).2.1) % 7 := by omega
  rw [e]
  have hf := fin_L ⟨(Dd y % 7).toNat, by omega⟩ i
  have e2 : (((Dd y % 7).toNat : Nat) : Int) = Dd y % 7 := Int.toNat_of_nonneg (by omega)
  simp only [e2] at hf
  unfold spL at hf
  rw [show Dd y + (rL i.val).2.1 - Dd y = (rL i.val).2.1 by omega]
  exact hf
end
section
theorem midp {x : Int} (h : 0 < x) : midF x = x := if_pos h
def Hs (y : Int) : Int := hesh (yearDays y)
def Ks (y : Int) : Int := kisl (yearDays y)
theorem hs_lo (y : Int) : 29 ≤ Hs y ∧ Hs y ≤ 30 := by unfold Hs hesh; split <;> omega
theorem ks_lo (y : Int) : 29 ≤ Ks y ∧ Ks y ≤ 30 := by unfold Ks kisl; split <;> omega
theorem m7 (y : Int) : monthLen y 7 = 30 := by simp [monthLen]
theorem m8 (y : Int) : monthLen y 8 = Hs y := by
  unfold Hs hesh
  by_cases h : (yearDays y).fmod 10 = 5 <;> simp [monthLen, h]
theorem m9 (y : Int) : monthLen y 9 = Ks y := by
  unfold Ks kisl
  by_cases h : (yearDays y).fmod 10 = 3 <;> simp [monthLen, h]
theorem m10 (y : Int) : monthLen y 10 = 29 := by simp [monthLen]
theorem m11 (y : Int) : monthLen y 11 = 30 := by simp [monthLen]
theorem m12 (y : Int) : monthLen y 12 = if leapF y = true then 30 else 29 := by
  cases h : leapF y <;> simp [monthLen, h]
theorem m13 (y : Int) : monthLen y 13 = 29 := by simp [monthLen]
theorem m1 (y : Int) : monthLen y 1 = 30 := by simp [monthLen]
theorem m2 (y : Int) : monthLen y 2 = 29 := by simp [monthLen]
theorem m3 (y : Int) : monthLen y 3 = 30 := by simp [monthLen]
theorem m4 (y : Int) : monthLen y 4 = 29 := by simp [monthLen]
theorem m5 (y : Int) : monthLen y 5 = 30 := by simp [monthLen]
theorem m6 (y : Int) : monthLen y 6 = 29 := by simp [monthLen]
theorem start_eq {y d : Int} (h : 1 ≤ y) : start y d = newYear y - 1 + d := by
  rw [ny_pos h, ← delays]; unfold start; omega
def EE (y : Int) : Int := (if leapF y = true then 148 else 118) + Hs y + Ks y
theorem upto7 (y c : Int) : sumM y 7 (yearMonths y + 1 - 7).toNat c = c + EE y := by
  unfold EE yearMonths
  cases h : leapF y
  · show c + monthLen y 7 + monthLen y 8 + monthLen y 9 + monthLen y 10 + monthLen y 11 + monthLen y 12 = _
    rw [m7, m8, m9, m10, m11, m12, h]; simp; omega
  · show c + monthLen y 7 + monthLen y 8 + monthLen y 9 + monthLen y 10 + monthLen y 11 + monthLen y 12 + monthLen y 13 = _
    rw [m7, m8, m9, m10, m11, m12, m13, h]; simp; omega
section
variable {y d : Int} (hy : 1 ≤ y) (hd : 1 ≤ d)
include hy hd
theorem t7 : toJd y 7 d = newYear y - 1 + d := by
  show midF (start y d) = _
  have := ny_ge hy
  rw [start_eq hy, midp (by omega)]
theorem t8 : toJd y 8 d = newYear y - 1 + d + 30 := by
  show midF (start y d + monthLen y 7) = _
  have := ny_ge hy
  rw [start_eq hy, m7, midp (by omega)]
theorem t9 : toJd y 9 d = newYear y - 1 + d + (30 + Hs y) := by
  show midF (start y d + monthLen y 7 + monthLen y 8) = _
  have := ny_ge hy; have := hs_lo y
  rw [start_eq hy, m7, m8, midp (by omega)]; omega
theorem t10 : toJd y 10 d = newYear y - 1 + d + (30 + Hs y + Ks y) := by
  show midF (start y d + monthLen y 7 + monthLen y 8 + monthLen y 9) = _
  have := ny_ge hy; have := hs_lo y; have := ks_lo y
  rw [start_eq hy, m7, m8, m9, midp (by omega)]; omega
theorem t11 : toJd y 11 d = newYear y - 1 + d + (59 + Hs y + Ks y) := by
  show midF (start y d + monthLen y 7 + monthLen y 8 + monthLen y 9 + monthLen y 10) = _
  have := ny_ge hy; have := hs_lo y; have := ks_lo y
  rw [start_eq hy, m7, m8, m9, m10, midp (by omega)]; omega
theorem t12 : toJd y 12 d = newYear y - 1 + d + (89 + Hs y + Ks y) := by
  show midF (start y d + monthLen y 7 + monthLen y 8 + monthLen y 9 + monthLen y 10 + monthLen y 11) = _
  have := ny_ge hy; have := hs_lo y; have := ks_lo y
  rw [start_eq hy, m7, m8, m9, m10, m11, midp (by omega)]; omega
theorem t13 : toJd y 13 d = newYear y - 1 + d + (89 + Hs y + Ks y + if leapF y = true then 30 else 29) := by
  show midF (start y d + monthLen y 7 + monthLen y 8 + monthLen y 9 + monthLen y 10 + monthLen y 11 + monthLen y 12) = _
  have := ny_ge hy; have := hs_lo y; have := ks_lo y
  rw [start_eq hy, m7, m8, m9, m10, m11, m12]
  split <;> rw [midp (by omega)] <;> omega
theorem ee_lo : 0 ≤ EE y := by
  have := hs_lo y; have := ks_lo y
  unfold EE; split <;> omega
theorem t1 : toJd y 1 d = newYear y - 1 + d + EE y := by
  show midF (sumM y 7 (yearMonths y + 1 - 7).toNat (start y d)) = _
  have := ny_ge hy; have := ee_lo hy hd
  rw [upto7, start_eq hy, midp (by omega)]
theorem t2 : toJd y 2 d = newYear y - 1 + d + (EE y + 30) := by
  show midF (sumM y 7 (yearMonths y + 1 - 7).toNat (start y d) + monthLen y 1) = _
  have := ny_ge hy; have := ee_lo hy hd
  rw [upto7, start_eq hy, m1, midp (by omega)]; omega
theorem t3 : toJd y 3 d = newYear y - 1 + d + (EE y + 59) := by
  show midF (sumM y 7 (yearMonths y + 1 - 7).toNat (start y d) + monthLen y 1 + monthLen y 2) = _
  have := ny_ge hy; have := ee_lo hy hd
  rw [upto7, start_eq hy, m1, m2, midp (by omega)]; omega
theorem t4 : toJd y 4 d = newYear y - 1 + d + (EE y + 89) := by
  show midF (sumM y 7 (yearMonths y + 1 - 7).toNat (start y d) + monthLen y 1 + monthLen y 2 + monthLen y 3) = _
  have := ny_ge hy; have := ee_lo hy hd
  rw [upto7, start_eq hy, m1, m2, m3, midp (by omega)]; omega
theorem t5 : toJd y 5 d = newYear y - 1 + d + (EE y + 118) := by
  show midF (sumM y 7 (yearMonths y + 1 - 7).toNat (start y d) + monthLen y 1 + monthLen y 2 + monthLen y 3 + monthLen y 4) = _
  have := ny_ge hy; have := ee_lo hy hd
  rw [upto7, start_eq hy, m1, m2, m3, m4, midp (by omega)]; omega
theorem t6 : toJd y 6 d = newYear y - 1 + d + (EE y + 148) := by
  show midF (sumM y 7 (yearMonths y + 1 - 7).toNat (start y d) + monthLen y 1 + monthLen y 2 + monthLen y 3 + monthLen y 4 + monthLen y 5) = _
  have := ny_ge hy; have := ee_lo hy hd
  rw [upto7, start_eq hy, m1, m2, m3, m4, m5, midp (by omega)]; omega
end
theorem whole {y : Int} (h : 1 ≤ y) : newYear (y + 1) = newYear y + EE y + 177 := by
  have hyd : yearDays y = newYear (y + 1) - newYear y := rfl
  unfold EE Hs Ks
  cases hl : leapF y
  · rcases span_C h hl with q | q | q <;> rw [hyd, q] <;> simp [hesh, kisl] <;> omega
  · rcases span_L h hl with q | q | q <;> rw [hyd, q] <;> simp [hesh, kisl] <;> omega
end
section
theorem toJd7 (y : Int) : toJd y 7 1 = newYear y := by
  show midF (start y 1) = newYear y
  unfold start newYear; rfl
theorem w1_start {jd v v' : Int} (h0 : 347998 ≤ jd) (h1 : Is v (((jd - 347996) * 98496).fdiv 35975351)) (h2 : Is v' (v - 1)) : W1 jd v v' := by
  unfold Is at h1 h2
  rw [fd _ (by decide)] at h1
  have hb := ny_bounds (v - 1)
  unfold Dd Mo at hb
  exact ⟨h2, by omega, by omega⟩
theorem w1_step {jd i y i' y' : Int} (h : W1 jd i y) (ht : toJd i 7 1 ≤ jd) (h1 : Is i' (i + 1)) (h2 : Is y' (y + 1)) : W1 jd i' y' := by
  obtain ⟨a, b, c⟩ := h
  unfold Is at h1 h2
  rw [toJd7] at ht
  refine ⟨by omega, by omega, ?_⟩
  rw [h1, show i + 1 - 1 = i by omega]; exact ht
theorem w1_less {jd i y i' : Int} (h : W1 jd i y) (ht : toJd i 7 1 ≤ jd) (h1 : Is i' (i + 1)) : (jd - i').toNat < (jd - i).toNat := by
  obtain ⟨a, b, c⟩ := h
  unfold Is at h1
  rw [toJd7] at ht
  have hb := ny_bounds i
  unfold Dd Mo at hb
  omega
theorem w1_end {jd i y : Int} (h0 : 347998 ≤ jd) (h : W1 jd i y) (ht : ¬ toJd i 7 1 ≤ jd) : Year jd y := by
  obtain ⟨a, b, c⟩ := h
  rw [toJd7] at ht
  have e0 : newYear 0 ≤ 347998 := by decide +kernel
  have e1 : newYear 1 ≤ 347998 := by decide +kernel
  have hi : 2 ≤ i := by
    rcases Int.lt_or_le i 2 with q | q
    · have : i = 0 ∨ i = 1 := by omega
      rcases this with r | r <;> subst r <;> omega
    · exact q
  subst a
  refine ⟨by omega, c, ?_⟩
  rw [show i - 1 + 1 = i by omega]; omega
theorem w2_start7 {jd y : Int} (h : Year jd y) (ht : jd < toJd y 1 1) : W2 jd y 7 7 := by
  have := ym_le y
  exact ⟨rfl, .inl ⟨by omega, by omega, ht⟩, by rw [toJd7]; exact h.2.1⟩
theorem w2_start1 {jd y : Int} (_h : Year jd y) (ht : ¬ jd < toJd y 1 1) : W2 jd y 1 1 := ⟨rfl, .inr ⟨by omega, by omega⟩, by omega⟩
theorem ym_12 {y : Int} (h : leapF y = false) : yearMonths y = 12 := by unfold yearMonths; rw [h]; rfl
theorem ym_13 {y : Int} (h : leapF y = true) : yearMonths y = 13 := by unfold yearMonths; rw [h]; rfl
theorem w2_step {jd y i mo i' mo' : Int} (hy : Year jd y) (h : W2 jd y i mo) (ht : toJd y i (monthLen y i) < jd) (h1 : Is i' (i + 1)) (h2 : Is mo' (mo + 1)) : W2 jd y i' mo' := by
  obtain ⟨a, b, c⟩ := h
  unfold Is at h1 h2
  obtain ⟨y1, y2, y3⟩ := hy
  have hh := hs_lo y
  have hk := ks_lo y
  subst a; subst h1; subst h2
  have hw := whole y1
  rcases b with ⟨b1, b2, b3⟩ | ⟨b1, b2⟩
  · rw [t1 y1 (by omega)] at b3
    have hcase : mo = 7 ∨ mo = 8 ∨ mo = 9 ∨ mo = 10 ∨ mo = 11 ∨ mo = 12 ∨ mo = 13 := by have := ym_le y; omega
    cases hl : leapF y
    · rw [ym_12 hl] at b2
      have hE : EE y = 118 + Hs y + Ks y := by unfold EE; rw [hl]; simp
      rcases hcase with q | q | q | q | q | q | q <;> subst q
      · rw [m7, t7 y1 (by omega)] at ht
        exact ⟨rfl, .inl ⟨by omega, by rw [ym_12 hl]; omega, by rw [t1 y1 (by omega)]; exact b3⟩, by show toJd y 8 1 ≤ jd; rw [t8 y1 (by omega)]; omega⟩
      · rw [m8, t8 y1 (by omega)] at ht
        exact ⟨rfl, .inl ⟨by omega, by rw [ym_12 hl]; omega, by rw [t1 y1 (by omega)]; exact b3⟩, by show toJd y 9 1 ≤ jd; rw [t9 y1 (by omega)]; omega⟩
      · rw [m9, t9 y1 (by omega)] at ht
        exact ⟨rfl, .inl ⟨by omega, by rw [ym_12 hl]; omega, by rw [t1 y1 (by omega)]; exact b3⟩, by show toJd y 10 1 ≤ jd; rw [t10 y1 (by omega)]; omega⟩
      · rw [m10, t10 y1 (by omega)] at ht
        exact ⟨rfl, .inl ⟨by omega, by rw [ym_12 hl]; omega, by rw [t1 y1 (by omega)]; exact b3⟩, by show toJd y 11 1 ≤ jd; rw [t11 y1 (by omega)]; omega⟩
      · rw [m11, t11 y1 (by omega)] at ht
        exact ⟨rfl, .inl ⟨by omega, by rw [ym_12 hl]; omega, by rw [t1 y1 (by omega)]; exact b3⟩, by show toJd y 12 1 ≤ jd; rw [t12 y1 (by omega)]; omega⟩
      · rw [m12, hl, if_neg (by decide), t12 y1 (by omega)] at ht
        omega
      · omega
    · rw [ym_13 hl] at b2
      have hE : EE y = 148 + Hs y + Ks y := by unfold EE; rw [hl]; simp
      rcases hcase with q | q | q | q | q | q | q <;> subst q
      · rw [m7, t7 y1 (by omega)] at ht
        exact ⟨rfl, .inl ⟨by omega, by rw [ym_13 hl]; omega, by rw [t1 y1 (by omega)]; exact b3⟩, by show toJd y 8 1 ≤ jd; rw [t8 y1 (by omega)]; omega⟩
      · rw [m8, t8 y1 (by omega)] at ht
        exact ⟨rfl, .inl ⟨by omega, by rw [ym_13 hl]; omega, by rw [t1 y1 (by omega)]; exact b3⟩, by show toJd y 9 1 ≤ jd; rw [t9 y1 (by omega)]; omega⟩
      · rw [m9, t9 y1 (by omega)] at ht
        exact ⟨rfl, .inl ⟨by omega, by rw [ym_13 hl]; omega, by rw [t1 y1 (by omega)]; exact b3⟩, by show toJd y 10 1 ≤ jd; rw [t10 y1 (by omega)]; omega⟩
      · rw [m10, t10 y1 (by omega)] at ht
        exact ⟨rfl, .inl ⟨by omega, by rw [ym_13 hl]; omega, by rw [t1 y1 (by omega)]; exact b3⟩, by show toJd y 11 1 ≤ jd; rw [t11 y1 (by omega)]; omega⟩
      · rw [m11, t11 y1 (by omega)] at ht
        exact ⟨rfl, .inl ⟨by omega, by rw [ym_13 hl]; omega, by rw [t1 y1 (by omega)]; exact b3⟩, by show toJd y 12 1 ≤ jd; rw [t12 y1 (by omega)]; omega⟩
      · rw [m12, hl, if_pos rfl, t12 y1 (by omega)] at ht
        exact ⟨rfl, .inl ⟨by omega, by rw [ym_13 hl]; omega, by rw [t1 y1 (by omega)]; exact b3⟩, by show toJd y 13 1 ≤ jd; rw [t13 y1 (by omega), hl, if_pos rfl]; omega⟩
      · rw [m13, t13 y1 (by omega), hl, if_pos rfl] at ht
        omega
  · have hcase : mo = 1 ∨ mo = 2 ∨ mo = 3 ∨ mo = 4 ∨ mo = 5 ∨ mo = 6 := by omega
    rcases hcase with q | q | q | q | q | q <;> subst q
    · rw [m1, t1 y1 (by omega)] at ht
      exact ⟨rfl, .inr ⟨by omega, by omega⟩, by show toJd y 2 1 ≤ jd; rw [t2 y1 (by omega)]; omega⟩
    · rw [m2, t2 y1 (by omega)] at ht
      exact ⟨rfl, .inr ⟨by omega, by omega⟩, by show toJd y 3 1 ≤ jd; rw [t3 y1 (by omega)]; omega⟩
    · rw [m3, t3 y1 (by omega)] at ht
      exact ⟨rfl, .inr ⟨by omega, by omega⟩, by show toJd y 4 1 ≤ jd; rw [t4 y1 (by omega)]; omega⟩
    · rw [m4, t4 y1 (by omega)] at ht
      exact ⟨rfl, .inr ⟨by omega, by omega⟩, by show toJd y 5 1 ≤ jd; rw [t5 y1 (by omega)]; omega⟩
    · rw [m5, t5 y1 (by omega)] at ht
      exact ⟨rfl, .inr ⟨by omega, by omega⟩, by show toJd y 6 1 ≤ jd; rw [t6 y1 (by omega)]; omega⟩
    · rw [m6, t6 y1 (by omega)] at ht
      omega
end
section
/-- a call whose answer stands with new objects on the ledger -/
def FnOkN (f : Addr) (D U : Nat) (vs : List Value) (Ret : Value → List (Addr × Obj) → Prop) : Prop :=
  ∀ (prog : Program) (w : World) (mean : ExcName → Option Value) (mg mb : Str → Option Value) (news : List (Addr × Obj))
    (dp un : Nat) (gd : Option (List Code)) (cn : Str) (cs : Scope) (a : Addr) (ccd : Value) (cl : List (Str × Addr)) (outer : List Env) (A₀ : Around) (base h₀ : Heap) (L : Addr) (m : Str → Option Value) (s : Shared) (Q E : Value → Shared → Prop),
    Below A₀ base outer h₀ → Fr h₀ L s.heap m → (hd.heap_39 w.params).In h₀ → News h₀ L s.heap news → Top hd.view_39 (looseW hd.view_39 []) mean mg mb h₀ → cs.kind = .function → dp + D < recursionLimit → un + U < cLine →
    (∀ (r : Value) (xs : List (Addr × Obj)) (h' : Heap) (tk' : Nat), Ret r xs → Fr h₀ L h' m → News h₀ L h' (xs ++ news) → (∀ q ∈ news, ∀ p ∈ xs, q.1 < p.1) → Q r { s with heap := h', toks := tk' }) →
    wpAny (model prog w) (ktrTop dp un gd cn cs L a ccd cl outer) (call (.ref f) vs) Q E s
theorem fn_useN {f : Addr} {D U : Nat} {vs : List Value} {Ret : Value → List (Addr × Obj) → Prop} {prog : Program} {w : World} {mean : ExcName → Option Value} {mg mb : Str → Option Value} {news : List (Addr × Obj)}
    {dp un : Nat} {gd : Option (List Code)} {cn : Str} {cs : Scope} {a : Addr} {ccd : Value} {cl : List (Str × Addr)} {outer : List Env} {A₀ : Around} {base h₀ : Heap} {L : Addr} {m : Str → Option Value} {s : Shared} {Q E : Value → Shared → Prop}
    (C : FnOkN f D U vs Ret)
    (B : Below A₀ base outer h₀) (F : Fr h₀ L s.heap m) (X : (hd.heap_39 w.params).In h₀) (N : News h₀ L s.heap news) (T : Top hd.view_39 (looseW hd.view_39 []) mean mg mb h₀) (hk : cs.kind = .function) (hd : dp + D < recursionLimit) (hu : un + U < cLine)
    (ret : ∀ (r : Value) (xs : List (Addr × Obj)) (h' : Heap) (tk' : Nat), Ret r xs → Fr h₀ L h' m → News h₀ L h' (xs ++ news) → (∀ q ∈ news, ∀ p ∈ xs, q.1 < p.1) → Q r { s with heap := h', toks := tk' }) :
    wpAny (model prog w) (ktrTop dp un gd cn cs L a ccd cl outer) (call (.ref f) vs) Q E s :=
  C _ _ _ _ _ _ _ _ _ _ _ _ _ _ _ _ _ _ _ _ _ _ _ B F X N T hk hd hu ret
theorem kstB_off2 {rest : Str → Option Value} {a b z : Str} {va vb : Value} (h1 : z ≠ a) (h2 : z ≠ b) : kstB rest [(a, va), (b, vb)] z = rest z := by
  show (if z = a then some va else if z = b then some vb else rest z) = _
  rw [if_neg h1, if_neg h2]
theorem same2 {m₀ u : Str → Option Value} {a b : Str} {va vb va' vb' : Value} (z : Str) (h : ∀ p ∈ [(a, va'), (b, vb')], z ≠ p.1) (_ : ([] : List Str).contains z = false) :
    (fun y => if y = b then some vb' else if y = a then some va' else kstB (fun z => if ([] : List Str).contains z then u z else m₀ z) [(a, va), (b, vb)] y) z = m₀ z := by
  have e1 : z ≠ a := h _ (.head _)
  have e2 : z ≠ b := h _ (.tail _ (.head _))
  show (if z = b then some vb' else if z = a then some va' else kstB (fun z => if ([] : List Str).contains z then u z else m₀ z) [(a, va), (b, vb)] z) = m₀ z
  rw [if_neg e2, if_neg e1, kstB_off2 e1 e2]
  rfl
theorem ord1 {a : Addr} {o : Obj} {news : List (Addr × Obj)} (h : ∀ p ∈ news, p.1 < a) : ∀ q ∈ news, ∀ p ∈ [(a, o)], q.1 < p.1 := by
  intro q hq p hp
  rw [List.mem_singleton.mp hp]
  exact h q hq
def RDate (jd : Int) (r : Value) (xs : List (Addr × Obj)) : Prop := ∃ (a : Addr) (y m d : Int) (t1 t2 t3 : Tok) (n : Nat), r = .ref a ∧ xs = [(a, { cls := .type "tuple", data := .seq #[.int y t1, .int m t2, .int d t3] n })] ∧ Spec jd y m d
theorem toJd_ok (y m d : Int) (t1 t2 t3 : Tok) (h0 : 1 ≤ m) (hm : m ≤ 13) : FnOk 77 8 64 [.int y t1, .int m t2, .int d t3] (RInt (toJd y m d)) := by
  by_cases h : m < 7
  · have := toJdLo_ok y m d t1 t2 t3 h0 h
    unfold toJd; rw [if_pos h]; exact this
  · have := toJdHi_ok y m d t1 t2 t3 (by omega) hm
    unfold toJd; rw [if_neg h]; exact this
local macro_rules | `(tactic| walk_at "storeName") => `(tactic| (k_here; (first | (with_reducible show wpAny _ _ (storeName _ _ (Value.int (_ + _) _)) _ _ _) | (with_reducible show wpAny _ _ (storeName _ _ (Value.int (_ - _) _)) _ _ _) | (with_reducible show wpAny _ _ (storeName _ _ (Value.int (_ * _) _)) _ _ _) | (with_reducible show wpAny _ _ (storeName _ _ (Value.int (Int.fdiv _ _) _)) _ _ _) | (with_reducible show wpAny _ _ (storeName _ _ (Value.int (Int.fmod _ _) _)) _ _ _)); refine gen_store ?_; intro v9 hv9))
local macro_rules | `(tactic| walk_at "call ref") => `(tactic| (k_here; k_dflt (
  (first | refine' fn_use (monthDays_ok _ _ _ _ (by first | assumption | decide | exact (w2_lo (by assumption)).2 | exact (w2_mo (by assumption)).2)) ?k1 ?k2 ?k3 ?k4 ?k5 ?kK ?kd ?ku ?_ | refine' fn_use (toJd_ok _ _ _ _ _ _ (by first | assumption | decide | exact (w2_lo (by assumption)).1 | exact (w2_mo (by assumption)).1) (by first | assumption | decide | exact (w2_lo (by assumption)).2 | exact (w2_mo (by assumption)).2)) ?k1 ?k2 ?k3 ?k4 ?k5 ?kK ?kd ?ku ?_);
  (case k1 => k_asm); (case k2 => k_asm); (case k3 => k_asm); (case k4 => k_asm); (case k5 => k_asm); (case kK => first | exact rfl | assumption); (case kd => ktr_room); (case ku => ktr_units);
  intro r9 h9 tk9 R9 F9 N9; (first | (obtain ⟨t9, e9⟩ := R9; subst e9) | (replace R9 : r9 = _ := R9; subst R9)); (try k_sweep); (try dsimp only); (try k_fold))))

set_option maxHeartbeats 4000000 in
theorem fromJd_ok (jd : Int) (t1 : Tok) (h0 : 347998 ≤ jd) : FnOkN 84 10 80 [.int jd t1] (RDate jd) := by
  unfold FnOkN
  intro prog w mean mg mb news dp un gd cn cs a ccd cl outer A₀ base h₀ L m s Q E B F X N T hk hdp hun hret
  refine wpAny_call ?_
  k_dflt cell_enter
  repeat' (first | (k_unfold; (try dsimp only)) | ((fail_if_success (with_reducible show wpAny _ _ (pyIter (Value.ref _)) _ _ _)); (fail_if_success (with_reducible show wpAny _ _ (exec (Stmt.While _ _ _ _) _) _ _ _)); (fail_if_success (with_reducible show InvEndN _ _ _ _ _ _ _)); (fail_if_success (with_reducible show KswEnd _ _ _ _ _ _ _ _ _ _ _ _)); (walk1 <;> (try dsimp only))) | (leave1; try dsimp only))
  (rename Fr _ _ _ _ => lF'); (rename News _ _ _ _ => lN')
  with_unfolding_all refine' ksw_while (σ := Int × Tok × Int × Tok) (fun _ => news) (fun c => [(Str.ofString "i", .int c.1 c.2.1), (Str.ofString "year", .int c.2.2.1 c.2.2.2)]) (fun _ => True) [] (fun c => W1 jd c.1 c.2.2.1) (fun c => (jd - c.1).toNat) ((_, _, _, _)) lF' lN' trivial ?hk ?hp ?turn ?hE
  case hk => kst_all
  case hE => first | passes_own | with_unfolding_all passes_own
  case hp => exact w1_start (by assumption) (by assumption) (by assumption)
  case turn =>
    clear lF' lN'
    rintro ⟨i9, ti9, y9, ty9⟩ u9 h9 tk9 - hP9 F9 N9
    dsimp only at hP9 F9 N9 ⊢
    try k_fold
    repeat' (first | (k_unfold; (try dsimp only)) | ((fail_if_success (with_reducible show wpAny _ _ (pyIter (Value.ref _)) _ _ _)); (fail_if_success (with_reducible show wpAny _ _ (exec (Stmt.While _ _ _ _) _) _ _ _)); (fail_if_success (with_reducible show InvEndN _ _ _ _ _ _ _)); (fail_if_success (with_reducible show KswEnd _ _ _ _ _ _ _ _ _ _ _ _)); (walk1 <;> (try dsimp only))) | (leave1; try dsimp only))
    · (refine ksw_end (_, _, _, _) (by assumption) (by assumption) (fun p hp => hp) trivial (by kst_all) same2 ?_ ?_)
      · exact w1_step (by assumption) (by assumption) (by assumption) (by assumption)
      · exact w1_less (by assumption) (by assumption) (by assumption)
    all_goals (have hY9 := w1_end h0 hP9 (by assumption))
    · (rename Fr _ _ _ _ => lF'); (rename News _ _ _ _ => lN')
      with_unfolding_all refine' ksw_while (σ := Int × Tok × Int × Tok) (fun _ => news) (fun c => [(Str.ofString "i", .int c.1 c.2.1), (Str.ofString "month", .int c.2.2.1 c.2.2.2)]) (fun _ => True) [] (fun c => W2 jd y9 c.1 c.2.2.1) (fun c => (20 - c.1).toNat) ((_, _, _, _)) lF' lN' trivial ?hk ?hp ?turn ?hE
      case hk => kst_all
      case hE => first | passes_own | with_unfolding_all passes_own
      case hp => exact w2_start7 (by assumption) (by assumption)
      case turn =>
        clear lF' lN'
        rintro ⟨i9, ti9, m9, tm9⟩ u9 h9 tk9 - hW9 F9 N9
        dsimp only at hW9 F9 N9 ⊢
        try k_fold
        repeat' (first | (k_unfold; (try dsimp only)) | ((fail_if_success (with_reducible show wpAny _ _ (pyIter (Value.ref _)) _ _ _)); (fail_if_success (with_reducible show wpAny _ _ (exec (Stmt.While _ _ _ _) _) _ _ _)); (fail_if_success (with_reducible show InvEndN _ _ _ _ _ _ _)); (fail_if_success (with_reducible show KswEnd _ _ _ _ _ _ _ _ _ _ _ _)); (walk1 <;> (try dsimp only))) | (leave1; try dsimp only))
        · (refine ksw_end (_, _, _, _) (by assumption) (by assumption) (fun p hp => hp) trivial (by kst_all) same2 ?_ ?_)
          · exact w2_step (by assumption) (by assumption) (by assumption) (by assumption) (by assumption)
          · exact w2_less (by assumption) (by assumption)
        · exact hret _ [_] _ _ ⟨_, _, _, _, _, _, _, _, rfl, rfl, spec_of hY9 hW9 (by assumption) (by assumption)⟩ (by assumption) (by assumption) (ord1 (by assumption))
    · (rename Fr _ _ _ _ => lF'); (rename News _ _ _ _ => lN')
      with_unfolding_all refine' ksw_while (σ := Int × Tok × Int × Tok) (fun _ => news) (fun c => [(Str.ofString "i", .int c.1 c.2.1), (Str.ofString "month", .int c.2.2.1 c.2.2.2)]) (fun _ => True) [] (fun c => W2 jd y9 c.1 c.2.2.1) (fun c => (20 - c.1).toNat) ((_, _, _, _)) lF' lN' trivial ?hk ?hp ?turn ?hE
      case hk => kst_all
      case hE => first | passes_own | with_unfolding_all passes_own
      case hp => exact w2_start1 (by assumption) (by assumption)
      case turn =>
        clear lF' lN'
        rintro ⟨i9, ti9, m9, tm9⟩ u9 h9 tk9 - hW9 F9 N9
        dsimp only at hW9 F9 N9 ⊢
        try k_fold
        repeat' (first | (k_unfold; (try dsimp only)) | ((fail_if_success (with_reducible show wpAny _ _ (pyIter (Value.ref _)) _ _ _)); (fail_if_success (with_reducible show wpAny _ _ (exec (Stmt.While _ _ _ _) _) _ _ _)); (fail_if_success (with_reducible show InvEndN _ _ _ _ _ _ _)); (fail_if_success (with_reducible show KswEnd _ _ _ _ _ _ _ _ _ _ _ _)); (walk1 <;> (try dsimp only))) | (leave1; try dsimp only))
        · (refine ksw_end (_, _, _, _) (by assumption) (by assumption) (fun p hp => hp) trivial (by kst_all) same2 ?_ ?_)
          · exact w2_step (by assumption) (by assumption) (by assumption) (by assumption) (by assumption)
          · exact w2_less (by assumption) (by assumption)
        · exact hret _ [_] _ _ ⟨_, _, _, _, _, _, _, _, rfl, rfl, spec_of hY9 hW9 (by assumption) (by assumption)⟩ (by assumption) (by assumption) (ord1 (by assumption))
end
section
section
variable {prog : Program} {w : World} {A : Around} {E : Value → Shared → Prop} {s : Shared} {a b : Int} {t u : Tok} {Q : Value → Shared → Prop}
theorem divmod_K {h₀ : Heap} {L : Addr} {m : Str → Option Value} {news : List (Addr × Obj)} (F : Fr h₀ L s.heap m) (N : News h₀ L s.heap news) (hb : b ≠ 0)
    (h : ∀ D h', Fr h₀ L h' m → News h₀ L h' ((D, { cls := .type "tuple", data := .seq #[.int (a.fdiv b) s.toks, .int (a.fmod b) (s.toks + 1)] }) :: news) → (∀ p ∈ news, p.1 < D) →
      Q (.ref D) { s with toks := s.toks + 1 + 1, heap := h' })
    (hp : Builtin.divisionGoesByPylong a b = false ∨ PySem.PylongRoom (model prog w) A s := by exact Or.inl (PyProof.noPylong_of_log2 (by decide +kernel))) :
    wpAny (model prog w) A (call (.builtin "divmod") [.int a t, .int b u]) Q E s :=
  divmod_N F N hb (fun h' F' N' => h _ h' F' N' fun p hp => Heap.lt_size (N p hp).1) hp
end
theorem apart1 {news : List (Addr × Obj)} {L' : Addr} {k : Nat} (h : ∀ p ∈ news, p.1 < L') : ∀ p ∈ news, p.1 ≠ L' + k := by
  intro p hp e
  have := h p hp
  rw [e] at this
  exact absurd (show @LT.lt Nat _ (L' + k) L' from this) (Nat.not_lt.mpr (Nat.le_add_right _ _))
local macro_rules | `(tactic| walk_at "call builtin:divmod") => `(tactic| (k_here; k_dflt (refine' divmod_K ?F ?N ?b ?_; (case F => k_asm); (case N => k_asm); (case b => decide); k_whole); intro D' h' F' N' l1; (try k_lt l1); (try k_sweep)))
local macro_rules | `(tactic| k_all) => `(tactic| exact apart1 (by assumption))

def RLongs (r : Value) (xs : List (Addr × Obj)) : Prop := ∃ (a : Addr) (t1 t2 t3 t4 t5 t6 t7 : Tok) (n : Nat), r = .ref a ∧ xs = [(a, W.listOf #[.int 3 t1, .int 6 t2, .int 8 t3, .int 11 t4, .int 14 t5, .int 17 t6, .int 19 t7] n)]
set_option maxHeartbeats 4000000 in
theorem longYears_ok : FnOkN 91 1 8 [] RLongs := by
  unfold FnOkN
  intro prog w mean mg mb news dp un gd cn cs a ccd cl outer A₀ base h₀ L m s Q E B F X N T hk hdp hun hret
  refine wpAny_call ?_
  k_dflt cell_enter
  repeat' (first | (k_unfold; (try dsimp only)) | ((fail_if_success (with_reducible show wpAny _ _ (pyIter (Value.ref _)) _ _ _)); (fail_if_success (with_reducible show wpAny _ _ (exec (Stmt.While _ _ _ _) _) _ _ _)); (fail_if_success (with_reducible show InvEndN _ _ _ _ _ _ _)); (fail_if_success (with_reducible show KswEnd _ _ _ _ _ _ _ _ _ _ _ _)); (walk1 <;> (try dsimp only))) | (leave1; try dsimp only))
  all_goals exact hret _ [_] _ _ ⟨_, _, _, _, _, _, _, _, _, rfl, rfl⟩ (by assumption) (by assumption) (ord1 (by assumption))
local macro_rules | `(tactic| walk_at "storeName") => `(tactic| (k_here; (first | (with_reducible show wpAny _ _ (storeName _ _ (Value.int (_ + _) _)) _ _ _) | (with_reducible show wpAny _ _ (storeName _ _ (Value.int (_ - _) _)) _ _ _) | (with_reducible show wpAny _ _ (storeName _ _ (Value.int (_ * _) _)) _ _ _) | (with_reducible show wpAny _ _ (storeName _ _ (Value.int (Int.fdiv _ _) _)) _ _ _) | (with_reducible show wpAny _ _ (storeName _ _ (Value.int (Int.fmod _ _) _)) _ _ _)); refine gen_store ?_; intro v9 hv9))
local macro_rules | `(tactic| walk_at "call ref") => `(tactic| (k_here; k_dflt (
  (first | refine' fn_useN (longYears_ok) ?k1 ?k2 ?k3 ?k4 ?k5 ?kK ?kd ?ku ?_);
  (case k1 => k_asm); (case k2 => k_asm); (case k3 => k_asm); (case k4 => k_asm); (case k5 => k_asm); (case kK => first | exact rfl | assumption); (case kd => ktr_room); (case ku => ktr_units);
  intro r9 xs9 h9 tk9 R9 F9 N9 o9; (obtain ⟨a9, u1, u2, u3, u4, u5, u6, u7, n9, e9, f9⟩ := R9; subst e9; subst f9); (try k_sweep); (have l9 := allLt_of (fun p hp => o9 p hp _ (.head _))); clear o9; (try simp only [AllLt, and_true] at l9); (try simp only [List.cons_append, List.nil_append] at N9); (try dsimp only); (try k_fold))))

set_option maxHeartbeats 4000000 in
theorem longL_ok (y : Int) (t1 : Tok) : FnOk 98 3 24 [.int y t1] (RBool (longL y)) := by
  unfold FnOk
  intro prog w mean mg mb news dp un gd cn cs a ccd cl outer A₀ base h₀ L m s Q E B F X N T hk hdp hun hret
  refine wpAny_call ?_
  k_dflt cell_enter
  repeat' (first | (k_unfold; (try dsimp only)) | ((fail_if_success (with_reducible show wpAny _ _ (pyIter (Value.ref _)) _ _ _)); (fail_if_success (with_reducible show wpAny _ _ (exec (Stmt.While _ _ _ _) _) _ _ _)); (fail_if_success (with_reducible show InvEndN _ _ _ _ _ _ _)); (fail_if_success (with_reducible show KswEnd _ _ _ _ _ _ _ _ _ _ _ _)); (walk1 <;> (try dsimp only))) | (leave1; try dsimp only))
  all_goals exact hret _ _ _ rfl (by k_asm) (drop1 (by assumption))
local macro_rules | `(tactic| walk_at "call ref") => `(tactic| (k_here; k_dflt (
  (first | refine' fn_use (longL_ok _ _) ?k1 ?k2 ?k3 ?k4 ?k5 ?kK ?kd ?ku ?_);
  (case k1 => k_asm); (case k2 => k_asm); (case k3 => k_asm); (case k4 => k_asm); (case k5 => k_asm); (case kK => first | exact rfl | assumption); (case kd => ktr_room); (case ku => ktr_units);
  intro r9 h9 tk9 R9 F9 N9; (first | (obtain ⟨t9, e9⟩ := R9; subst e9) | (replace R9 : r9 = _ := R9; subst R9)); (try k_sweep); (try dsimp only); (try k_fold))))

set_option maxHeartbeats 4000000 in
theorem newYearL_ok (y : Int) (t1 : Tok) : FnOk 103 10 80 [.int y t1] (RInt (newYearL y)) := by
  unfold FnOk
  intro prog w mean mg mb news dp un gd cn cs a ccd cl outer A₀ base h₀ L m s Q E B F X N T hk hdp hun hret
  refine wpAny_call ?_
  k_dflt (refine' code_defC ?k1 ?k2 ?k3 ?k4 ?k5 ?kA ?kF ?kK ?k6 ?k7 ?k8 ?k9 ?kB ?kD ?_ ?c2 ?c3 ?c4; (case kA => exact rfl); (case kF => exact rfl); (case kK => assumption); (case k1 => k_asm); (case k2 => k_asm); (case k3 => k_asm); (case k4 => k_asm); (case k5 => k_asm); (case k6 => k_is); (case k7 => k_is); (case k8 => ktr_room); (case k9 => exact BindsTo.of_eq rfl); (case kB => exact rfl); (case kD => decide +kernel); (case c2 => exact rfl); (case c3 => exact rfl); (case c4 => exact rfl); k_whole; intro g' L' h' tk' cells' FG' F' N' Y' B' X' T' l1; (try k_lt l1); k_cells Y'; (try simp only [List.cons_append, List.nil_append] at N'); (try dsimp only); (try k_lift B'); (try k_fold))
  repeat' (first | (k_unfold; (try dsimp only)) | ((fail_if_success (with_reducible show wpAny _ _ (pyIter (Value.ref _)) _ _ _)); (fail_if_success (with_reducible show wpAny _ _ (exec (Stmt.While _ _ _ _) _) _ _ _)); (fail_if_success (with_reducible show InvEndN _ _ _ _ _ _ _)); (fail_if_success (with_reducible show KswEnd _ _ _ _ _ _ _ _ _ _ _ _)); (fail_if_success (with_reducible show wpAny _ _ (eval (Expr.ListComp _ _ _ _) _) _ _ _)); (walk1 <;> (try dsimp only))) | (leave1; try dsimp only))
  k_dflt (refine LCt.ListComp_T (F₀ := by k_asm) (by with_unfolding_all rfl) (by decide) (by rfl) (by decide) (by rfl) ?_)
  repeat' (first | (k_unfold; (try dsimp only)) | ((fail_if_success (with_reducible show wpAny _ _ (pyIter (Value.ref _)) _ _ _)); (fail_if_success (with_reducible show wpAny _ _ (exec (Stmt.While _ _ _ _) _) _ _ _)); (fail_if_success (with_reducible show InvEndN _ _ _ _ _ _ _)); (fail_if_success (with_reducible show KswEnd _ _ _ _ _ _ _ _ _ _ _ _)); (fail_if_success (with_reducible show LCt.CompSrcT _ _ _ _ _ _ _ _ _ _ _ _ _ _ _)); (walk1 <;> (try dsimp only))) | (leave1; try dsimp only))
  refine LCt.CompSrcT.ledger (by rfl) (by assumption) (by assumption) (.head _) (Nat.le_of_ble_eq_true rfl) (fun g => ?_)
  rename Is _ ((y - 1).fmod 19) => hpast
  unfold Is at hpast; subst hpast
  refine compT_ints longs (by repeat constructor) (fun n => decide (n ≤ (y - 1).fmod 19)) (fun n9 t9 ys9 I9 oI9 C9 oC9 D9 m9 h9 tk9 E9 K1 K0 hN9 hx9 F9 N9 hO9 hne9 hK1 hK0 => ?_) (fun ys9 hlen9 => ?_)
  · dsimp only
    repeat' (first | (k_unfold; (try dsimp only)) | ((fail_if_success (with_reducible show wpAny _ _ (pyIter (Value.ref _)) _ _ _)); (fail_if_success (with_reducible show wpAny _ _ (exec (Stmt.While _ _ _ _) _) _ _ _)); (fail_if_success (with_reducible show InvEndN _ _ _ _ _ _ _)); (fail_if_success (with_reducible show KswEnd _ _ _ _ _ _ _ _ _ _ _ _)); (fail_if_success (with_reducible show LCg.CompEnd _ _ _ _ _ _ _ _ _ _ _ _ _ _)); (walk1 <;> (try dsimp only))) | (leave1; try dsimp only))
    · exact LCg.CompEnd.intro (by assumption) (by assumption) _ (fun p hp => hp) (by assumption) (.inr ⟨_, .head _, rfl, _, rfl⟩) (hK1 (decide_eq_true (by assumption)) _)
    · exact LCg.CompEnd.intro (by assumption) (by assumption) _ (fun p hp => hp) (by assumption) (.inr ⟨_, .head _, rfl, _, rfl⟩) (hK0 (decide_eq_false (by assumption)) _)
  · have hle9 : ys9.length ≤ 7 := by rw [hlen9]; exact Nat.le_trans (List.length_filter_le _ _) (by decide)
    repeat' (first | (k_unfold; (try dsimp only)) | ((fail_if_success (with_reducible show wpAny _ _ (pyIter (Value.ref _)) _ _ _)); (fail_if_success (with_reducible show wpAny _ _ (exec (Stmt.While _ _ _ _) _) _ _ _)); (fail_if_success (with_reducible show InvEndN _ _ _ _ _ _ _)); (fail_if_success (with_reducible show KswEnd _ _ _ _ _ _ _ _ _ _ _ _)); (fail_if_success (with_reducible show wpAny _ _ (call (Value.builtin "len") _) _ _ _)); (walk1 <;> (try dsimp only))) | (leave1; try dsimp only))
    refine len_list (News.isList (by assumption) (.head _)) (by rw [List.size_toArray]; omega) ?_
    have hsz9 : ((ys9.toArray.size : Nat) : Int) = cntLe ((y - 1).fmod 19) := by rw [List.size_toArray, hlen9]; rfl
    rw [hsz9]
    repeat' (first | (k_unfold; (try dsimp only)) | ((fail_if_success (with_reducible show wpAny _ _ (pyIter (Value.ref _)) _ _ _)); (fail_if_success (with_reducible show wpAny _ _ (exec (Stmt.While _ _ _ _) _) _ _ _)); (fail_if_success (with_reducible show InvEndN _ _ _ _ _ _ _)); (fail_if_success (with_reducible show KswEnd _ _ _ _ _ _ _ _ _ _ _ _)); (walk1 <;> (try dsimp only))) | (leave1; try dsimp only))
    all_goals first
      | (exfalso; omega)
      | (refine hret _ _ _ ⟨_, congrArg (fun z => Value.int z _) ?_⟩ (by k_asm) (by first | exact drop1 (drop1 (drop1 ((by assumption)))) | exact drop1 (drop1 (drop1 (drop1 ((by assumption))))) | exact drop1 (drop1 (drop1 (drop1 (drop1 ((by assumption)))))) | exact drop1 (drop1 (drop1 (drop1 (drop1 (drop1 ((by assumption))))))) | exact drop1 (drop1 (drop1 (drop1 (drop1 (drop1 (drop1 ((by assumption)))))))) | exact drop1 (drop1 (drop1 (drop1 (drop1 (drop1 (drop1 (drop1 ((by assumption))))))))) | exact drop1 (drop1 (drop1 (drop1 (drop1 (drop1 (drop1 (drop1 (drop1 ((by assumption))))))))))))
    all_goals (refine nl_end (by assumption) (by assumption) (by assumption) (by assumption) (by first | exact t_t (by assumption) (by assumption) | exact t_f (by assumption)) ?_)
    all_goals first
      | exact b_a (by assumption) (by assumption)
      | exact b_b (by assumption) (by assumption) (by assumption) (by assumption) (by assumption)
      | exact b_c (by assumption) (by assumption) (by assumption) (by assumption) (by assumption)
      | exact b_0 (by assumption) (by rintro ⟨q1, q2, q3⟩; first | omega | exact absurd (Eq.trans (Eq.symm q3) (show longL y = true by assumption)) (by decide)) (by rintro ⟨q1, q2, q3⟩; first | omega | exact absurd (Eq.trans (Eq.symm q3) (show longL (y - 1) = false by assumption)) (by decide))
end
section
local macro_rules | `(tactic| walk_at "call ref") => `(tactic| (k_here; k_dflt (
  (first | refine' fn_use (longL_ok _ _) ?k1 ?k2 ?k3 ?k4 ?k5 ?kK ?kd ?ku ?_);
  (case k1 => k_asm); (case k2 => k_asm); (case k3 => k_asm); (case k4 => k_asm); (case k5 => k_asm); (case kK => first | exact rfl | assumption); (case kd => ktr_room); (case ku => ktr_units);
  intro r9 h9 tk9 R9 F9 N9; (first | (obtain ⟨t9, e9⟩ := R9; subst e9) | (replace R9 : r9 = _ := R9; subst R9)); (try k_sweep); (try dsimp only); (try k_fold))))

set_option maxHeartbeats 8000000 in
theorem monthsL_ok (y sp : Int) (t1 t2 : Tok) : FnOkN 110 10 80 [.int y t1, .int sp t2] (RPairs y sp) := by
  unfold FnOkN
  intro prog w mean mg mb news dp un gd cn cs a ccd cl outer A₀ base h₀ L m s Q E B F X N T hk hdp hun hret
  refine wpAny_call ?_
  k_dflt cell_enter
  repeat' (first | (k_unfold; (try dsimp only)) | ((fail_if_success (with_reducible show wpAny _ _ (pyIter (Value.ref _)) _ _ _)); (fail_if_success (with_reducible show wpAny _ _ (exec (Stmt.While _ _ _ _) _) _ _ _)); (fail_if_success (with_reducible show InvEndN _ _ _ _ _ _ _)); (fail_if_success (with_reducible show KswEnd _ _ _ _ _ _ _ _ _ _ _ _)); (walk1 <;> (try dsimp only))) | (leave1; try dsimp only))
  all_goals try (refine' hret _ [_, _, _, _, _, _, _, _, _, _, _, _, _, _, _, _, _, _] _ _ (rpairs (by assumption) (by first | exact hesh_y (by assumption) | exact hesh_n (by assumption)) (by first | exact kisl_y (by assumption) | exact kisl_n (by assumption)) ?t18) ?l18 ?n18 ?o18; (case l18 => k_asm); (case n18 => assumption); (case t18 => (repeat (refine TupsAre.cons (by k_mem) ?_)); exact TupsAre.nil); (case o18 => refine ordN ?_; (repeat (refine List.forall_mem_cons.mpr ⟨by first | assumption | exact allLt_of (by assumption) | exact (show _ ∧ AllLt _ news by assumption).2 | exact (show _ ∧ _ ∧ AllLt _ news by assumption).2.2 | exact (show _ ∧ _ ∧ _ ∧ AllLt _ news by assumption).2.2.2 | exact (show _ ∧ _ ∧ _ ∧ _ ∧ AllLt _ news by assumption).2.2.2.2 | exact (show _ ∧ _ ∧ _ ∧ _ ∧ _ ∧ AllLt _ news by assumption).2.2.2.2.2 | exact (show _ ∧ _ ∧ _ ∧ _ ∧ _ ∧ _ ∧ AllLt _ news by assumption).2.2.2.2.2.2 | exact (show _ ∧ _ ∧ _ ∧ _ ∧ _ ∧ _ ∧ _ ∧ AllLt _ news by assumption).2.2.2.2.2.2.2 | exact (show _ ∧ _ ∧ _ ∧ _ ∧ _ ∧ _ ∧ _ ∧ _ ∧ AllLt _ news by assumption).2.2.2.2.2.2.2.2 | exact (show _ ∧ _ ∧ _ ∧ _ ∧ _ ∧ _ ∧ _ ∧ _ ∧ _ ∧ AllLt _ news by assumption).2.2.2.2.2.2.2.2.2 | exact (show _ ∧ _ ∧ _ ∧ _ ∧ _ ∧ _ ∧ _ ∧ _ ∧ _ ∧ _ ∧ AllLt _ news by assumption).2.2.2.2.2.2.2.2.2.2 | exact (show _ ∧ _ ∧ _ ∧ _ ∧ _ ∧ _ ∧ _ ∧ _ ∧ _ ∧ _ ∧ _ ∧ AllLt _ news by assumption).2.2.2.2.2.2.2.2.2.2.2 | exact (show _ ∧ _ ∧ _ ∧ _ ∧ _ ∧ _ ∧ _ ∧ _ ∧ _ ∧ _ ∧ _ ∧ _ ∧ AllLt _ news by assumption).2.2.2.2.2.2.2.2.2.2.2.2 | exact (show _ ∧ _ ∧ _ ∧ _ ∧ _ ∧ _ ∧ _ ∧ _ ∧ _ ∧ _ ∧ _ ∧ _ ∧ _ ∧ AllLt _ news by assumption).2.2.2.2.2.2.2.2.2.2.2.2.2 | exact (show _ ∧ _ ∧ _ ∧ _ ∧ _ ∧ _ ∧ _ ∧ _ ∧ _ ∧ _ ∧ _ ∧ _ ∧ _ ∧ _ ∧ AllLt _ news by assumption).2.2.2.2.2.2.2.2.2.2.2.2.2.2 | exact (show _ ∧ _ ∧ _ ∧ _ ∧ _ ∧ _ ∧ _ ∧ _ ∧ _ ∧ _ ∧ _ ∧ _ ∧ _ ∧ _ ∧ _ ∧ AllLt _ news by assumption).2.2.2.2.2.2.2.2.2.2.2.2.2.2.2 | exact (show _ ∧ _ ∧ _ ∧ _ ∧ _ ∧ _ ∧ _ ∧ _ ∧ _ ∧ _ ∧ _ ∧ _ ∧ _ ∧ _ ∧ _ ∧ _ ∧ AllLt _ news by assumption).2.2.2.2.2.2.2.2.2.2.2.2.2.2.2.2 | exact (show _ ∧ _ ∧ _ ∧ _ ∧ _ ∧ _ ∧ _ ∧ _ ∧ _ ∧ _ ∧ _ ∧ _ ∧ _ ∧ _ ∧ _ ∧ _ ∧ _ ∧ AllLt _ news by assumption).2.2.2.2.2.2.2.2.2.2.2.2.2.2.2.2.2 | exact (show _ ∧ _ ∧ _ ∧ _ ∧ _ ∧ _ ∧ _ ∧ _ ∧ _ ∧ _ ∧ _ ∧ _ ∧ _ ∧ _ ∧ _ ∧ _ ∧ _ ∧ _ ∧ AllLt _ news by assumption).2.2.2.2.2.2.2.2.2.2.2.2.2.2.2.2.2.2 | exact (show _ ∧ _ ∧ _ ∧ _ ∧ _ ∧ _ ∧ _ ∧ _ ∧ _ ∧ _ ∧ _ ∧ _ ∧ _ ∧ _ ∧ _ ∧ _ ∧ _ ∧ _ ∧ _ ∧ AllLt _ news by assumption).2.2.2.2.2.2.2.2.2.2.2.2.2.2.2.2.2.2.2, ?_⟩)); exact List.forall_mem_nil _))
  all_goals try (refine' hret _ [_, _, _, _, _, _, _, _, _, _, _, _, _, _, _, _, _] _ _ (rpairs (by assumption) (by first | exact hesh_y (by assumption) | exact hesh_n (by assumption)) (by first | exact kisl_y (by assumption) | exact kisl_n (by assumption)) ?t17) ?l17 ?n17 ?o17; (case l17 => k_asm); (case n17 => assumption); (case t17 => (repeat (refine TupsAre.cons (by k_mem) ?_)); exact TupsAre.nil); (case o17 => refine ordN ?_; (repeat (refine List.forall_mem_cons.mpr ⟨by first | assumption | exact allLt_of (by assumption) | exact (show _ ∧ AllLt _ news by assumption).2 | exact (show _ ∧ _ ∧ AllLt _ news by assumption).2.2 | exact (show _ ∧ _ ∧ _ ∧ AllLt _ news by assumption).2.2.2 | exact (show _ ∧ _ ∧ _ ∧ _ ∧ AllLt _ news by assumption).2.2.2.2 | exact (show _ ∧ _ ∧ _ ∧ _ ∧ _ ∧ AllLt _ news by assumption).2.2.2.2.2 | exact (show _ ∧ _ ∧ _ ∧ _ ∧ _ ∧ _ ∧ AllLt _ news by assumption).2.2.2.2.2.2 | exact (show _ ∧ _ ∧ _ ∧ _ ∧ _ ∧ _ ∧ _ ∧ AllLt _ news by assumption).2.2.2.2.2.2.2 | exact (show _ ∧ _ ∧ _ ∧ _ ∧ _ ∧ _ ∧ _ ∧ _ ∧ AllLt _ news by assumption).2.2.2.2.2.2.2.2 | exact (show _ ∧ _ ∧ _ ∧ _ ∧ _ ∧ _ ∧ _ ∧ _ ∧ _ ∧ AllLt _ news by assumption).2.2.2.2.2.2.2.2.2 | exact (show _ ∧ _ ∧ _ ∧ _ ∧ _ ∧ _ ∧ _ ∧ _ ∧ _ ∧ _ ∧ AllLt _ news by assumption).2.2.2.2.2.2.2.2.2.2 | exact (show _ ∧ _ ∧ _ ∧ _ ∧ _ ∧ _ ∧ _ ∧ _ ∧ _ ∧ _ ∧ _ ∧ AllLt _ news by assumption).2.2.2.2.2.2.2.2.2.2.2 | exact (show _ ∧ _ ∧ _ ∧ _ ∧ _ ∧ _ ∧ _ ∧ _ ∧ _ ∧ _ ∧ _ ∧ _ ∧ AllLt _ news by assumption).2.2.2.2.2.2.2.2.2.2.2.2 | exact (show _ ∧ _ ∧ _ ∧ _ ∧ _ ∧ _ ∧ _ ∧ _ ∧ _ ∧ _ ∧ _ ∧ _ ∧ _ ∧ AllLt _ news by assumption).2.2.2.2.2.2.2.2.2.2.2.2.2 | exact (show _ ∧ _ ∧ _ ∧ _ ∧ _ ∧ _ ∧ _ ∧ _ ∧ _ ∧ _ ∧ _ ∧ _ ∧ _ ∧ _ ∧ AllLt _ news by assumption).2.2.2.2.2.2.2.2.2.2.2.2.2.2 | exact (show _ ∧ _ ∧ _ ∧ _ ∧ _ ∧ _ ∧ _ ∧ _ ∧ _ ∧ _ ∧ _ ∧ _ ∧ _ ∧ _ ∧ _ ∧ AllLt _ news by assumption).2.2.2.2.2.2.2.2.2.2.2.2.2.2.2 | exact (show _ ∧ _ ∧ _ ∧ _ ∧ _ ∧ _ ∧ _ ∧ _ ∧ _ ∧ _ ∧ _ ∧ _ ∧ _ ∧ _ ∧ _ ∧ _ ∧ AllLt _ news by assumption).2.2.2.2.2.2.2.2.2.2.2.2.2.2.2.2 | exact (show _ ∧ _ ∧ _ ∧ _ ∧ _ ∧ _ ∧ _ ∧ _ ∧ _ ∧ _ ∧ _ ∧ _ ∧ _ ∧ _ ∧ _ ∧ _ ∧ _ ∧ AllLt _ news by assumption).2.2.2.2.2.2.2.2.2.2.2.2.2.2.2.2.2 | exact (show _ ∧ _ ∧ _ ∧ _ ∧ _ ∧ _ ∧ _ ∧ _ ∧ _ ∧ _ ∧ _ ∧ _ ∧ _ ∧ _ ∧ _ ∧ _ ∧ _ ∧ _ ∧ AllLt _ news by assumption).2.2.2.2.2.2.2.2.2.2.2.2.2.2.2.2.2.2 | exact (show _ ∧ _ ∧ _ ∧ _ ∧ _ ∧ _ ∧ _ ∧ _ ∧ _ ∧ _ ∧ _ ∧ _ ∧ _ ∧ _ ∧ _ ∧ _ ∧ _ ∧ _ ∧ _ ∧ AllLt _ news by assumption).2.2.2.2.2.2.2.2.2.2.2.2.2.2.2.2.2.2.2, ?_⟩)); exact List.forall_mem_nil _))
  all_goals (exfalso; omega)
end
section
section
variable {prog : Program} {w : World} {A : Around} {E : Value → Shared → Prop} {s : Shared} {env : Env} {h₀ : Heap} {target : PySem.Expr} {body : List Stmt} {Q : Flow → Shared → Prop}
/-- a loop over a made list, by what holds of the rest of its items, the frame and the ledger -/
theorem items_inv {I ax : Addr} {lo : Obj} (J : List Value → (Str → Option Value) → List (Addr × Obj) → Prop)
    (turn : ∀ v r m nx h tk o, J (v :: r) m nx → (ax, lo) ∈ nx → (∀ p ∈ nx, p.1 ≠ I) → o.cls = .type "list_iterator" → Fr h₀ env.locals h m → News h₀ env.locals h ((I, o) :: nx) →
      wpAny (model prog w) A (assign target env v) (fun _ s₂ => wpAny (model prog w) A (execs body env) (UnrPostW h₀ env.locals { s with heap := h, toks := tk } [(I, o)] (fun m' n' => (ax, lo) ∈ n' ∧ J r m' n') Q) E s₂) E { s with heap := h, toks := tk })
    (done : ∀ m nx h tk, J [] m nx → (ax, lo) ∈ nx → (∀ p ∈ nx, p.1 ≠ I) → Fr h₀ env.locals h m → News h₀ env.locals h nx → Q .next { s with heap := h, toks := tk }) :
    ∀ vs m nx, J vs m nx → (ax, lo) ∈ nx → (∀ p ∈ nx, p.1 ≠ I) → ItemsRest prog w A E h₀ env target body Q s [(I, "list_iterator")] [(ax, lo)] (vs.map .val) m nx := by
  intro vs
  induction vs with
  | nil => exact fun m nx hJ hk ho => ItemsRest.zero fun h tk F N => done m nx h tk hJ hk ho F N
  | cons v r ih =>
    intro m nx hJ hk ho
    refine ItemsRest.val fun h tk F => ?_
    refine AllObj.cons fun o hc => AllObj.nil fun N => ?_
    refine wpAny_mono (turn v r m nx h tk o hJ hk ho hc F N) (fun _ s₂ h₂ => wpAny_mono h₂ (fun f s₃ h₃ => ?_) fun _ _ e => e) fun _ _ e => e
    have up : ∀ s₃, UnrEndW h₀ env.locals { s with heap := h, toks := tk } [(I, o)] (fun m' n' => (ax, lo) ∈ n' ∧ J r m' n') s₃ →
        UnrEndW h₀ env.locals { s with heap := h, toks := tk } [(I, o)] (fun m' n' => SubL [(ax, lo)] n' ∧ ItemsRest prog w A E h₀ env target body Q s [(I, "list_iterator")] [(ax, lo)] (r.map .val) m' n') s₃ := by
      rintro s₃ ⟨h', tk', m', n', e, F', N', off, hk', hJ'⟩
      exact ⟨h', tk', m', n', e, F', N', off, ⟨hk', trivial⟩, ih m' n' hJ' hk' fun p hp => off p hp _ (List.mem_singleton.mpr rfl)⟩
    cases f with
    | ret v => exact h₃
    | brk => exact h₃
    | next => exact up _ h₃
    | cont => exact up _ h₃
theorem list_loop {ax : Addr} {lo : Obj} {vs : List Value} {n : Nat} {m₀ : Str → Option Value} {news : List (Addr × Obj)} (J : List Value → (Str → Option Value) → List (Addr × Obj) → Prop)
    (hh : A.handled = none) (F : Fr h₀ env.locals s.heap m₀) (N : News h₀ env.locals s.heap news) (hm : (ax, lo) ∈ news) (hc : lo.cls = .type "list") (hd : lo.data = .seq vs.toArray n) (hJ : J vs m₀ news)
    (turn : ∀ (I : Addr) v r m nx h tk o, (∀ p ∈ news, p.1 < I) → J (v :: r) m nx → (ax, lo) ∈ nx → (∀ p ∈ nx, p.1 ≠ I) → o.cls = .type "list_iterator" → Fr h₀ env.locals h m → News h₀ env.locals h ((I, o) :: nx) →
      wpAny (model prog w) A (assign target env v) (fun _ s₂ => wpAny (model prog w) A (execs body env) (UnrPostW h₀ env.locals { s with heap := h, toks := tk } [(I, o)] (fun m' n' => (ax, lo) ∈ n' ∧ J r m' n') Q) E s₂) E { s with heap := h, toks := tk })
    (done : ∀ m nx h tk, J [] m nx → Fr h₀ env.locals h m → News h₀ env.locals h nx → Q .next { s with heap := h, toks := tk }) :
    wpAny (model prog w) A (pyIter (.ref ax)) (fun it s₂ => TurnsAt prog w A h₀ env target body Q E it s₂) E s :=
  iter_listTurns hh F N hm hc hd fun I hI => items_inv J (fun v r m nx h tk o a b c d e f => turn I v r m nx h tk o hI a b c d e f) (fun m nx h tk a _ _ c d => done m nx h tk a c d) vs m₀ news hJ hm fun p hp => Nat.ne_of_lt (hI p hp)
end
section
open PyProof.Rows.LCg PyProof.Rows.LCp
theorem TupsAre.get {nx : List (Addr × Obj)} : ∀ {vs : List Value} {ps : List (Int × Int)}, TupsAre nx vs ps → ∀ {i : Nat} {v : Value}, vs[i]? = some v → ∃ b o l t u k, v = .ref b ∧ (b, tupOf o l t u k) ∈ nx ∧ ps[i]? = some (o, l)
  | _, _, .nil, i, v, h => by simp at h
  | _, _, .cons (b := b) (o := o) (l := l) (t := t) (u := u) (k := k) hm r, 0, v, h => by
    simp at h
    exact ⟨b, o, l, t, u, k, h.symm, hm, rfl⟩
  | _, _, .cons hm r, i + 1, v, h => by
    simp at h
    exact r.get h
theorem compP_pairs {prog : Program} {w : World} {A : Around} {s : Shared} {h₀ : Heap} {L : Addr} {m : Str → Option Value} {env : Env} {elt : PySem.Expr} {x x₂ : Str} {scope : Scope} {cl : List (Str × Addr)} {S : List (Addr × Obj) → Prop} {Fin : List Value → List (Addr × Obj) → Prop} {news : List (Addr × Obj)} {vs : List Value} {ps : List (Int × Int)}
    (f : Int → Int → Int) (ht : TupsAre news vs ps)
    (turn : ∀ (o l : Int) t u (ys : List Value) I oI C oC D m₂ h tk (E' : Value → Shared → Prop) (K : Value → List (Addr × Obj) → Prop), (o, l) ∈ ps → NsObj oC m₂ → m₂ x = some (.int o t) → m₂ x₂ = some (.int l u) → Fr h₀ L h m → News h₀ L h ((I, oI) :: (C, oC) :: (D, lst ys) :: news) → Off3 I C D news → ((@Ne Nat I C) ∧ (@Ne Nat I D) ∧ (@Ne Nat C D)) →
      (∀ z, K (.int (f o l) z) news) →
      wpAny (model prog w) A (eval elt (compEnvC scope cl C env)) (CompEnd h₀ L m { s with heap := h, toks := tk } I oI C oC D (lst ys) S K) E' { s with heap := h, toks := tk })
    (fin : ∀ ys : List Value, IntsAre ys (ps.map fun p => f p.1 p.2) → Fin ys news) :
    CompRestP prog w A h₀ L m env elt x x₂ scope cl s S (fun i v => vs.toArray[i]? = some v) Fin vs.length 0 [] news := by
  have key : ∀ k i (ys : List Value), i + k = vs.length → IntsAre ys ((ps.take i).map fun p => f p.1 p.2) →
      CompRestP prog w A h₀ L m env elt x x₂ scope cl s S (fun i v => vs.toArray[i]? = some v) Fin k i ys news := by
    intro k
    induction k with
    | zero =>
      intro i ys hik hl
      refine CompRestP.zero (fin ys ?_)
      rwa [List.take_of_length_le (by rw [← ht.len]; omega)] at hl
    | succ k ih =>
      intro i ys hik hl
      refine CompRestP.succ ?_
      intro v hP
      have hP' : vs[i]? = some v := by simpa using hP
      obtain ⟨b, o, l, t, u, kk, hv, hm, hp⟩ := ht.get hP'
      refine ⟨b, _, .int o t, .int l u, kk, hv, hm, rfl, rfl, ?_⟩
      intro I oI C oC D m₂ h tk E' hN hx hx₂ hF hW ho hne
      refine turn o l t u ys I oI C oC D m₂ h tk E' _ (List.mem_of_getElem? hp) hN hx hx₂ hF hW ho hne fun z => ?_
      refine ih (i + 1) _ (by omega) ?_
      have e : (ps.take (i + 1)).map (fun p => f p.1 p.2) = (ps.take i).map (fun p => f p.1 p.2) ++ [f o l] := by
        rw [List.take_add_one, hp]; simp
      rw [e]
      exact IntsAre.append hl (IntsAre.cons _ _ IntsAre.nil)
  exact key vs.length 0 [] (by omega) (by simpa using IntsAre.nil)
end
end
section
def findDue : List (Int × Int) → Int → Option (Int × Int)
  | [], _ => none
  | (o, l) :: r, p => if p < l then some (o, p + 1) else findDue r (p - l)
theorem days_ge1 (z : Int) : 347998 ≤ 347998 + if z < 0 then -z else z := by split <;> omega
theorem days_ge2 (z w : Int) : 347998 ≤ newYear (1 + if z < 0 then -z else z) + w.fmod 386 := by
  have h : 1 ≤ 1 + if z < 0 then -z else z := by split <;> omega
  have h1 := ny_ge h
  have h2 : 0 ≤ w.fmod 386 := Int.fmod_nonneg_of_pos w (by decide)
  omega
theorem spec_y {x y m d : Int} (h : Spec x y m d) : 1 ≤ y := h.1.1
theorem spec_p {x y m d : Int} (h : Spec x y m d) : newYear y ≤ x := h.1.2.1
theorem spec_m {x y m d : Int} (h : Spec x y m d) : 1 ≤ m ∧ m ≤ 13 := w2_lo h.2.1
theorem pairs_mon {lg : Bool} {h k o l : Int} (hm : (o, l) ∈ pairsL lg h k) : o ≤ 13 := by
  cases lg <;> simp [pairsL] at hm <;> omega
theorem pick {h₀ h : Heap} {L l : Addr} {x y : Int} {t u : Tok} {n : Nat} {d1 d2 d3 c : Addr × Obj} (N : News h₀ L h [(l, W.listOf #[.int x t, .int y u] n), d1, d2, d3, c]) (hx : 347998 ≤ x) (hy : 347998 ≤ y) :
    ∃ (lo : Obj) (vs : List Value) (k : Nat), lo.cls = .type "list" ∧ lo.data = .seq vs.toArray k ∧ (∀ v ∈ vs, ∃ x t, v = .int x t ∧ 347998 ≤ x) ∧ News h₀ L h [(l, lo), c] := by
  refine ⟨W.listOf #[.int x t, .int y u] n, [.int x t, .int y u], n, rfl, rfl, ?_, fun p hp => ?_⟩
  · intro v hv
    rcases List.mem_cons.mp hv with rfl | hv
    · exact ⟨x, t, rfl, hx⟩
    · rw [List.mem_singleton.mp hv]; exact ⟨y, u, rfl, hy⟩
  · rcases List.mem_cons.mp hp with rfl | hp
    · exact N _ (.head _)
    · rw [List.mem_singleton.mp hp]; exact N _ (.tail _ (.tail _ (.tail _ (.tail _ (.head _)))))
def DueJ (mB : Str → Option Value) (N0 : List (Addr × Obj)) (M D : Int) (r : List Value) (m : Str → Option Value) (nx : List (Addr × Obj)) : Prop :=
  ∃ ps p tp, TupsAre N0 r ps ∧ m "place" = some (.int p tp) ∧ (∀ z : Str, z ≠ "place" → z ≠ "due" → z ≠ "other" → z ≠ "length" → m z = mB z) ∧
    ((m "due" = some .none ∧ nx = N0 ∧ findDue ps p = some (M, D)) ∨ ∃ b tM tD k, m "due" = some (.ref b) ∧ nx = (b, tupOf M D tM tD k) :: N0)
theorem frame4 {m mB : Str → Option Value} {vp vd : Value} (h1 : m "place" = some vp) (h2 : m "due" = some vd) (h3 : ∀ z : Str, z ≠ "place" → z ≠ "due" → z ≠ "other" → z ≠ "length" → m z = mB z) :
    m = fun z => if z = ("place" : Str) then some vp else if z = ("due" : Str) then some vd else if z = ("other" : Str) then m z else if z = ("length" : Str) then m z else mB z := by
  funext z
  by_cases e1 : z = "place"
  · rw [if_pos e1, e1, h1]
  · rw [if_neg e1]
    by_cases e2 : z = "due"
    · rw [if_pos e2, e2, h2]
    · rw [if_neg e2]
      by_cases e3 : z = "other"
      · rw [if_pos e3]
      · rw [if_neg e3]
        by_cases e4 : z = "length"
        · rw [if_pos e4]
        · rw [if_neg e4]; exact h3 z e1 e2 e3 e4
theorem due_start {mB : Str → Option Value} {N0 : List (Addr × Obj)} {M D p : Int} {tp : Tok} {vs : List Value} {ps : List (Int × Int)} (ht : TupsAre N0 vs ps) (hp : mB "place" = some (.int p tp)) (hd : mB "due" = some .none) (hf : findDue ps p = some (M, D)) : DueJ mB N0 M D vs mB N0 :=
  ⟨ps, p, tp, ht, hp, fun _ _ _ _ _ => rfl, .inl ⟨hd, rfl, hf⟩⟩
theorem TupsAre.inv {nx : List (Addr × Obj)} {v : Value} {r : List Value} {ps : List (Int × Int)} (h : TupsAre nx (v :: r) ps) :
    ∃ b o l t u k ps', v = .ref b ∧ ps = (o, l) :: ps' ∧ (b, tupOf o l t u k) ∈ nx ∧ TupsAre nx r ps' := by
  cases h with
  | cons hm hr => exact ⟨_, _, _, _, _, _, _, rfl, rfl, hm, hr⟩
theorem news_front {h₀ h : Heap} {L : Addr} {q : Addr × Obj} {news : List (Addr × Obj)} (N : News h₀ L h news) (hq : q ∈ news) : News h₀ L h (q :: news) := fun p hp => by
  rcases List.mem_cons.mp hp with rfl | hp
  · exact N _ hq
  · exact N _ hp
theorem due_yes {o l p M D : Int} {ps : List (Int × Int)} (h : findDue ((o, l) :: ps) p = some (M, D)) (hl : p < l) : M = o ∧ D = p + 1 := by
  unfold findDue at h; rw [if_pos hl] at h
  have := Option.some.inj h
  exact ⟨(congrArg Prod.fst this).symm, (congrArg Prod.snd this).symm⟩
theorem due_no {o l p M D : Int} {ps : List (Int × Int)} (h : findDue ((o, l) :: ps) p = some (M, D)) (hl : ¬ p < l) : findDue ps (p - l) = some (M, D) := by
  unfold findDue at h; rwa [if_neg hl] at h
theorem news_y {h₀ h : Heap} {L D : Addr} {o l M Dd : Int} {t u : Tok} {k : Nat} {b I : Addr × Obj} {N0 : List (Addr × Obj)} (N : News h₀ L h ((D, tupOf o l t u k) :: b :: I :: N0)) (e1 : M = o) (e2 : Dd = l) : News h₀ L h ([I] ++ ((D, tupOf M Dd t u k) :: N0)) := by
  subst e1; subst e2
  intro p hp
  rcases List.mem_cons.mp hp with rfl | hp
  · exact N _ (.tail _ (.tail _ (.head _)))
  · rcases List.mem_cons.mp hp with rfl | hp
    · exact N _ (.head _)
    · exact N _ (.tail _ (.tail _ (.tail _ hp)))
theorem news_n {h₀ h : Heap} {L : Addr} {b I : Addr × Obj} {N0 : List (Addr × Obj)} (N : News h₀ L h (b :: I :: N0)) : News h₀ L h ([I] ++ N0) := fun p hp => by
  rcases List.mem_cons.mp hp with rfl | hp
  · exact N _ (.tail _ (.head _))
  · exact N _ (.tail _ (.tail _ hp))
theorem off_n {I : Addr} {oI : Obj} {N0 : List (Addr × Obj)} (hoff : ∀ p ∈ N0, p.1 ≠ I) : ∀ p ∈ N0, ∀ q ∈ [(I, oI)], p.1 ≠ q.1 := fun p hp q hq => by
  rw [List.mem_singleton.mp hq]; exact hoff p hp
theorem off_y {h₀ h : Heap} {L D I : Addr} {oI od : Obj} {b : Addr × Obj} {N0 : List (Addr × Obj)} {o l : Int} {t u : Tok} {k : Nat} (N : News h₀ L h ((D, tupOf o l t u k) :: b :: (I, oI) :: N0)) (hc : oI.cls = .type "list_iterator") (hoff : ∀ p ∈ N0, p.1 ≠ I) :
    ∀ p ∈ (D, od) :: N0, ∀ q ∈ [(I, oI)], p.1 ≠ q.1 := fun p hp q hq => by
  rw [List.mem_singleton.mp hq]
  rcases List.mem_cons.mp hp with rfl | hp
  · intro e
    have h1 := (N _ (.head _)).1
    have h2 := (N (I, oI) (.tail _ (.tail _ (.head _)))).1
    dsimp only at e h1 h2
    rw [e, h2] at h1
    have := congrArg Obj.cls (Option.some.inj h1)
    rw [hc] at this
    have e2 : Value.type "list_iterator" = Value.type "tuple" := this
    injection e2 with e3
    exact absurd e3 (by decide)
  · exact hoff p hp
theorem TupsAre.nil_inv {nx : List (Addr × Obj)} {ps : List (Int × Int)} (h : TupsAre nx [] ps) : ps = [] := by
  cases h; rfl
theorem news_re {h₀ h : Heap} {L : Addr} {b a x1 x2 x3 x4 : Addr × Obj} {rest : List (Addr × Obj)} (N : News h₀ L h (b :: a :: (rest ++ [x1, x2, x3, x4]))) : News h₀ L h (b :: x4 :: x2 :: x3 :: a :: rest) := by
  intro p hp
  refine N p ?_
  simp only [List.mem_cons, List.mem_append, List.not_mem_nil, or_false] at hp ⊢
  rcases hp with h | h | h | h | h | h <;> simp [h]
theorem news_out {h₀ h : Heap} {L : Addr} {d1 d2 d3 d4 c I l : Addr × Obj} {rest : List (Addr × Obj)} (N : News h₀ L h (d1 :: d2 :: d3 :: d4 :: c :: I :: l :: rest)) : News h₀ L h ([I] ++ [l, c]) := by
  intro p hp
  refine N p ?_
  simp only [List.mem_cons, List.mem_append, List.not_mem_nil, or_false] at hp ⊢
  rcases hp with h | h | h <;> simp [h]
theorem off_out {l c I : Addr} {ol oc oI : Obj} (h1 : @LT.lt Nat _ l I) (h2 : @LT.lt Nat _ c I) : ∀ p ∈ [(l, ol), (c, oc)], ∀ q ∈ [(I, oI)], p.1 ≠ q.1 := fun p hp q hq => by
  rw [List.mem_singleton.mp hq]
  rcases List.mem_cons.mp hp with rfl | hp
  · exact Nat.ne_of_lt h1
  · rw [List.mem_singleton.mp hp]; exact Nat.ne_of_lt h2
end
section
theorem pairs_len (y h k : Int) : ((pairsL (longL y) h k).length : Int) = yearMonths y := by
  unfold yearMonths
  rw [leap_long]
  cases longL y <;> rfl
theorem pairs_map (y : Int) : (pairsL (longL y) (hesh (newYear (y + 1) - newYear y)) (kisl (newYear (y + 1) - newYear y))).map (fun p => monthLen y p.1) = (pairsL (longL y) (hesh (newYear (y + 1) - newYear y)) (kisl (newYear (y + 1) - newYear y))).map (fun p => p.2) := by
  have eh : hesh (newYear (y + 1) - newYear y) = Hs y := rfl
  have ek : kisl (newYear (y + 1) - newYear y) = Ks y := rfl
  rw [eh, ek]
  have h12 := m12 y
  rw [leap_long] at h12
  unfold pairsL
  cases hl : longL y
  · rw [hl, if_neg (by decide)] at h12
    simp only [List.map_append, List.map_cons, List.map_nil, if_neg (show ¬ false = true by decide), m7, m8, m9, m10, m11, h12, m1, m2, m3, m4, m5, m6]
  · rw [hl, if_pos rfl] at h12
    simp only [List.map_append, List.map_cons, List.map_nil, if_true, m7, m8, m9, m10, m11, h12, m13, m1, m2, m3, m4, m5, m6]
theorem month_cases {y m : Int} {x : Int} (h : W2 x y m m) : m = 7 ∨ m = 8 ∨ m = 9 ∨ m = 10 ∨ m = 11 ∨ m = 12 ∨ (m = 13 ∧ leapF y = true) ∨ m = 1 ∨ m = 2 ∨ m = 3 ∨ m = 4 ∨ m = 5 ∨ m = 6 := by
  have := ym_le y
  obtain ⟨-, h, -⟩ := h
  rcases h with ⟨a, b, -⟩ | h
  · cases hl : leapF y
    · rw [ym_12 hl] at b; omega
    · rw [ym_13 hl] at b
      have : m = 7 ∨ m = 8 ∨ m = 9 ∨ m = 10 ∨ m = 11 ∨ m = 12 ∨ m = 13 := by omega
      rcases this with q | q | q | q | q | q | q <;> simp [q]
  · omega
theorem spec_jd {x y m d : Int} (h : Spec x y m d) : toJd y m d = x := by
  obtain ⟨⟨y1, y2, y3⟩, hw, hl, hd⟩ := h
  have hc := month_cases hw
  have hlo := hw.2.2
  have hd1 : 1 ≤ d := by omega
  rcases hc with q | q | q | q | q | q | ⟨q, _⟩ | q | q | q | q | q | q <;> subst q
  · rw [t7 y1 (by omega)] at hd; rw [t7 y1 hd1]; omega
  · rw [t8 y1 (by omega)] at hd; rw [t8 y1 hd1]; omega
  · rw [t9 y1 (by omega)] at hd; rw [t9 y1 hd1]; omega
  · rw [t10 y1 (by omega)] at hd; rw [t10 y1 hd1]; omega
  · rw [t11 y1 (by omega)] at hd; rw [t11 y1 hd1]; omega
  · rw [t12 y1 (by omega)] at hd; rw [t12 y1 hd1]; omega
  · rw [t13 y1 (by omega)] at hd; rw [t13 y1 hd1]; omega
  · rw [t1 y1 (by omega)] at hd; rw [t1 y1 hd1]; omega
  · rw [t2 y1 (by omega)] at hd; rw [t2 y1 hd1]; omega
  · rw [t3 y1 (by omega)] at hd; rw [t3 y1 hd1]; omega
  · rw [t4 y1 (by omega)] at hd; rw [t4 y1 hd1]; omega
  · rw [t5 y1 (by omega)] at hd; rw [t5 y1 hd1]; omega
  · rw [t6 y1 (by omega)] at hd; rw [t6 y1 hd1]; omega
theorem fd_skip {o l p : Int} {r : List (Int × Int)} (h : ¬ p < l) : findDue ((o, l) :: r) p = findDue r (p - l) := if_neg h
theorem fd_hit {o l p M D : Int} {r : List (Int × Int)} (h : p < l) (e1 : o = M) (e2 : p + 1 = D) : findDue ((o, l) :: r) p = some (M, D) := by
  rw [← e1, ← e2]; exact if_pos h
theorem spec_due {x y m d : Int} (h : Spec x y m d) : findDue (pairsL (longL y) (hesh (newYear (y + 1) - newYear y)) (kisl (newYear (y + 1) - newYear y))) (x - newYear y) = some (m, d) := by
  have eh : hesh (newYear (y + 1) - newYear y) = Hs y := rfl
  have ek : kisl (newYear (y + 1) - newYear y) = Ks y := rfl
  rw [eh, ek]
  obtain ⟨⟨y1, y2, y3⟩, hw, hl, hd⟩ := h
  have hc := month_cases hw
  have hlo := hw.2.2
  have hh := hs_lo y
  have hk := ks_lo y
  have h12 := m12 y
  have hE : EE y = (if leapF y = true then 148 else 118) + Hs y + Ks y := rfl
  clear hw
  rw [leap_long] at h12 hE hc
  cases hlg : longL y
  · rw [hlg, if_neg (by decide)] at h12 hE
    rw [hlg] at hc
    show findDue [(7, 30), (8, Hs y), (9, Ks y), (10, 29), (11, 30), (12, 29), (1, 30), (2, 29), (3, 30), (4, 29), (5, 30), (6, 29)] (x - newYear y) = some (m, d)
    rcases hc with q | q | q | q | q | q | ⟨_, q⟩ | q | q | q | q | q | q <;> try subst q
    · rw [m7] at hl; rw [t7 y1 (by omega)] at hl hlo hd
      exact fd_hit (by omega) rfl (by omega)
    · rw [m8] at hl; rw [t8 y1 (by omega)] at hl hlo hd
      rw [fd_skip (by omega)]; exact fd_hit (by omega) rfl (by omega)
    · rw [m9] at hl; rw [t9 y1 (by omega)] at hl hlo hd
      iterate 2 rw [fd_skip (by omega)]
      exact fd_hit (by omega) rfl (by omega)
    · rw [m10] at hl; rw [t10 y1 (by omega)] at hl hlo hd
      iterate 3 rw [fd_skip (by omega)]
      exact fd_hit (by omega) rfl (by omega)
    · rw [m11] at hl; rw [t11 y1 (by omega)] at hl hlo hd
      iterate 4 rw [fd_skip (by omega)]
      exact fd_hit (by omega) rfl (by omega)
    · rw [h12] at hl; rw [t12 y1 (by omega)] at hl hlo hd
      iterate 5 rw [fd_skip (by omega)]
      exact fd_hit (by omega) rfl (by omega)
    · exact absurd q (by decide)
    · rw [m1] at hl; rw [t1 y1 (by omega)] at hl hlo hd
      iterate 6 rw [fd_skip (by omega)]
      exact fd_hit (by omega) rfl (by omega)
    · rw [m2] at hl; rw [t2 y1 (by omega)] at hl hlo hd
      iterate 7 rw [fd_skip (by omega)]
      exact fd_hit (by omega) rfl (by omega)
    · rw [m3] at hl; rw [t3 y1 (by omega)] at hl hlo hd
      iterate 8 rw [fd_skip (by omega)]
      exact fd_hit (by omega) rfl (by omega)
    · rw [m4] at hl; rw [t4 y1 (by omega)] at hl hlo hd
      iterate 9 rw [fd_skip (by omega)]
      exact fd_hit (by omega) rfl (by omega)
    · rw [m5] at hl; rw [t5 y1 (by omega)] at hl hlo hd
      iterate 10 rw [fd_skip (by omega)]
      exact fd_hit (by omega) rfl (by omega)
    · rw [m6] at hl; rw [t6 y1 (by omega)] at hl hlo hd
      iterate 11 rw [fd_skip (by omega)]
      exact fd_hit (by omega) rfl (by omega)
  · rw [hlg, if_pos rfl] at h12 hE
    have h13 : (if leapF y = true then (30 : Int) else 29) = 30 := by rw [leap_long, hlg]; rfl
    show findDue [(7, 30), (8, Hs y), (9, Ks y), (10, 29), (11, 30), (12, 30), (13, 29), (1, 30), (2, 29), (3, 30), (4, 29), (5, 30), (6, 29)] (x - newYear y) = some (m, d)
    rcases hc with q | q | q | q | q | q | ⟨q, _⟩ | q | q | q | q | q | q <;> subst q
    · rw [m7] at hl; rw [t7 y1 (by omega)] at hl hlo hd
      exact fd_hit (by omega) rfl (by omega)
    · rw [m8] at hl; rw [t8 y1 (by omega)] at hl hlo hd
      rw [fd_skip (by omega)]; exact fd_hit (by omega) rfl (by omega)
    · rw [m9] at hl; rw [t9 y1 (by omega)] at hl hlo hd
      iterate 2 rw [fd_skip (by omega)]
      exact fd_hit (by omega) rfl (by omega)
    · rw [m10] at hl; rw [t10 y1 (by omega)] at hl hlo hd
      iterate 3 rw [fd_skip (by omega)]
      exact fd_hit (by omega) rfl (by omega)
    · rw [m11] at hl; rw [t11 y1 (by omega)] at hl hlo hd
      iterate 4 rw [fd_skip (by omega)]
      exact fd_hit (by omega) rfl (by omega)
    · rw [h12] at hl; rw [t12 y1 (by omega)] at hl hlo hd
      iterate 5 rw [fd_skip (by omega)]
      exact fd_hit (by omega) rfl (by omega)
    · rw [m13] at hl; rw [t13 y1 (by omega), h13] at hl hlo hd
      iterate 6 rw [fd_skip (by omega)]
      exact fd_hit (by omega) rfl (by omega)
    · rw [m1] at hl; rw [t1 y1 (by omega)] at hl hlo hd
      iterate 7 rw [fd_skip (by omega)]
      exact fd_hit (by omega) rfl (by omega)
    · rw [m2] at hl; rw [t2 y1 (by omega)] at hl hlo hd
      iterate 8 rw [fd_skip (by omega)]
      exact fd_hit (by omega) rfl (by omega)
    · rw [m3] at hl; rw [t3 y1 (by omega)] at hl hlo hd
      iterate 9 rw [fd_skip (by omega)]
      exact fd_hit (by omega) rfl (by omega)
    · rw [m4] at hl; rw [t4 y1 (by omega)] at hl hlo hd
      iterate 10 rw [fd_skip (by omega)]
      exact fd_hit (by omega) rfl (by omega)
    · rw [m5] at hl; rw [t5 y1 (by omega)] at hl hlo hd
      iterate 11 rw [fd_skip (by omega)]
      exact fd_hit (by omega) rfl (by omega)
    · rw [m6] at hl; rw [t6 y1 (by omega)] at hl hlo hd
      iterate 12 rw [fd_skip (by omega)]
      exact fd_hit (by omega) rfl (by omega)
end
section
local macro_rules | `(tactic| walk_at "mine: a row that parts the sections") => `(tactic| fail)

theorem newYearM_ok (y : Int) (t1 : Tok) (h : 1 ≤ y) : FnOk 103 10 80 [.int y t1] (RInt (newYear y)) := nl_eq h ▸ newYearL_ok y t1
theorem leapM_ok (y : Int) (t1 : Tok) : FnOk 28 1 8 [.int y t1] (RBool (longL y)) := leap_long y ▸ leap_ok y t1
theorem longM_ok (y : Int) (t1 : Tok) : FnOk 98 3 24 [.int y t1] (RBool (longL y)) := longL_ok y t1
local macro_rules | `(tactic| walk_at "call ref") => `(tactic| (k_here; k_dflt (
  (first | refine' fn_use (newYearM_ok _ _ (by first | assumption | omega)) ?k1 ?k2 ?k3 ?k4 ?k5 ?kK ?kd ?ku ?_ | refine' fn_use (longM_ok _ _) ?k1 ?k2 ?k3 ?k4 ?k5 ?kK ?kd ?ku ?_ | refine' fn_use (leapM_ok _ _) ?k1 ?k2 ?k3 ?k4 ?k5 ?kK ?kd ?ku ?_ | refine' fn_use (yearMonths_ok _ _) ?k1 ?k2 ?k3 ?k4 ?k5 ?kK ?kd ?ku ?_ | refine' fn_use (yearDays_ok _ _) ?k1 ?k2 ?k3 ?k4 ?k5 ?kK ?kd ?ku ?_ | refine' fn_use (toJd_ok _ _ _ _ _ _ (by first | assumption | omega) (by first | assumption | omega)) ?k1 ?k2 ?k3 ?k4 ?k5 ?kK ?kd ?ku ?_ | refine' fn_use (monthLen_ok _ _ _ _ (by first | assumption | omega)) ?k1 ?k2 ?k3 ?k4 ?k5 ?kK ?kd ?ku ?_);
  (case k1 => k_asm); (case k2 => k_asm); (case k3 => k_asm); (case k4 => k_asm); (case k5 => k_asm); (case kK => first | exact rfl | assumption); (case kd => ktr_room); (case ku => ktr_units);
  intro r9 h9 tk9 R9 F9 N9; (first | (obtain ⟨t9, e9⟩ := R9; subst e9) | (replace R9 : r9 = _ := R9; subst R9)); (try k_sweep); (try dsimp only); (try k_fold))))

set_option maxHeartbeats 8000000 in
theorem mainT : PySem.Challenge.rw_jb0004_01.Holds := by
  refine hd ?_
  w_strict k_go0
  all_goals try k_fold
  repeat' (first | (k_unfold; (try dsimp only)) | ((fail_if_success (with_reducible show wpAny _ _ (exec (Stmt.For _ _ _ _ _) _) _ _ _)); (first | walk1 | (dsimp only; walk1))) | (leave1; try dsimp only))
  rename Shared => s1
  rename_i tA lA hA l1A hB FA NA
  refine For_turns FA ?_
  repeat' (first | (k_unfold; (try dsimp only)) | ((fail_if_success (with_reducible show wpAny _ _ (pyIter (Value.ref _)) _ _ _)); (fail_if_success (with_reducible show wpAny _ _ (exec (Stmt.While _ _ _ _) _) _ _ _)); (fail_if_success (with_reducible show InvEndN _ _ _ _ _ _ _)); (fail_if_success (with_reducible show KswEnd _ _ _ _ _ _ _ _ _ _ _ _)); (walk1 <;> (try dsimp only))) | (leave1; try dsimp only))
  obtain ⟨lo, vs, kk, hcls, hdat, hvs, N2⟩ := pick NA (days_ge1 _) (days_ge2 _ _)
  have hcl : @LT.lt Nat _ (s1.heap.objs.size + 1) lA := l1A.2.2.2
  refine list_loop (fun r m nx => (∀ v ∈ r, ∃ x t, v = .int x t ∧ 347998 ≤ x) ∧ ∃ o v, nx = [(lA, lo), (s1.heap.objs.size + 1, o)] ∧ o.data = .cell v) (by rfl) FA N2 (.head _) hcls hdat ⟨hvs, _, _, rfl, by assumption⟩ ?turn ?done
  case done =>
    rintro m nx h tk ⟨-, o, v, rfl, ho⟩ F9 N9
    dsimp only
    k_steps
  case turn =>
    rintro I v r m nx h tk oI hI ⟨hv, oc, vc, rfl, hoc⟩ hmem hoff hcI F9 N9
    obtain ⟨x, tx, rfl, hx⟩ := hv v (.head _)
    have hlI : @LT.lt Nat _ lA I := hI _ (.head _)
    have hcI : @LT.lt Nat _ (s1.heap.objs.size + 1) I := hI _ (.tail _ (.head _))
    try k_fold
    repeat' (first | (k_unfold; (try dsimp only)) | ((fail_if_success (with_reducible show wpAny _ _ (pyIter (Value.ref _)) _ _ _)); (fail_if_success (with_reducible show wpAny _ _ (exec (Stmt.While _ _ _ _) _) _ _ _)); (fail_if_success (with_reducible show InvEndN _ _ _ _ _ _ _)); (fail_if_success (with_reducible show KswEnd _ _ _ _ _ _ _ _ _ _ _ _)); (fail_if_success (with_reducible show wpAny _ _ (call (Value.ref 84) _) _ _ _)); (fail_if_success (with_reducible show wpAny _ _ (call (Value.ref 110) _) _ _ _)); (walk1 <;> (try dsimp only))) | (leave1; try dsimp only))
    k_dflt (refine' fn_useN (fromJd_ok _ _ hx) ?k1 ?k2 ?k3 ?k4 ?k5 ?kK ?kd ?ku ?_; (case k1 => k_asm); (case k2 => k_asm); (case k3 => k_asm); (case k4 => k_asm); (case k5 => k_asm); (case kK => first | exact rfl | assumption); (case kd => ktr_room); (case ku => ktr_units))
    rintro r9 xs9 h9 tk9 ⟨a9, y9, m9, d9, ta9, tb9, tc9, n9, rfl, rfl, S9⟩ FJ NJ oJ
    have lJ := allLt_of (fun p hp => oJ p hp _ (.head _))
    clear oJ
    simp only [AllLt, and_true] at lJ
    simp only [List.cons_append, List.nil_append] at NJ
    have hy9 := spec_y S9
    have hp9 := spec_p S9
    have hm9 := spec_m S9
    try k_sweep
    try dsimp only
    try k_fold
    repeat' (first | (k_unfold; (try dsimp only)) | ((fail_if_success (with_reducible show wpAny _ _ (pyIter (Value.ref _)) _ _ _)); (fail_if_success (with_reducible show wpAny _ _ (exec (Stmt.While _ _ _ _) _) _ _ _)); (fail_if_success (with_reducible show InvEndN _ _ _ _ _ _ _)); (fail_if_success (with_reducible show KswEnd _ _ _ _ _ _ _ _ _ _ _ _)); (fail_if_success (with_reducible show wpAny _ _ (call (Value.ref 84) _) _ _ _)); (fail_if_success (with_reducible show wpAny _ _ (call (Value.ref 110) _) _ _ _)); (walk1 <;> (try dsimp only))) | (leave1; try dsimp only))

    k_dflt (refine' fn_useN (monthsL_ok _ _ _ _) ?k1 ?k2 ?k3 ?k4 ?k5 ?kK ?kd ?ku ?_; (case k1 => k_asm); (case k2 => k_asm); (case k3 => k_asm); (case k4 => k_asm); (case k5 => k_asm); (case kK => first | exact rfl | assumption); (case kd => ktr_room); (case ku => ktr_units))
    rintro r9 xs9 h9 tk9 ⟨aP, vsP, nP, restP, rfl, rfl, TP⟩ FP NP oP
    simp only [List.cons_append, List.nil_append] at NP
    clear oP
    try k_sweep
    try dsimp only
    try k_fold
    repeat' (first | (k_unfold; (try dsimp only)) | ((fail_if_success (with_reducible show wpAny _ _ (pyIter (Value.ref _)) _ _ _)); (fail_if_success (with_reducible show wpAny _ _ (exec (Stmt.While _ _ _ _) _) _ _ _)); (fail_if_success (with_reducible show InvEndN _ _ _ _ _ _ _)); (fail_if_success (with_reducible show KswEnd _ _ _ _ _ _ _ _ _ _ _ _)); (fail_if_success (with_reducible show wpAny _ _ (exec (Stmt.For _ _ _ _ _) _) _ _ _)); (walk1 <;> (try dsimp only))) | (leave1; try dsimp only))
    (rename Fr _ _ _ _ => FB); (rename News _ _ _ _ => NB)
    refine For_turns FB ?_
    repeat' (first | (k_unfold; (try dsimp only)) | ((fail_if_success (with_reducible show wpAny _ _ (pyIter (Value.ref _)) _ _ _)); (fail_if_success (with_reducible show wpAny _ _ (exec (Stmt.While _ _ _ _) _) _ _ _)); (fail_if_success (with_reducible show InvEndN _ _ _ _ _ _ _)); (fail_if_success (with_reducible show KswEnd _ _ _ _ _ _ _ _ _ _ _ _)); (walk1 <;> (try dsimp only))) | (leave1; try dsimp only))
    refine list_loop (DueJ _ _ m9 d9) (by rfl) FB NB (.head _) rfl rfl (due_start (TP.mono fun p hp => .tail _ (List.mem_append_left _ hp)) (by with_unfolding_all rfl) (by with_unfolding_all rfl) (spec_due S9)) ?turn ?done
    case turn =>
      rintro I2 v2 r2 m2 nx2 h2 tk2 oI2 hI2 ⟨ps2, p2, tp2, ht2, hpl2, hfr2, hdue2⟩ hmem2 hoff2 hcI2 F2 N2
      obtain ⟨b2, o2, l2, t2, u2, k2, ps3, rfl, rfl, hb2, hr2⟩ := ht2.inv
      try k_fold
      rcases hdue2 with ⟨hd2, rfl, hf2⟩ | ⟨b3, tM, tD, k3, hd2, rfl⟩
      · rw [frame4 hpl2 hd2 hfr2] at F2
        have N3 := news_front N2 (.tail _ hb2)
        clear N2
        repeat' (first | (k_unfold; (try dsimp only)) | ((fail_if_success (with_reducible show wpAny _ _ (pyIter (Value.ref _)) _ _ _)); (fail_if_success (with_reducible show wpAny _ _ (exec (Stmt.While _ _ _ _) _) _ _ _)); (fail_if_success (with_reducible show InvEndN _ _ _ _ _ _ _)); (fail_if_success (with_reducible show KswEnd _ _ _ _ _ _ _ _ _ _ _ _)); (fail_if_success (with_reducible show UnrEndW _ _ _ _ _ _)); (walk1 <;> (try dsimp only))) | (leave1; try dsimp only))
        · obtain ⟨eM, eD⟩ := due_yes hf2 (by assumption)
          refine ⟨_, _, _, _, rfl, by assumption, news_y (by assumption) eM eD, off_y (by assumption) hcI2 hoff2, .tail _ hmem2, ps3, _, _, hr2, by with_unfolding_all rfl, (by intro z q1 q2 q3 q4; simp only [if_neg q1, if_neg q2, if_neg q3, if_neg q4]), .inr ⟨_, _, _, _, by with_unfolding_all rfl, rfl⟩⟩
        · refine ⟨_, _, _, _, rfl, by assumption, news_n (by assumption), off_n hoff2, hmem2, ps3, _, _, hr2, by with_unfolding_all rfl, (by intro z q1 q2 q3 q4; simp only [if_neg q1, if_neg q2, if_neg q3, if_neg q4]), .inl ⟨by with_unfolding_all rfl, rfl, due_no hf2 (by assumption)⟩⟩
      · rw [frame4 hpl2 hd2 hfr2] at F2
        have N3 := news_front N2 (.tail _ (.tail _ hb2))
        clear N2
        repeat' (first | (k_unfold; (try dsimp only)) | ((fail_if_success (with_reducible show wpAny _ _ (pyIter (Value.ref _)) _ _ _)); (fail_if_success (with_reducible show wpAny _ _ (exec (Stmt.While _ _ _ _) _) _ _ _)); (fail_if_success (with_reducible show InvEndN _ _ _ _ _ _ _)); (fail_if_success (with_reducible show KswEnd _ _ _ _ _ _ _ _ _ _ _ _)); (fail_if_success (with_reducible show UnrEndW _ _ _ _ _ _)); (walk1 <;> (try dsimp only))) | (leave1; try dsimp only))
        refine ⟨_, _, _, _, rfl, by assumption, news_n (by assumption), off_n hoff2, hmem2, ps3, _, _, hr2, by with_unfolding_all rfl, (by intro z q1 q2 q3 q4; simp only [if_neg q1, if_neg q2, if_neg q3, if_neg q4]), .inr ⟨_, _, _, _, by with_unfolding_all rfl, rfl⟩⟩
    case done =>
      rintro m2 nx2 h2 tk2 ⟨ps2, p2, tp2, ht2, hpl2, hfr2, hdue2⟩ F2 N2
      obtain rfl := ht2.nil_inv
      rcases hdue2 with ⟨-, -, hf2⟩ | ⟨b3, tM, tD, k3, hd2, rfl⟩
      · exact absurd hf2 (by simp [findDue])
      · rw [frame4 hpl2 hd2 hfr2] at F2
        have N3 := news_re N2
        clear N2
        dsimp only
        repeat' (first | (k_unfold; (try dsimp only)) | ((fail_if_success (with_reducible show wpAny _ _ (pyIter (Value.ref _)) _ _ _)); (fail_if_success (with_reducible show wpAny _ _ (exec (Stmt.While _ _ _ _) _) _ _ _)); (fail_if_success (with_reducible show InvEndN _ _ _ _ _ _ _)); (fail_if_success (with_reducible show KswEnd _ _ _ _ _ _ _ _ _ _ _ _)); (fail_if_success (with_reducible show wpAny _ _ (call (Value.builtin "len") _) _ _ _)); (fail_if_success (with_reducible show wpAny _ _ (eval (Expr.ListComp _ _ _ _) _) _ _ _)); (fail_if_success (with_reducible show UnrEndW _ _ _ _ _ _)); (walk1 <;> (try dsimp only))) | (leave1; try dsimp only))
        all_goals try (exact absurd (spec_jd S9) (by assumption))
        all_goals try (exact absurd (show (longL y9 != longL y9) = true by assumption) (by simp))
        have hlen9 : ((vsP.toArray.size : Nat) : Int) = yearMonths y9 := by rw [List.size_toArray, TP.len]; exact pairs_len _ _ _
        have hym9 := ym_le y9
        rename News _ _ _ _ => NQ
        refine len_list (items := vsP.toArray) (News.isList NQ (.tail _ (.tail _ (.tail _ (.tail _ (.tail _ (.head _))))))) (by omega) ?_
        rw [hlen9]
        try k_fold
        repeat' (first | (k_unfold; (try dsimp only)) | ((fail_if_success (with_reducible show wpAny _ _ (pyIter (Value.ref _)) _ _ _)); (fail_if_success (with_reducible show wpAny _ _ (exec (Stmt.While _ _ _ _) _) _ _ _)); (fail_if_success (with_reducible show InvEndN _ _ _ _ _ _ _)); (fail_if_success (with_reducible show KswEnd _ _ _ _ _ _ _ _ _ _ _ _)); (fail_if_success (with_reducible show wpAny _ _ (call (Value.builtin "len") _) _ _ _)); (fail_if_success (with_reducible show wpAny _ _ (eval (Expr.ListComp _ _ _ _) _) _ _ _)); (fail_if_success (with_reducible show UnrEndW _ _ _ _ _ _)); (walk1 <;> (try dsimp only))) | (leave1; try dsimp only))
        all_goals try (exact absurd (show yearMonths y9 = yearMonths y9 from rfl) (by assumption))
        all_goals try (exact absurd (show yearDays y9 = newYear (y9 + 1) - newYear y9 from rfl) (by assumption))
        k_dflt (refine LCp.ListComp_P (F₀ := by k_asm) (by with_unfolding_all rfl) (by decide) (by rfl) (by decide) (by rfl) (by rfl) (by decide) ?_)
        repeat' (first | (k_unfold; (try dsimp only)) | ((fail_if_success (with_reducible show wpAny _ _ (pyIter (Value.ref _)) _ _ _)); (fail_if_success (with_reducible show wpAny _ _ (exec (Stmt.While _ _ _ _) _) _ _ _)); (fail_if_success (with_reducible show InvEndN _ _ _ _ _ _ _)); (fail_if_success (with_reducible show KswEnd _ _ _ _ _ _ _ _ _ _ _ _)); (fail_if_success (with_reducible show LCp.SrcLP _ _ _ _ _ _ _ _ _ _ _ _ _ _ _)); (walk1 <;> (try dsimp only))) | (leave1; try dsimp only))
        rename News _ _ _ _ => NR
        rename Fr _ _ _ _ => FR
        have hvl9 : vsP.length ≤ 13 := by
          have : ((vsP.length : Nat) : Int) = yearMonths y9 := by rw [← hlen9, List.size_toArray]
          omega
        refine LCp.SrcLP.ledger (by rfl) FR NR (.tail _ (.tail _ (.tail _ (.tail _ (.tail _ (.head _)))))) (Nat.le_trans (show vsP.toArray.size ≤ 13 from hvl9) (by decide)) (fun g => ?_)
        refine compP_pairs (fun o _ => monthLen y9 o) (TP.mono fun p hp => .tail _ (.tail _ (.tail _ (.tail _ (.tail _ (.tail _ hp)))))) (fun o9 l9 t9 u9 ys9 I9 oI9 C9 oC9 D9 mc9 h9 tk9 E9 K9 hmem9 hN9 hx9 hx29 F9 N9 hO9 hne9 hK9 => ?_) (fun ys9 hys9 => ?_)
        · have ho13 : o9 ≤ 13 := pairs_mon hmem9
          try k_fold
          repeat' (first | (k_unfold; (try dsimp only)) | ((fail_if_success (with_reducible show wpAny _ _ (pyIter (Value.ref _)) _ _ _)); (fail_if_success (with_reducible show wpAny _ _ (exec (Stmt.While _ _ _ _) _) _ _ _)); (fail_if_success (with_reducible show InvEndN _ _ _ _ _ _ _)); (fail_if_success (with_reducible show KswEnd _ _ _ _ _ _ _ _ _ _ _ _)); (fail_if_success (with_reducible show LCg.CompEnd _ _ _ _ _ _ _ _ _ _ _ _ _ _)); (walk1 <;> (try dsimp only))) | (leave1; try dsimp only))
          exact LCg.CompEnd.intro (by assumption) (by assumption) _ (fun p hp => hp) (by assumption) (.inr ⟨_, .tail _ (.tail _ (.tail _ (.tail _ (.tail _ (.head _))))), rfl, _, rfl⟩) (hK9 _)
        · dsimp only
          unfold LCg.FinE
          intro D10 h10 tk10 F10 N10 o10
          dsimp only
          repeat' (first | (k_unfold; (try dsimp only)) | ((fail_if_success (with_reducible show wpAny _ _ (pyIter (Value.ref _)) _ _ _)); (fail_if_success (with_reducible show wpAny _ _ (exec (Stmt.While _ _ _ _) _) _ _ _)); (fail_if_success (with_reducible show InvEndN _ _ _ _ _ _ _)); (fail_if_success (with_reducible show KswEnd _ _ _ _ _ _ _ _ _ _ _ _)); (fail_if_success (with_reducible show wpAny _ _ (call (Value.builtin "len") _) _ _ _)); (fail_if_success (with_reducible show wpAny _ _ (eval (Expr.ListComp _ _ _ _) _) _ _ _)); (fail_if_success (with_reducible show UnrEndW _ _ _ _ _ _)); (walk1 <;> (try dsimp only))) | (leave1; try dsimp only))
          k_dflt (refine LCp.ListComp_P (F₀ := by k_asm) (by with_unfolding_all rfl) (by decide) (by rfl) (by decide) (by rfl) (by rfl) (by decide) ?_)
          repeat' (first | (k_unfold; (try dsimp only)) | ((fail_if_success (with_reducible show wpAny _ _ (pyIter (Value.ref _)) _ _ _)); (fail_if_success (with_reducible show wpAny _ _ (exec (Stmt.While _ _ _ _) _) _ _ _)); (fail_if_success (with_reducible show InvEndN _ _ _ _ _ _ _)); (fail_if_success (with_reducible show KswEnd _ _ _ _ _ _ _ _ _ _ _ _)); (fail_if_success (with_reducible show LCp.SrcLP _ _ _ _ _ _ _ _ _ _ _ _ _ _ _)); (walk1 <;> (try dsimp only))) | (leave1; try dsimp only))
          rename News _ _ _ _ => NS
          rename Fr _ _ _ _ => FS
          refine LCp.SrcLP.ledger (by rfl) FS NS (.tail _ (.tail _ (.tail _ (.tail _ (.tail _ (.tail _ (.head _))))))) (Nat.le_trans (show vsP.toArray.size ≤ 13 from hvl9) (by decide)) (fun g => ?_)
          refine compP_pairs (fun _ l => l) (TP.mono fun p hp => .tail _ (.tail _ (.tail _ (.tail _ (.tail _ (.tail _ (.tail _ hp))))))) (fun o11 l11 t11 u11 ys11 I11 oI11 C11 oC11 D11 mc11 h11 tk11 E11 K11 hmem11 hN11 hx11 hx211 F11 N11 hO11 hne11 hK11 => ?_) (fun ys11 hys11 => ?_)
          · try k_fold
            repeat' (first | (k_unfold; (try dsimp only)) | ((fail_if_success (with_reducible show wpAny _ _ (pyIter (Value.ref _)) _ _ _)); (fail_if_success (with_reducible show wpAny _ _ (exec (Stmt.While _ _ _ _) _) _ _ _)); (fail_if_success (with_reducible show InvEndN _ _ _ _ _ _ _)); (fail_if_success (with_reducible show KswEnd _ _ _ _ _ _ _ _ _ _ _ _)); (fail_if_success (with_reducible show LCg.CompEnd _ _ _ _ _ _ _ _ _ _ _ _ _ _)); (walk1 <;> (try dsimp only))) | (leave1; try dsimp only))
            exact LCg.CompEnd.intro (by assumption) (by assumption) _ (fun p hp => hp) (by assumption) (.inr ⟨_, .tail _ (.tail _ (.tail _ (.tail _ (.tail _ (.tail _ (.head _)))))), rfl, _, rfl⟩) (hK11 _)
          · dsimp only
            unfold LCg.FinE
            intro D12 h12 tk12 F12 N12 o12
            dsimp only
            repeat' (first | (k_unfold; (try dsimp only)) | ((fail_if_success (with_reducible show wpAny _ _ (pyIter (Value.ref _)) _ _ _)); (fail_if_success (with_reducible show wpAny _ _ (exec (Stmt.While _ _ _ _) _) _ _ _)); (fail_if_success (with_reducible show InvEndN _ _ _ _ _ _ _)); (fail_if_success (with_reducible show KswEnd _ _ _ _ _ _ _ _ _ _ _ _)); (fail_if_success (with_reducible show wpAny _ _ (call (Value.builtin "len") _) _ _ _)); (fail_if_success (with_reducible show wpAny _ _ (eval (Expr.ListComp _ _ _ _) _) _ _ _)); (fail_if_success (with_reducible show UnrEndW _ _ _ _ _ _)); (walk1 <;> (try dsimp only))) | (leave1; try dsimp only))
            · exact ⟨_, _, _, [(lA, lo), (_, _)], rfl, by assumption, news_out (by assumption), off_out hlI hcI, .head _, fun v hv' => hv v (.tail _ hv'), _, _, rfl, by assumption⟩
            all_goals exact absurd (pairs_map y9) (by assumption)
end
end Mine
set_option maxRecDepth 100000 in
set_option maxHeartbeats 8000000 in
theorem PySem.Challenge.cw_jb0004_01_holds : PySem.Challenge.rw_jb0004_01.Holds := by
  exact Mine.mainT
