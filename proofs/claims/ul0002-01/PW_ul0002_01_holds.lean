import PyProof.Rows.All
import Wide.All
import OpenK.AllK
import Wide.FinOn
import PySem.Challenge.RW_ul0002_01
set_option Elab.async false
namespace Mine
section
open PySem PySem.W PyProof.Rows
section
noncomputable def keptProg : Program := by
  refine (?f : ∀ s0 s1 s2 s3 s4 s5 s6 s7 s8 s9 s10 s11 s12 s13 s14 s15 s16 s17 : Stmt, PySem.Challenge.rw_ul0002_01.row.toRowW.prog.main.body = [s0, s1, s2, s3, s4, s5, s6, s7, s8, s9, s10, s11, s12, s13, s14, s15, s16, s17] → Program) _ _ _ _ _ _ _ _ _ _ _ _ _ _ _ _ _ _ rfl
  exact fun s0 s1 s2 s3 s4 s5 s6 s7 s8 s9 s10 s11 s12 s13 s14 s15 s16 s17 _ => { PySem.Challenge.rw_ul0002_01.row.toRowW.prog with main := { PySem.Challenge.rw_ul0002_01.row.toRowW.prog.main with body := [s0, s2, s3, s5, s6, s8, s9, s11, s12, s13, s14, s15, s16, s17] } }
local macro_rules | `(tactic| o_head ($f $a $b $c $ts)) => if ts.raw.isOfKind ``«term_::_» then `(tactic| refine holds_open (r := PySem.Challenge.rw_ul0002_01.row) (q := keptProg) (loose := [Str.ofString "_Accumulator"]) (Xt := fun s => xlAt keptProg [] s && recOk (RowW.records PySem.Challenge.rw_ul0002_01.row.toRowW) s) (XP := XL keptProg []) (Yf := Hook.obs ($f $a $b $c [37, 44, 91, 98])) (Ya := Hook.val ($f $a $b $c [37, 44, 91, 98])) (YP := Hook.says ($f $a $b $c [37, 44, 91, 98])) (N := 1972) (fun w => by kernel_rfl) (Hook.of ($f $a $b $c [37, 44, 91, 98])) (Hook.keeps ($f $a $b $c [37, 44, 91, 98])) (fun s e => xl_of s (Bool.and_eq_true_iff.mp e).1) XL.keeps (by rfl) (by rfl) (by rfl) (fun s e => recFacts_of (Bool.and_eq_true_iff.mp e).2) (by rfl) (by first | assumption | decide +kernel) (by decide +kernel) ⟨rfl, rfl, rfl, rfl, rfl, by decide +kernel⟩ ?hw ?hc) else Lean.Macro.throwUnsupported
set_option maxRecDepth 100000 in
set_option maxHeartbeats 8000000 in
open_top hd for PySem.Challenge.rw_ul0002_01
end
theorem walk_off : True := by
  w_top off
  trivial

end
section
open PySem PySem.W PyProof.Rows PySem.Calls
abbrev prg : Program := PySem.Challenge.pw_ul0002_01

/-- what the walk asks of a caller -/
structure Cx (w : World) (A₀ : Around) (base : Heap) (outer : List Env) (h₀ : Heap) (L : Addr) (m : Str → Option Value) (news : List (Addr × Obj)) (s : Shared) : Prop where
  B : Below A₀ base outer h₀
  F : Fr h₀ L s.heap m
  X : (hd.heap_39 w.params).In h₀
  N : News h₀ L s.heap news
  T : ∃ loose mean mg mb, Top topProg loose mean mg mb h₀

abbrev fS (nm : List (Str × NameKind)) (ig ic : Bool) (mr : List (Str × Const)) : Scope := { kind := .function, names := nm, isGenerator := ig, isCoroutine := ic, more := mr }

/-- what a call of ours leaves as it was, beside the heap -/
structure Went (s s' : Shared) : Prop where
  os : s'.os = s.os
  gens : ∃ ys : Array GenState, s'.gens = s.gens ++ ys ∧ ∀ y ∈ ys, y.bare = true
theorem Went.refl {s : Shared} : Went s s := ⟨rfl, #[], by simp, fun _ h => nomatch h⟩
theorem Went.at {s : Shared} {h : Heap} {tk : Nat} : Went s ⟨h, s.gens, s.drawn, tk, s.os⟩ := ⟨rfl, #[], by simp, fun _ h => nomatch h⟩
theorem Went.one {s s' : Shared} {y : GenState} (ho : s'.os = s.os) (hg : s'.gens = s.gens.push y) (hb : y.bare = true) : Went s s' :=
  ⟨ho, #[y], by rw [hg]; simp, fun z hz => by simp at hz; rw [hz]; exact hb⟩
theorem Went.trans {s s' s'' : Shared} (x : Went s s') (y : Went s' s'') : Went s s'' := by
  obtain ⟨k, e, h⟩ := x.gens
  obtain ⟨j, e', h'⟩ := y.gens
  exact ⟨y.os.trans x.os, k ++ j, by rw [e', e, Array.append_assoc], fun z hz => (Array.mem_append.mp hz).elim (h z) (h' z)⟩
theorem Went.go {s s' s'' : Shared} (x : Went s s') (hg : s''.gens = s'.gens) (ho : s''.os = s'.os) : Went s s'' :=
  x.trans ⟨ho, #[], by rw [hg]; simp, fun _ h => nomatch h⟩

def IsUnit (u : Str) : Prop := ∃ c : Nat, c < 1114112 ∧ (u = ⟨#[92, c]⟩ ∨ (u = ⟨#[c]⟩ ∧ c ≠ 92 ∧ c ≠ 34))

/-- a wider room serves a narrower one -/
theorem wpAny_depth_le {α : Type} {M : Model} {A : Around} {t : Sem α} {Q : α → Shared → Prop} {E : Value → Shared → Prop} {s : Shared} {dp un : Nat}
    (h : wpAny M A t Q E s) (hd : dp ≤ A.depth) (hu : un ≤ A.units) : wpAny M { A with depth := dp, units := un } t Q E s :=
  fun Γ p hΓ => h Γ p ⟨hΓ.1, Nat.le_trans hΓ.2.1 hd, hΓ.2.2.1, hΓ.2.2.2.1, Nat.le_trans hΓ.2.2.2.2 hu⟩

section
variable {w : World} {A₀ : Around} {base h₀ : Heap} {outer : List Env} {L : Addr} {m : Str → Option Value} {news : List (Addr × Obj)} {s : Shared}
  {dp un : Nat} {gd : Option (List Code)} {cn : Str} {nm : List (Str × NameKind)} {ig ic : Bool} {mr : List (Str × Const)} {a : Addr} {ccd : Value} {cl : List (Str × Addr)} {Q E : Value → Shared → Prop}
theorem room {t : Sem Value} (hdp : dp ≤ d) (hun : un ≤ u) (h : wpAny (model prg w) (ktrTop d u gd cn (fS nm ig ic mr) L a ccd cl outer) t Q E s) :
    wpAny (model prg w) (ktrTop dp un gd cn (fS nm ig ic mr) L a ccd cl outer) t Q E s := wpAny_depth_le (A := ktrTop d u gd cn (fS nm ig ic mr) L a ccd cl outer) h hdp hun
end

theorem unit_cat {c : Nat} : Str.ofString "\\" ++ (⟨#[c]⟩ : Str) = ⟨#[92, c]⟩ := by
  have e : Str.ofString "\\" = ⟨#[92]⟩ := by decide +kernel
  rw [e]; rfl
theorem unit_not {c : Nat} (h : (Builtin.Str.occurrences (Str.ofString "\\\"") { cps := #[c] } 0 (Str.ofString "\\\"").length 1).isEmpty = true) : c ≠ 92 ∧ c ≠ 34 := by
  constructor
  · rintro rfl
    revert h; decide +kernel
  · rintro rfl
    revert h; decide +kernel
theorem chr_small {k : Int} : ((k.fmod 165888).fdiv 3).toNat < 1114112 := by
  rw [Int.fmod_eq_emod_of_nonneg _ (by decide), Int.fdiv_eq_ediv_of_nonneg _ (by decide)]; omega
def Fill : Prop := PySem.Challenge.rw_ul0002_01 = PySem.Challenge.rw_ul0002_01 ∧ hd.heap_39 = hd.heap_39
theorem fill : Fill := ⟨rfl, rfl⟩

set_option maxRecDepth 100000 in
set_option maxHeartbeats 8000000 in
theorem unit_spec' : Fill → ∀ {w : World} {A₀ : Around} {base h₀ : Heap} {outer : List Env} {L : Addr} {m : Str → Option Value} {news : List (Addr × Obj)} {s : Shared}
    {dp un : Nat} {gd : Option (List Code)} {cn : Str} {nm : List (Str × NameKind)} {ig ic : Bool} {mr : List (Str × Const)} {a : Addr} {ccd : Value} {cl : List (Str × Addr)} {Q E : Value → Shared → Prop}
    (_ : Cx w A₀ base outer h₀ L m news s) (_ : dp ≤ 980) (_ : un ≤ 9500) (k : Int) (t : Tok)
    (_ : ∀ u tk s', IsUnit u → Went s s' → Fr h₀ L s'.heap m → News h₀ L s'.heap news → Q (.str u tk) s'),
    wpAny (model prg w) (ktrTop dp un gd cn (fS nm ig ic mr) L a ccd cl outer) (call (.ref 140) [.int k t]) Q E s := by
  unfold Fill
  k_fill
  intro _ w A₀ base h₀ outer L m news s dp un gd cn nm ig ic mr a ccd cl Q E C hdp hun k t hQ
  obtain ⟨B, F, X, N, _, _, _, _, T⟩ := C
  refine room hdp hun ?_
  k_steps
  all_goals refine hQ _ _ _ ?_ (Went.refl.go rfl rfl) (by k_asm) (by k_asm)
  · exact ⟨34, by decide, .inl (by decide +kernel)⟩
  · exact ⟨_, chr_small, .inl unit_cat⟩
  · exact ⟨_, chr_small, .inr ⟨rfl, unit_not (by assumption)⟩⟩
  · exact ⟨_, chr_small, .inl unit_cat⟩

end
section
open PySem PySem.W PyProof.Rows PySem.Calls
/-- a mark at which the walk halts -/
def Hold (P : Prop) : Prop := P
theorem Hold.out {P : Prop} (h : Hold P) : P := h
theorem Hold.mk {P : Prop} (h : P) : Hold P := h
/-- the walk halts at this key -/
inductive Held : String → Prop
  | mk (s : String) : Held s
/-- the walk halts at a call of the object at this place -/
inductive HeldCall : Nat → Prop
  | mk (a : Nat) : HeldCall a
/-- the walk halts at a call with so many arguments -/
inductive HeldArgs : Nat → Prop
  | mk (a : Nat) : HeldArgs a
/-- the walk halts where so many statements are left -/
inductive HeldStop : Nat → Prop
  | mk (a : Nat) : HeldStop a
theorem hold_key {P : Prop} {s : String} (_ : Held s) (h : Hold P) : P := h
theorem hold_call {M : Model} {A : Around} {a : Addr} {args : List Value} {Q : Value → Shared → Prop} {E : Value → Shared → Prop} {s : Shared} (_ : HeldCall a) (h : Hold (wpAny M A (call (.ref a) args) Q E s)) : wpAny M A (call (.ref a) args) Q E s := h
theorem hold_args {M : Model} {A : Around} {a : Addr} {n : Nat} {args : List Value} {Q : Value → Shared → Prop} {E : Value → Shared → Prop} {s : Shared} (_ : HeldArgs n) (_ : args.length = n) (h : Hold (wpAny M A (call (.ref a) args) Q E s)) : wpAny M A (call (.ref a) args) Q E s := h
theorem hold_stop {M : Model} {A : Around} {n : Nat} {l : List Stmt} {env : Env} {Q : Flow → Shared → Prop} {E : Value → Shared → Prop} {s : Shared} (_ : HeldStop n) (_ : l.length = n) (h : Hold (wpAny M A (execs l env) Q E s)) : wpAny M A (execs l env) Q E s := h
theorem Fr.split {g h : Heap} {L : Addr} {x : Str} {v : Option Value} {m0 : Str → Option Value} (F : Fr g L h (fun y => if y = x then v else m0 y)) :
    ∃ m1 : Str → Option Value, Fr g L h (fun y => if y = x then v else m1 y) := ⟨m0, F⟩
theorem Fr.again {g h : Heap} {L : Addr} {x : Str} {v v' : Option Value} {m0 : Str → Option Value} (F : Fr g L h (fun y => if y = x then v else if y = x then v' else m0 y)) :
    Fr g L h (fun y => if y = x then v else m0 y) := by
  have e : (fun y => if y = x then v else if y = x then v' else m0 y) = (fun y => if y = x then v else m0 y) := by
    funext y; by_cases q : y = x <;> simp [q]
  rw [e] at F; exact F

/-- the odd part -/
def oddP (n : Nat) : Nat := if h : n % 2 = 0 ∧ 0 < n then oddP (n / 2) else n
termination_by n
decreasing_by omega
theorem oddP_even {n : Nat} (h : n % 2 = 0) (h0 : 0 < n) : oddP n = oddP (n / 2) := by
  rw [oddP, dif_pos ⟨h, h0⟩]
theorem oddP_odd {n : Nat} (h : n % 2 = 1) : oddP n = n := by
  rw [oddP, dif_neg (by omega)]

/-- a while's turn is over -/
def WEnd (I : Nat → Shared → Prop) (R : Result → Shared → Prop) (n : Nat) (f : Flow) (s : Shared) : Prop := match f with
  | .next | .cont => ∃ m, m < n ∧ I m s
  | .brk => R (.ok .next) s
  | .ret v => R (.ok (.ret v)) s
theorem WEnd.next {I : Nat → Shared → Prop} {R : Result → Shared → Prop} {n : Nat} {s : Shared} (m : Nat) (h : m < n) (i : I m s) : WEnd I R n .next s := ⟨m, h, i⟩
theorem while_rule {prog : Program} {w : World} {A : Around} {E : Value → Shared → Prop} {s : Shared} {test : Expr} {body : List Stmt} {env : Env} {pos : Pos} {Q : Flow → Shared → Prop} (I : Nat → Shared → Prop)
    (turn : ∀ n s (E' : Value → Shared → Prop), I n s → wpAny (model prog w) A (isTrue test env (eval test env)) (fun b s₂ =>
      if b then wpAny (model prog w) A (execs body env) (WEnd I (fun r s' => match r with | .ok f => Q f s' | .error e => cameBackBy (model prog w) A env E e s') n) E' s₂ else Q .next s₂) E' s)
    (n : Nat) (h : I n s) : wpAny (model prog w) A (exec (.While test body [] pos) env) Q E s := by
  refine wpAny_While (codeAny_whileLoop I (fun n s hI => ?_) n h)
  refine wpAny_mono (turn n s _ hI) (fun b s₂ h₂ => ?_) fun _ _ e => e
  cases b with
  | true =>
    rw [if_pos rfl] at h₂ ⊢
    refine wpAny_mono h₂ (fun f s₃ h₃ => ?_) fun _ _ e => e
    cases f <;> exact h₃
  | false =>
    rw [if_neg Bool.false_ne_true] at h₂ ⊢
    exact wpAny_execs_nil h₂
end
open PySem PySem.W PyProof.Rows PySem.Calls
local macro_rules | `(tactic| walk_at $s:str) => if ["binaryOp Add ref ref", "binaryOp BitXor int int", "binaryOp LShift int int", "binaryOp Mult ref int", "binaryOp RShift int int", "call builtin:list.append", "call builtin:list.index", "call builtin:str.join", "call builtin:sum", "call ref", "compareOp Eq ref ref", "compareOp NotEq ref ref", "eval GeneratorExp", "eval ListComp", "exec Assign cons ListComp", "exec For Name Name cons nil", "exec For Name Subscript cons nil", "exec For Tuple Call cons nil", "exec FunctionDef", "exec While Compare cons nil", "newTuple", "setItem ref", "setItem ref int", "setItem ref ref", "subscriptTail", "subscriptTail Name Call ref int", "subscriptTail Name Slice ref ref", "subscriptTail Name Slice str ref", "truthy ref"].contains s.getString then `(tactic| refine hold_key (s := $s) (by with_reducible assumption) ?_) else Lean.Macro.throwUnsupported
section
open PySem PySem.W PyProof.Rows PySem.Calls
set_option maxRecDepth 100000 in
set_option maxHeartbeats 8000000 in
theorem halved_spec' : Fill → ∀ {w : World} {A₀ : Around} {base h₀ : Heap} {outer : List Env} {L : Addr} {m : Str → Option Value} {news : List (Addr × Obj)} {s : Shared}
    {dp un : Nat} {gd : Option (List Code)} {cn : Str} {nm : List (Str × NameKind)} {ig ic : Bool} {mr : List (Str × Const)} {a : Addr} {ccd : Value} {cl : List (Str × Addr)} {Q E : Value → Shared → Prop}
    (_ : Cx w A₀ base outer h₀ L m news s) (_ : dp ≤ 980) (_ : un ≤ 9500) (k : Nat) (t : Tok) (_ : 0 < k)
    (_ : ∀ tk s', Went s s' → Fr h₀ L s'.heap m → News h₀ L s'.heap news → Q (.int (oddP k) tk) s'),
    wpAny (model prg w) (ktrTop dp un gd cn (fS nm ig ic mr) L a ccd cl outer) (call (.ref 159) [.int k t]) Q E s := by
  unfold Fill
  k_fill
  intro _ w A₀ base h₀ outer L m news s dp un gd cn nm ig ic mr a ccd cl Q E C hdp hun k t k0 hQ
  have hq1 := Held.mk "exec While Compare cons nil"
  obtain ⟨B, F, X, N, _, _, _, _, T⟩ := C
  refine room hdp hun ?_
  k_steps
  rename_i F' N'
  obtain ⟨m1, F1⟩ := Fr.split F'
  clear F'
  refine Hold.mk (while_rule (fun n s'' => ∃ (to : Tok), 0 < n ∧ oddP n = oddP k ∧ Went s s'' ∧
    Fr _ _ s''.heap (fun y => if y = Str.ofString "odd" then some (.int n to) else m1 y) ∧ News _ _ s''.heap news) ?_ k ⟨t, k0, rfl, Went.refl.go rfl rfl, F1, N'⟩)
  clear N' F1
  rintro n s'' E' ⟨to, h0, ho, W, F2, N2⟩
  k_steps
  · have hz : (n : Int).fmod 2 = 0 := by assumption
    rename_i F3 N3
    have e1 : ((n : Int).fdiv 2) = ((n / 2 : Nat) : Int) := by rw [Int.fdiv_eq_ediv_of_nonneg _ (by decide)]; omega
    have e2 : n % 2 = 0 := by rw [Int.fmod_eq_emod_of_nonneg _ (by decide)] at hz; omega
    rw [e1] at F3
    exact WEnd.next (n / 2) (by omega) ⟨_, by omega, by rw [← oddP_even e2 h0]; exact ho, W.go rfl rfl, Fr.again F3, N3⟩
  · have hz : (n : Int).fmod 2 ≠ 0 := by assumption
    have e2 : n % 2 = 1 := by rw [ne_eq, Int.fmod_eq_emod_of_nonneg _ (by decide)] at hz; omega
    rw [oddP_odd e2] at ho
    subst ho
    exact hQ _ _ (W.go rfl rfl) (by k_asm) (by k_asm)

end
section
open PySem PySem.W PySem.W.X PyProof.Rows PySem.Calls
set_option maxRecDepth 100000
section
variable {prog : Program} {w : World} {A : Around} {c : Code} {fs : List Frame} {P : End → Shared → Prop} {s : Shared} {env : Env}
  {K : Flow → Sem Fin} {H : Value → Sem Fin} {gd : Bool → Bool} {lv : List Value → List Value}

theorem g_wrap {α : Type} {m : Sem α} {K : α → Sem Fin} {H : Value → Sem Fin} {gd : Bool → Bool} {lv : List Value → List Value}
    (h : wpAny (model prog w) (A.over c fs) m (fun a s' => SegX (model prog w) A c (K a) fs s' P) (fun _ _ => False) s) :
    SegX (model prog w) A c (m.wrap K H gd lv) fs s P := by
  rintro Γ p rfl hΓ
  obtain ⟨e, s', hr, hq⟩ := runs_wrap_of_wp (Φ := fun e s' => e.quiet = true ∧ P e s') K H gd lv m (h (Γ.over fs) p (hΓ.over fs)) (fun a p' s' h' => h' Γ p' rfl hΓ) (fun _ _ _ h' => h'.elim)
  exact ⟨e, s', hr, hq⟩
theorem g_bind {α : Type} {m : Sem α} {f : α → Sem β} {K : β → Sem Fin} {H : Value → Sem Fin} {gd : Bool → Bool} {lv : List Value → List Value}
    (h : wpAny (model prog w) (A.over c fs) m (fun a s' => SegX (model prog w) A c ((f a).wrap K H gd lv) fs s' P) (fun _ _ => False) s) :
    SegX (model prog w) A c ((m >>= f).wrap K H gd lv) fs s P := by
  rw [Sem.bind_eq_wrap', Sem.wrap_wrap]
  exact g_wrap h
theorem g_nil (h : SegX (model prog w) A c (K .next) fs s P) : SegX (model prog w) A c ((execs [] env).wrap K H gd lv) fs s P := h
theorem g_cons {st : Stmt} {rest : List Stmt}
    (h : SegX (model prog w) A c ((exec st env).wrap (fun f => match f with | .next => (execs rest env).wrap K H gd lv | f => K f) H gd lv) fs s P) :
    SegX (model prog w) A c ((execs (st :: rest) env).wrap K H gd lv) fs s P := by rw [execs_cons_wrap]; exact h
theorem g_If {test : Expr} {body orelse : List Stmt} {pos : Pos}
    (h : wpAny (model prog w) (A.over c fs) (isTrue test env (eval test env)) (fun b s' => if b = true then SegX (model prog w) A c ((execs body env).wrap K H gd lv) fs s' P
      else SegX (model prog w) A c ((execs orelse env).wrap K H gd lv) fs s' P) (fun _ _ => False) s) :
    SegX (model prog w) A c ((exec (.If test body orelse pos) env).wrap K H gd lv) fs s P := by
  rw [exec_If]
  refine g_bind (wpAny_standAt ?_)
  refine g_bind (wpAny_mono h (fun b s' hb => ?_) fun _ _ x => x)
  cases b <;> simpa using hb

theorem g_Yield {e : Expr} {ypos pos : Pos} (hfs : splitAtGen fs = none) (hgd : gd false = false) (hfg : fs.any Frame.guarded = false)
    (h : wpAny (model prog w) (A.over c fs) (eval e env) (fun v s' => ∀ p l k,
      (∀ A' s'' P', SegX (model prog w) A' c (K .next) fs s'' P' → SegX (model prog w) A' c (k (.send .none)) fs s'' P') → P (.susp v false l k c p fs) s') (fun _ _ => False) s)
    (hco : env.scope.isCoroutine = false := by rfl) (hi : interactive env = false := by rfl) :
    SegX (model prog w) A c ((exec (.Expr (.Yield (some e) ypos) pos) env).wrap K H gd lv) fs s P := by
  rw [exec_Expr env _ pos hi rfl]
  have hy : ∀ v, yieldOut env v = yieldValue v := fun v => by simp only [yieldOut, hco, Bool.false_eq_true, if_false]
  refine g_bind (wpAny_standAt ?_)
  show SegX _ A c (((eval e env >>= fun v => (standAt ypos >>= fun _ => yieldOut env v)) >>= fun x => dropValue (.Yield (some e) ypos) pos x).wrap K H gd lv) fs s P
  simp only [hy]
  rw [Sem.bind_eq_wrap', Sem.bind_eq_wrap', Sem.wrap_wrap, Sem.wrap_wrap]
  refine g_wrap (wpAny_mono h (fun v s' h' => ?_) fun _ _ x => x)
  show SegX _ A c (.at ypos fun _ => .yield v (gd false) _ _) fs s' P
  rw [hgd]
  refine s_skim _ _ _ _ _ _ _ _ 1 ?_
  show SegX _ A c (.yield v false _ _) fs s' P
  refine s_yield _ _ _ _ _ _ _ _ _ _ hfs hfg fun p => h' p _ _ fun A' s'' P' hx => ?_
  exact hx

theorem g_For {target iter : Expr} {body : List Stmt} {pos : Pos}
    (h : wpAny (model prog w) (A.over c fs) (eval iter env) (fun x s₁ => wpAny (model prog w) (A.over c fs) (pyIter x) (fun it s₂ =>
      ∀ p kf, kf (.ok .next) = K .next → SegX (model prog w) A (.forLoop target it body [] env) (denote table (.forLoop target it body [] env)) (.ret kf none (gd false) (lv []) c p [] :: fs) s₂ P) (fun _ _ => False) s₁) (fun _ _ => False) s)
    (hs : ∀ x, foldedSetIterable iter env x = pure x := by intro _; rfl) :
    SegX (model prog w) A c ((exec (.For target iter body [] pos) env).wrap K H gd lv) fs s P := by
  rw [exec_For]
  refine g_bind (wpAny_standAt ?_)
  refine g_bind (wpAny_mono h (fun x s₁ h₁ => ?_) fun _ _ x => x)
  rw [hs x]
  refine g_bind (wpAny_pure ?_)
  refine g_bind (wpAny_standAt ?_)
  refine g_bind (wpAny_holding (wpAny_mono h₁ (fun it s₂ h₂ => ?_) fun _ _ x => x))
  refine s_call _ _ _ _ _ _ _ _ _ _ _ _ fun p => ?_
  exact h₂ p _ rfl

abbrev kTurn (fl : Code) : Flow → Sem Fin := fun f => match f with
  | .next | .cont => .pure (.again fl)
  | .brk => .pure (.done .next)
  | .ret v => .pure (.done (.ret v))
theorem g_forLoop {target : Expr} {it : Value} {body orelse : List Stmt}
    (h : wpAny (model prog w) (A.over (.forLoop target it body orelse env) fs) (pyNext it) (fun r s₁ => match r with
      | none => SegX (model prog w) A (.block orelse env) (denote table (.block orelse env)) fs s₁ P
      | some v => wpAny (model prog w) (A.over (.forLoop target it body orelse env) fs) (letOwnedTupleGo target it v) (fun _ s₂ =>
          wpAny (model prog w) (A.over (.forLoop target it body orelse env) fs) (assign target env v) (fun _ s₃ =>
            ∀ H, SegX (model prog w) A (.forLoop target it body orelse env) ((execs body env).wrap (kTurn (.forLoop target it body orelse env)) H id id) fs s₃ P) (fun _ _ => False) s₂) (fun _ _ => False) s₁) (fun _ _ => False) s) :
    SegX (model prog w) A (.forLoop target it body orelse env) (denote table (.forLoop target it body orelse env)) fs s P := by
  show SegX _ A _ ((forTurn target it body orelse env).onRaise (fun x => do noteFrame x env; theTreesLotGoes x)) fs s P
  unfold forTurn
  rw [Sem.onRaise_eq_wrap]
  refine g_bind (wpAny_standAt ?_)
  refine g_bind (wpAny_onRaise (wpAny_mono h (fun r s₁ h₁ => ?_) fun _ _ x => x.elim))
  cases r with
  | none =>
    show SegX _ A _ (.pure (.again (.block orelse env))) fs s₁ P
    exact s_again _ _ _ _ _ _ _ _ rfl h₁
  | some v =>
    refine g_bind (wpAny_mono h₁ (fun _ s₂ h₂ => ?_) fun _ _ x => x)
    refine g_bind (wpAny_mono h₂ (fun _ s₃ h₃ => ?_) fun _ _ x => x)
    rw [Sem.bind_eq_wrap', Sem.wrap_wrap]
    have e : ∀ f : Flow, ((match f with
      | .next | .cont => again (.forLoop target it body orelse env)
      | .brk => pure (.done .next)
      | .ret v => pure (.done (.ret v))) : Sem Fin).wrap .pure (fun e => (do noteFrame e env; theTreesLotGoes e : Sem Unit).bind fun _ => .raise e) id id = kTurn (.forLoop target it body orelse env) f := by
      intro f; cases f <;> rfl
    have := h₃ (fun e => (Sem.raise e : Sem Fin).wrap .pure (fun e => (do noteFrame e env; theTreesLotGoes e : Sem Unit).bind fun _ => .raise e) id id)
    rw [← funext e] at this
    exact this

theorem g_blockEnd {F : Frame} (h : ∀ k hd g l c₁ p₁ kp, F = .ret k hd g l c₁ p₁ kp → SegX (model prog w) A c₁ (k (.ok .next)) fs s P) (hF : ∃ k hd g l c₁ p₁ kp, F = .ret k hd g l c₁ p₁ kp) :
    SegX (model prog w) A (.block [] env) (denote table (.block [] env)) (F :: fs) s P := by
  obtain ⟨k, hd, g, l, c₁, p₁, kp, rfl⟩ := hF
  exact s_pop _ _ _ _ _ _ _ (.ok .next) _ rfl _ _ _ _ _ _ _ (h _ _ _ _ _ _ _ rfl)

theorem g_func {body : List Stmt}
    (h : ∀ H, SegX (model prog w) A (.func body env) ((execs body env).wrap (fun f => .pure (.done (.ret (match f with | .ret v => v | _ => .none)))) H id id) fs s P) :
    SegX (model prog w) A (.func body env) (denote table (.func body env)) fs s P := by
  show SegX _ A _ (.point [] fun _ => ((execs body env).onRaise (leaving env)) >>= _) fs s P
  refine s_skim _ _ _ _ _ _ _ _ 1 ?_
  show SegX _ A _ (((execs body env).onRaise (leaving env)) >>= _) fs s P
  rw [Sem.onRaise_eq_wrap, Sem.bind_eq_wrap', Sem.wrap_wrap]
  have e : ∀ f : Flow, ((.pure f : Sem Flow).wrap (fun x => match x with | .ret v => ret v | _ => ret .none) .raise id id : Sem Fin) = .pure (.done (.ret (match f with | .ret v => v | _ => .none))) := by
    intro f; cases f <;> rfl
  have := h (fun e => ((leaving env e).bind fun _ => (.raise e : Sem Flow)).wrap (fun x => match x with | .ret v => ret v | _ => ret .none) .raise id id)
  rw [← funext e] at this
  exact this
end

/-- a woken generator's own next -/
theorem pyNext_genX {prog : Program} {w : World} {A : Around} {E : Value → Shared → Prop} {s : Shared} {a : Addr} {g : Nat} {gs : GenState} {Q : Option Value → Shared → Prop} {c₀ : Code} {t₀ : Sem Fin} {fs₀ : List Frame} (hh : A.handled = none)
    (hl : s.heap.NoLimit) (hroom : A.depth < recursionLimit) (hg : s.heap.IsGen a g) (hgs : s.gens[g]? = some gs)
    (hst : (gs = .fresh c₀ ∧ t₀ = denote table c₀ ∧ fs₀ = []) ∨ (∃ k₀ l₀ p₀ cl, gs = .suspended k₀ l₀ c₀ p₀ fs₀ cl ∧ t₀ = k₀ (.send .none)))
    (x : SegX (model prog w) A.in1 c₀ t₀ fs₀ (s.setGen g .running) (fun e s₁ => match e with
      | .susp v _ _ _ _ _ _ => Q (some v) (s₁.setGen g e.genState)
      | .ret r => r = .ok (.ret .none) ∧ ∀ h', (∀ b o, s₁.heap.get? b = some o → h'.get? b = some o) → Q none { s₁.setGen g .finished with heap := h' })) :
    wpAny (model prog w) A (pyNext (.ref a)) Q E s := by
  unfold pyNext
  refine wpAny_bind (wpAny_attempt (wpAny_callSpecial?_slot (name := Str.ofString "__next__") hg.typeIs slot_gen_next
    (wpAny_call_entry slot_gen_next hg.typeIs entry_gen_next ?_ (args_gen_next _))))
  show wpAny _ _ (Builtin.Generator.genWake (.ref a) (.send .none)) _ _ s
  unfold Builtin.Generator.genWake
  refine wpAny_bind (wpAny_holding (wpAny_genNumber hg (wpAny_bind (wpAny_genState hgs ?_))))
  have hst' : (gs = .fresh c₀ ∧ Resume.send .none = .send .none ∧ t₀ = denote table c₀ ∧ fs₀ = []) ∨ (∃ k₀ l₀ p₀ cl, gs = .suspended k₀ l₀ c₀ p₀ fs₀ cl ∧ t₀ = k₀ (.send .none)) :=
    hst.imp (fun h => ⟨h.1, rfl, h.2⟩) id
  have ns : gs.status = .fresh ∨ gs.status = .suspended := by
    rcases hst with ⟨rfl, _⟩ | ⟨_, _, _, _, rfl, _⟩
    · exact .inl rfl
    · exact .inr rfl
  rcases hst with ⟨rfl, ht, hf⟩ | ⟨k₀, l₀, p₀, cl, rfl, ht⟩
  all_goals
    refine wpAny_bind (wpAny_roomToWake hl hroom ?_)
    show wpAny _ _ (.resume g (.send .none) [] _) _ _ s
    refine wake_any _ prog w hgs hst' (fun (Γ : Ctx) => Γ.In A.in1) (fun _ h => h) (SegX.mono x fun e s₁ hx => ?_)
    intro Γ p hΓ
    cases e with
    | ret r =>
      obtain ⟨rfl, hp⟩ := hx
      refine (show wpAny (model prog w) A.in1 (newExc (.type "StopIteration") [] >>= _) _ _ (s₁.setGen g .finished) from ?_) Γ p hΓ
      refine wpAny_bind ?_
      simp only [newExc, newTuple]
      refine wpAny_bind (wpAny_newObj_type ?_ (by size_fits))
      refine wpAny_bind (m := firstArgMember _ _) (wpAny_of_eq (a := Value.none) (by first | rfl | (simp only [firstArgMember]; rfl)) ?_)
      refine wpAny_newObj_type ?_ (by size_fits)
      simp only [raiseNew]
      refine wpAny_bind (wpAny_bind (wpAny_handled ?_))
      rw [show A.in1.handled = none from hh]
      refine wpAny_throw ?_
      refine wpAny_bind (wpAny_isInstance (T := "StopIteration") (b := true) ⟨_, Heap.get?_push_size _ rfl, rfl⟩ isSubtype_stop ?_)
      exact wpAny_pure (hp _ fun b o hb => Heap.get?_push_of_some _ (Heap.get?_push_of_some _ hb))
    | susp v g₀ l₀ k₀ c₀ p₀ fs₀ =>
      exact (show wpAny (model prog w) A.in1 (Sem.pure _) _ _ _ from wpAny_pure ⟨v, rfl, wpAny_pure hx⟩) Γ p hΓ

end
section
open PySem PySem.W PySem.W.X PyProof.Rows PySem.Calls
set_option maxRecDepth 100000
abbrev up (m : Str → Option Value) (x : Str) (v : Value) : Str → Option Value := fun y => if y = x then some v else m y

/-- what a segment may turn: its own objects' insides; it may make new ones -/
structure Rel0 (own : List Addr) (s s' : Shared) : Prop where
  keep : ∀ b o, b ∉ own → s.heap.get? b = some o → s'.heap.get? b = some o
  gens : s'.gens = s.gens
  os : s'.os = s.os
theorem Rel0.refl {own : List Addr} {s : Shared} : Rel0 own s s := ⟨fun _ _ _ e => e, rfl, rfl⟩
theorem Rel0.trans {own : List Addr} {s s' s'' : Shared} (x : Rel0 own s s') (y : Rel0 own s' s'') : Rel0 own s s'' :=
  ⟨fun b o hb e => y.keep b o hb (x.keep b o hb e), y.gens.trans x.gens, y.os.trans x.os⟩

structure GSt (x : Str) (t : Tok) (Lg e it : Addr) (m : Str → Option Value) (i : Nat) (h : Heap) : Prop where
  loc : h.Ns Lg m
  en : ∃ old, IsEnum h e it i old
  st : h.IsStrIter it (strIterType x) x t i

section
variable {w : World} {x : Str} {t : Tok} {Lg e it : Addr} {m : Str → Option Value} {i c : Nat}

theorem strDraws {A : Around} (hh : A.handled = none) (it : Addr) (x : Str) (t : Tok) :
    Draws prg w A it [it] x.cps.size (fun i v => ∃ c u, x.cps[i]? = some c ∧ v = .str ⟨#[c]⟩ u) (fun i h => h.IsStrIter it (strIterType x) x t i) := by
  unfold strIterType
  split
  · exact Draws.strAscii hh it x t
  · exact Draws.strWide hh it x t

theorem assign_pair {A : Around} {E : Value → Shared → Prop} {s : Shared} {env : Env} {a b : Str} {pa pb pos : Pos} {k : Nat} {T : Addr} {v1 v2 : Value} {Q : Unit → Shared → Prop} (hh : A.handled = none) (ht : s.heap.IsTuple T #[v1, v2]) (hn : s.heap.Ns env.locals m)
    (ka : env.kindOf a = some .local) (kb : env.kindOf b = some .local) (hp : (env.scope.kind == .class || (env.scope.kind == .module && env.locals != env.globals)) = false)
    (h : ∀ s', s'.heap.Ns env.locals (up (up m a v1) b v2) → Rel0 [env.locals] s s' → Q () s') :
    wpAny (model prg w) A (assign (.Tuple [.Name a pa, .Name b pb] k pos) env (.ref T)) Q E s := by
  refine wpAny_assign_Tuple hh ht rfl rfl fun h₃ hx₃ => ?_
  replace hx₃ : Heap.ExtBut s.heap.objs.size s.heap h₃ := hx₃
  have old₃ : ∀ b o, s.heap.get? b = some o → h₃.get? b = some o := fun b o e => hx₃ b o (Nat.ne_of_lt (Heap.lt_size e)) e
  show wpAny _ A (do holding [v2] (assign (.Name a pa) env v1); do holding [] (assign (.Name b pb) env v2); pure ()) _ _ _
  refine wpAny_bind (wpAny_holding (wpAny_assign_Name (wpAny_storeName_local ka (hn.keeps old₃) (fun h₄ hn₄ hs₄ => ?_) hp)))
  replace hs₄ : Heap.SameBut env.locals h₃ h₄ := hs₄
  refine wpAny_bind (wpAny_holding (wpAny_assign_Name (wpAny_storeName_local kb hn₄ (fun h₅ hn₅ hs₅ => wpAny_pure ?_) hp)))
  replace hs₅ : Heap.SameBut env.locals h₄ h₅ := hs₅
  exact h _ hn₅ ⟨fun b o hb e => hs₅.extBut b o (by simpa using hb) (hs₄.extBut b o (by simpa using hb) (old₃ b o e)), rfl, rfl⟩

theorem GSt.rel {own : List Addr} {s s' : Shared} {m' : Str → Option Value} (G : GSt x t Lg e it m i s.heap) (R : Rel0 own s s') (h1 : e ∉ own) (h2 : it ∉ own) (hn : s'.heap.Ns Lg m') : GSt x t Lg e it m' i s'.heap :=
  ⟨hn, let ⟨old, h⟩ := G.en; ⟨old, R.keep _ _ h1 h⟩, let ⟨o, ho, r⟩ := G.st; ⟨o, R.keep _ _ h2 ho, r⟩⟩

theorem g_step {A : Around} {fs : List Frame} {P : End → Shared → Prop} {s : Shared} {env : Env} {a b : Str} {pa pb pos : Pos} {k : Nat} {fbody : List Stmt} (hL : env.locals = Lg)
    (hA : (A.over (.forLoop (.Tuple [.Name a pa, .Name b pb] k pos) (.ref e) fbody [] env) fs).handled = none)
    (d1 : Lg ≠ e) (d2 : Lg ≠ it) (d3 : e ≠ it) (G : GSt x t Lg e it m i s.heap) (hc : x.cps[i]? = some c)
    (ka : env.kindOf a = some .local) (kb : env.kindOf b = some .local) (hp : (env.scope.kind == .class || (env.scope.kind == .module && env.locals != env.globals)) = false)
    (h : ∀ s' tp tc, GSt x t Lg e it (up (up m a (.int i tp)) b (.str ⟨#[c]⟩ tc)) (i + 1) s'.heap → Rel0 [Lg, e, it] s s' →
      ∀ H, SegX (model prg w) A (.forLoop (.Tuple [.Name a pa, .Name b pb] k pos) (.ref e) fbody [] env) ((execs fbody env).wrap (kTurn (.forLoop (.Tuple [.Name a pa, .Name b pb] k pos) (.ref e) fbody [] env)) H id id) fs s' P) :
    SegX (model prg w) A (.forLoop (.Tuple [.Name a pa, .Name b pb] k pos) (.ref e) fbody [] env) (denote table (.forLoop (.Tuple [.Name a pa, .Name b pb] k pos) (.ref e) fbody [] env)) fs s P := by
  subst hL
  obtain ⟨old, he⟩ := G.en
  have hlt : i < x.cps.size := (Array.getElem?_eq_some_iff.mp hc).1
  refine g_forLoop (wpAny_pyNext_enum_itemD (strDraws (by exact hA) it x t) he G.st hlt d3 (by simpa using d3) fun v h₁ tk hv heo hst₁ ht hz hk => ?_)
  obtain ⟨c', u, hc', rfl⟩ := hv
  rw [hc] at hc'
  cases hc'
  have n1 : h₁.Ns env.locals m := G.loc.at' fun o q => hk _ o d1 d2 q
  refine wpAny_letOwnedTupleGo_enum heo fun h₂ he₂ hs₂ => ?_
  replace hs₂ : Heap.SameBut e h₁ h₂ := hs₂
  have hTe : s.heap.objs.size ≠ e := Nat.ne_of_gt (Heap.lt_size he)
  refine assign_pair (m := m) hA ⟨_, (hs₂.2 _ hTe).trans ht, rfl, _, rfl⟩ (n1.sameBut hs₂ d1) ka kb hp fun s' hn R => ?_
  have R1 : Rel0 [env.locals, e, it] s s' := by
    refine ⟨fun y o hy q => R.keep y o (fun z => hy (by simp at z; simp [z])) (hs₂.extBut y o (fun z => hy (by simp [z])) (hk y o (fun z => hy (by simp [z])) (fun z => hy (by simp [z])) q)), R.gens, R.os⟩
  refine h s' _ _ ⟨hn, ⟨_, R.keep _ _ (by simpa using d1.symm) he₂⟩, ?_⟩ R1
  obtain ⟨o, ho, r⟩ := hst₁
  exact ⟨o, R.keep _ _ (by simpa using d2.symm) (hs₂.extBut _ _ d3.symm ho), r⟩

theorem g_over {A : Around} {F : Frame} {P : End → Shared → Prop} {s : Shared} {env : Env} {a b : Str} {pa pb pos : Pos} {k : Nat} {fbody : List Stmt} (hL : env.locals = Lg)
    (hA : (A.over (.forLoop (.Tuple [.Name a pa, .Name b pb] k pos) (.ref e) fbody [] env) [F]).handled = none)
    (d1 : Lg ≠ e) (d2 : Lg ≠ it) (d3 : e ≠ it) (G : GSt x t Lg e it m i s.heap) (hc : i = x.cps.size) (hF : ∃ k hd g l c₁ p₁ kp, F = .ret k hd g l c₁ p₁ kp)
    (h : ∀ s' k hd g l c₁ p₁ kp, F = .ret k hd g l c₁ p₁ kp → s'.heap.Ns Lg m → Rel0 [Lg, e, it] s s' → SegX (model prg w) A c₁ (k (.ok .next)) [] s' P) :
    SegX (model prg w) A (.forLoop (.Tuple [.Name a pa, .Name b pb] k pos) (.ref e) fbody [] env) (denote table (.forLoop (.Tuple [.Name a pa, .Name b pb] k pos) (.ref e) fbody [] env)) [F] s P := by
  subst hL hc
  obtain ⟨old, he⟩ := G.en
  refine g_forLoop (wpAny_pyNext_enum_endD (strDraws (by exact hA) it x t) he G.st fun h₁ hk => ?_)
  refine g_blockEnd (fun k hd g l c₁ p₁ kp hF => ?_) hF
  exact h _ _ _ _ _ _ _ _ hF (G.loc.at' fun o q => hk _ o d2 q) ⟨fun y o hy q => hk y o (fun z => hy (by simp [z])) q, rfl, rfl⟩
end

end
section
open PySem PySem.W PySem.W.X PyProof.Rows PySem.Calls
set_option maxRecDepth 100000
def IsTok (u : Str) : Prop := ∃ c : Nat, u = ⟨#[92, c]⟩ ∨ (u = ⟨#[c]⟩ ∧ c ≠ 92)
theorem IsUnit.tok {u : Str} (h : IsUnit u) : IsTok u := let ⟨c, _, h⟩ := h; ⟨c, h.imp id fun q => ⟨q.1, q.2.1⟩⟩
def flat (r : List Str) : List Nat := r.flatMap fun u => u.cps.toList
theorem flat_cons (u : Str) (r : List Str) : flat (u :: r) = u.cps.toList ++ flat r := rfl
theorem flat_append (r r' : List Str) : flat (r ++ r') = flat r ++ flat r' := List.flatMap_append

abbrev pairObj (p : Int) (tp : Tok) (u : Str) (tu : Tok) : Obj := { cls := .type "tuple", data := .seq [.int p tp, .str u tu].toArray }

theorem up_self {m : Str → Option Value} {x : Str} {v : Value} : up m x v x = some v := if_pos rfl
theorem up_ne {m : Str → Option Value} {x y : Str} {v : Value} {r : Option Value} (h : y ≠ x) (hr : m y = r) : up m x v y = r := (if_neg h).trans hr
theorem n_ep : Str.ofString "escape" ≠ Str.ofString "pos" := by decide +kernel
theorem n_ec : Str.ofString "escape" ≠ Str.ofString "ch" := by decide +kernel
theorem n_pc : Str.ofString "pos" ≠ Str.ofString "ch" := by decide +kernel
theorem Rel0.fresh {s s' : Shared} {own : List Addr} (R : Rel0 own s s') {b : Addr} (h : s'.heap.get? b = none) (ho : ∀ a ∈ own, ∃ o, s'.heap.get? a = some o) : s.heap.get? b = none := by
  cases q : s.heap.get? b with
  | none => rfl
  | some o =>
    by_cases hb : b ∈ own
    · obtain ⟨o', h'⟩ := ho b hb
      rw [h] at h'; cases h'
    · rw [R.keep b o hb q] at h; cases h
theorem GSt.there {x : Str} {t : Tok} {Lg e it : Addr} {m : Str → Option Value} {i : Nat} {h : Heap} (G : GSt x t Lg e it m i h) : ∀ a ∈ [Lg, e, it], ∃ o, h.get? a = some o := by
  intro a ha
  rcases List.mem_cons.mp ha with rfl | ha
  · obtain ⟨o, _, _, h, _⟩ := G.loc; exact ⟨o, h⟩
  · rcases List.mem_cons.mp ha with rfl | ha
    · obtain ⟨_, h⟩ := G.en; exact ⟨_, h⟩
    · rw [List.mem_singleton.mp ha]
      obtain ⟨o, h, _⟩ := G.st; exact ⟨o, h⟩

section
variable (w : World) (x : Str) (t : Tok) (Lg e it : Addr) (fl : Code)
def RP (fs : List Frame) (m : Str → Option Value) (i : Nat) (k : Resume → Sem Fin) : Prop :=
  ∀ A s P, GSt x t Lg e it m i s.heap → (∀ s' m', Rel0 [Lg, e, it] s s' → GSt x t Lg e it m' i s'.heap → m' (Str.ofString "escape") = some (.bool false) → SegX (model prg w) A fl (denote table fl) fs s' P) →
    SegX (model prg w) A fl (k (.send .none)) fs s P
def Yields (fs : List Frame) (m : Str → Option Value) (i : Nat) (p : Int) (u : Str) (P : End → Shared → Prop) (s : Shared) : Prop :=
  ∀ b tp tu s' pp l k, Rel0 [Lg, e, it] s s' → s.heap.get? b = none → s'.heap.get? b = some (pairObj p tp u tu) → GSt x t Lg e it m i s'.heap → RP w x t Lg e it fl fs m i k → P (.susp (.ref b) false l k fl pp fs) s'
structure Turns (env : Env) (fbody : List Stmt) : Prop where
  esc : ∀ A fs P s m i p tp c tc H, splitAtGen fs = none → fs.any Frame.guarded = false → GSt x t Lg e it m i s.heap → m (Str.ofString "escape") = some (.bool true) → m (Str.ofString "pos") = some (.int p tp) → m (Str.ofString "ch") = some (.str ⟨#[c]⟩ tc) →
    Yields w x t Lg e it fl fs m i p ⟨#[92, c]⟩ P s → SegX (model prg w) A fl ((execs fbody env).wrap (kTurn fl) H id id) fs s P
  bs : ∀ A fs P s m i tc H, GSt x t Lg e it m i s.heap → m (Str.ofString "escape") = some (.bool false) → m (Str.ofString "ch") = some (.str ⟨#[92]⟩ tc) →
    (∀ s', Rel0 [Lg, e, it] s s' → GSt x t Lg e it (up m (Str.ofString "escape") (.bool true)) i s'.heap → SegX (model prg w) A fl (denote table fl) fs s' P) → SegX (model prg w) A fl ((execs fbody env).wrap (kTurn fl) H id id) fs s P
  pl : ∀ A fs P s m i p tp c tc H, splitAtGen fs = none → fs.any Frame.guarded = false → GSt x t Lg e it m i s.heap → m (Str.ofString "escape") = some (.bool false) → m (Str.ofString "pos") = some (.int p tp) → m (Str.ofString "ch") = some (.str ⟨#[c]⟩ tc) → c ≠ 92 →
    Yields w x t Lg e it fl fs m i p ⟨#[c]⟩ P s → SegX (model prg w) A fl ((execs fbody env).wrap (kTurn fl) H id id) fs s P
end

section
variable {w : World} {x : Str} {t : Tok} {Lg e it : Addr} {m : Str → Option Value} {i : Nat} {env : Env} {pa pb pos : Pos} {k : Nat} {fbody : List Stmt}
abbrev flOf (env : Env) (pa pb pos : Pos) (k : Nat) (e : Addr) (fbody : List Stmt) : Code := .forLoop (.Tuple [.Name (Str.ofString "pos") pa, .Name (Str.ofString "ch") pb] k pos) (.ref e) fbody [] env

theorem cps_at {x : Str} {i c : Nat} {l : List Nat} (h : x.cps.toList.drop i = c :: l) : x.cps[i]? = some c ∧ x.cps.toList.drop (i + 1) = l := by
  constructor
  · have : x.cps.toList[i]? = some c := by
      have h2 := congrArg (fun z => z[0]?) h
      simpa using h2
    simpa using this
  · rw [← List.drop_drop, h]; rfl

theorem gen_loop (T : Turns w x t Lg e it (flOf env pa pb pos k e fbody) env fbody) (hL : env.locals = Lg) (d1 : Lg ≠ e) (d2 : Lg ≠ it) (d3 : e ≠ it)
    (ka : env.kindOf (Str.ofString "pos") = some .local) (kb : env.kindOf (Str.ofString "ch") = some .local) (hp : (env.scope.kind == .class || (env.scope.kind == .module && env.locals != env.globals)) = false)
    {A : Around} {k' : Result → Sem Fin} {c₁ : Code} {p₁ : Pos} {P : End → Shared → Prop} {s : Shared} (hA : A.handled = none)
    (G : GSt x t Lg e it m i s.heap) (hm : m (Str.ofString "escape") = some (.bool false)) (r : List Str) (hr : ∀ u ∈ r, IsTok u) (hx : x.cps.toList.drop i = flat r) (hi0 : i ≤ x.cps.size)
    (h0 : r = [] → ∀ s', s'.heap.Ns Lg m → Rel0 [Lg, e, it] s s' → SegX (model prg w) A c₁ (k' (.ok .next)) [] s' P)
    (h1 : ∀ u r', r = u :: r' → ∀ m' p tp tu b s' pp l kk, p = ((i + u.length : Nat) : Int) - 1 → Rel0 [Lg, e, it] s s' → s.heap.get? b = none → s'.heap.get? b = some (pairObj p tp u tu) → GSt x t Lg e it m' (i + u.length) s'.heap →
      RP w x t Lg e it (flOf env pa pb pos k e fbody) [.ret k' none false [] c₁ p₁ []] m' (i + u.length) kk → P (.susp (.ref b) false l kk (flOf env pa pb pos k e fbody) pp [.ret k' none false [] c₁ p₁ []]) s') :
    SegX (model prg w) A (flOf env pa pb pos k e fbody) (denote table (flOf env pa pb pos k e fbody)) [.ret k' none false [] c₁ p₁ []] s P := by
  have hA' : (A.over (flOf env pa pb pos k e fbody) [.ret k' none false [] c₁ p₁ []]).handled = none := by
    simp [Around.over, marksOver, Frame.marks, markOver, hA]
  cases r with
  | nil =>
    have hi : i = x.cps.size := by
      have h1 := List.drop_eq_nil_iff.mp hx
      simp at h1
      omega
    refine g_over hL hA' d1 d2 d3 G hi ⟨_, _, _, _, _, _, _, rfl⟩ fun s' k hd g l c₁' p₁ kp hF hn R => ?_
    cases hF
    exact h0 rfl s' hn R
  | cons u r =>
    have hu := hr u (.head _)
    rw [flat_cons] at hx
    obtain ⟨c, rfl | ⟨rfl, hc⟩⟩ := hu
    · have hx' : x.cps.toList.drop i = 92 :: c :: flat r := hx
      obtain ⟨e1, hx1⟩ := cps_at hx'
      obtain ⟨e2, hx2⟩ := cps_at hx1
      refine g_step hL hA' d1 d2 d3 G e1 ka kb hp fun s1 tp tc G1 R1 H => ?_
      refine T.bs _ _ _ _ _ _ _ _ G1 (up_ne n_ec (up_ne n_ep hm)) up_self fun s2 R2 G2 => ?_
      refine g_step hL hA' d1 d2 d3 G2 e2 ka kb hp fun s3 tp' tc' G3 R3 H' => ?_
      refine T.esc _ _ _ _ _ _ _ _ _ _ _ rfl rfl G3 (up_ne n_ec (up_ne n_ep up_self)) (up_ne n_pc up_self) up_self ?_
      intro b tq tu s4 pp l kk R4 hb hb' G4 hk
      have R123 := (R1.trans R2).trans R3
      refine h1 _ _ rfl _ _ _ _ _ _ _ _ _ ?_ (R123.trans R4) (R123.fresh hb G3.there) hb' G4 hk
      show ((i + 1 : Nat) : Int) = ((i + 2 : Nat) : Int) - 1
      omega
    · have hx' : x.cps.toList.drop i = c :: flat r := hx
      obtain ⟨e1, hx1⟩ := cps_at hx'
      refine g_step hL hA' d1 d2 d3 G e1 ka kb hp fun s1 tp tc G1 R1 H => ?_
      refine T.pl _ _ _ _ _ _ _ _ _ _ _ rfl rfl G1 (up_ne n_ec (up_ne n_ep hm)) (up_ne n_pc up_self) up_self hc ?_
      intro b tq tu s4 pp l kk R4 hb hb' G4 hk
      refine h1 _ _ rfl _ _ _ _ _ _ _ _ _ ?_ (R1.trans R4) (R1.fresh hb G1.there) hb' G4 hk
      show (i : Int) = ((i + 1 : Nat) : Int) - 1
      omega
end

end
section
open PySem PySem.W PySem.W.X PyProof.Rows PySem.Calls
set_option maxRecDepth 100000
/-- what one wake of generator g may turn -/
structure RelG (own : List Addr) (g : Nat) (y : GenState) (s s' : Shared) : Prop where
  keep : ∀ b o, b ∉ own → s.heap.get? b = some o → s'.heap.get? b = some o
  os : s'.os = s.os
  gens : s'.gens = s.gens.setIfInBounds g y
/-- what lies between two wakes -/
structure Later (own : List Addr) (g : Nat) (s s' : Shared) : Prop where
  keep : ∀ b ∈ own, ∀ o, s.heap.get? b = some o → s'.heap.get? b = some o
  gen : s'.gens[g]? = s.gens[g]?
  lim : s'.heap.NoLimit
/-- the generator a (its number g) hands on the texts r, the next one at place i, and then ends -/
def Ready (w : World) (own : List Addr) (a : Addr) (g : Nat) : List Str → Nat → Shared → Prop
  | [], _, s => ∀ (A : Around) (Q : Option Value → Shared → Prop) (E : Value → Shared → Prop), A.handled = none → A.depth < recursionLimit →
      (∀ s', RelG own g .finished s s' → Q none s') → wpAny (model prg w) A (pyNext (.ref a)) Q E s
  | u :: r, i, s => ∀ (A : Around) (Q : Option Value → Shared → Prop) (E : Value → Shared → Prop), A.handled = none → A.depth < recursionLimit →
      (∀ own' b tp tu s' y p, RelG own g y s s' → s'.heap.IsGen a g → (∀ c ∈ own', c ∈ own ∨ s.heap.get? c = none) → (∀ c ∈ own', ∃ o, s'.heap.get? c = some o) → b ∉ own' → s.heap.get? b = none → p = ((i + u.length : Nat) : Int) - 1 →
        s'.heap.get? b = some (pairObj p tp u tu) → (∀ s'', Later own' g s' s'' → Ready w own' a g r (i + u.length) s'') → Q (some (.ref b)) s') → wpAny (model prg w) A (pyNext (.ref a)) Q E s

section
variable {w : World} {x : Str} {t : Tok} {Lg e it a : Addr} {g : Nat} {env : Env} {pa pb pos : Pos} {k : Nat} {fbody : List Stmt} {k' : Result → Sem Fin} {c₁ : Code} {p₁ : Pos}

theorem setGen_twice {s s' : Shared} {y z : GenState} (h : s'.gens = (s.setGen g y).gens) : (s'.setGen g z).gens = s.gens.setIfInBounds g z := by
  show s'.gens.setIfInBounds g z = _
  rw [h]
  show (s.gens.setIfInBounds g y).setIfInBounds g z = _
  simp

theorem ready_susp (T : Turns w x t Lg e it (flOf env pa pb pos k e fbody) env fbody) (hL : env.locals = Lg) (d1 : Lg ≠ e) (d2 : Lg ≠ it) (d3 : e ≠ it) (da : a ∉ [Lg, e, it])
    (ka : env.kindOf (Str.ofString "pos") = some .local) (kb : env.kindOf (Str.ofString "ch") = some .local) (hp : (env.scope.kind == .class || (env.scope.kind == .module && env.locals != env.globals)) = false)
    (hT : ∀ A s' P' m, s'.heap.Ns Lg m → m (Str.ofString "escape") = some (.bool false) → (∀ s'', Rel0 [Lg, e, it] s' s'' → P' (.ret (.ok (.ret .none))) s'') → SegX (model prg w) A c₁ (k' (.ok .next)) [] s' P') :
    ∀ (r : List Str) (i : Nat) (m : Str → Option Value) (s : Shared) (kk : Resume → Sem Fin) (l : List Value) (pp : Pos), (∀ u ∈ r, IsTok u) → x.cps.toList.drop i = flat r → i ≤ x.cps.size →
      s.heap.IsGen a g → s.heap.NoLimit → s.gens[g]? = some (.suspended kk l (flOf env pa pb pos k e fbody) pp [.ret k' none false [] c₁ p₁ []] false) →
      RP w x t Lg e it (flOf env pa pb pos k e fbody) [.ret k' none false [] c₁ p₁ []] m i kk → GSt x t Lg e it m i s.heap → Ready w [a, Lg, e, it] a g r i s := by
  have own3 : ∀ b, b ∉ [a, Lg, e, it] → b ∉ [Lg, e, it] := fun b h q => h (.tail _ q)
  intro r
  induction r with
  | nil =>
    intro i m s kk l pp hr hx hi hg hl hgs hk G A Q E hh hd hQ
    refine pyNext_genX hh hl hd hg hgs (.inr ⟨kk, l, pp, false, rfl, rfl⟩) (hk A.in1 (s.setGen g .running) _ G fun s' m' R G' hm' => ?_)
    refine gen_loop T hL d1 d2 d3 ka kb hp (by exact hh) G' hm' [] hr hx hi (fun _ s'' hn R' => ?_) (fun u r' h => nomatch h)
    refine hT _ _ _ _ hn hm' fun s3 R3 => ⟨rfl, fun h' hk' => hQ _ ⟨fun b o hb q => ?_, ?_, ?_⟩⟩
    · exact hk' b o (R3.keep b o (own3 b hb) (R'.keep b o (own3 b hb) (R.keep b o (own3 b hb) q)))
    · exact (R3.os.trans R'.os).trans R.os
    · exact setGen_twice (y := .running) ((R3.gens.trans R'.gens).trans R.gens)
  | cons u r ih =>
    intro i m s kk l pp hr hx hi hg hl hgs hk G A Q E hh hd hQ
    refine pyNext_genX hh hl hd hg hgs (.inr ⟨kk, l, pp, false, rfl, rfl⟩) (hk A.in1 (s.setGen g .running) _ G fun s' m' R G' hm' => ?_)
    refine gen_loop T hL d1 d2 d3 ka kb hp (by exact hh) G' hm' (u :: r) hr hx hi (fun h => nomatch h) (fun u' r' h => ?_)
    cases h
    intro m3 p tp tu b s3 pp3 l3 k3 hpp R3 hb hb3 G3 hk3
    show Q (some (.ref b)) (s3.setGen g (.suspended k3 l3 (flOf env pa pb pos k e fbody) pp3 [.ret k' none false [] c₁ p₁ []] false))
    have hb0 : s.heap.get? b = none := (show Rel0 [Lg, e, it] (s.setGen g .running) s' from R).fresh hb G'.there
    refine hQ [a, Lg, e, it] b tp tu _ _ p ⟨fun y o hy q => R3.keep y o (own3 y hy) (R.keep y o (own3 y hy) q), R3.os.trans R.os, setGen_twice (y := .running) (R3.gens.trans R.gens)⟩ (let ⟨o, n1, n2, ho, r1⟩ := hg; ⟨o, n1, n2, R3.keep a o da (R.keep a o da ho), r1⟩) (fun _ h => .inl h) ?_ ?_ hb0 hpp hb3 fun s4 L4 => ?_
    · intro y hy
      rcases List.mem_cons.mp hy with rfl | hy
      · obtain ⟨o, _, _, ho, _⟩ := hg
        exact ⟨o, R3.keep _ o da (R.keep _ o da ho)⟩
      · exact G3.there y hy
    · intro hb1
      rcases List.mem_cons.mp hb1 with rfl | hb1
      · obtain ⟨o, _, _, ho, _⟩ := hg
        rw [R.keep _ o da ho] at hb; cases hb
      · obtain ⟨o, ho⟩ := G'.there b hb1
        rw [hb] at ho; cases ho
    have hlen : (flat (u :: r)).length = x.cps.size - i := by rw [← hx]; simp
    rw [flat_cons, List.length_append] at hlen
    have hul : u.cps.toList.length = u.length := by simp [Str.length]
    rw [hul] at hlen
    refine ih (i + u.length) m3 s4 k3 l3 pp3 (fun v hv => hr v (.tail _ hv)) ?_ (by omega) ?_ L4.lim ?_ hk3 ?_
    · rw [← List.drop_drop, hx, flat_cons, ← hul, List.drop_left]
    · obtain ⟨o, n1, n2, ho, r1⟩ := hg
      exact ⟨o, n1, n2, L4.keep a (by simp) o (R3.keep a o da (R.keep a o da ho)), r1⟩
    · rw [L4.gen]
      show (s3.gens.setIfInBounds g _)[g]? = _
      have : g < s3.gens.size := by
        rw [R3.gens, R.gens]
        show g < (s.gens.setIfInBounds g .running).size
        rw [Array.size_setIfInBounds]
        exact (Array.getElem?_eq_some_iff.mp hgs).1
      simp [this]
    · refine ⟨G3.loc.at' fun o q => L4.keep Lg (by simp) o q, ?_, ?_⟩
      · obtain ⟨old, q⟩ := G3.en; exact ⟨old, L4.keep e (by simp) _ q⟩
      · obtain ⟨o, q, z⟩ := G3.st; exact ⟨o, L4.keep it (by simp) _ q, z⟩

/-- the very first wake: what runs ahead of the loop makes e and it -/
theorem ready_fresh {gc : Code} (hL : env.locals = Lg) (da : a ≠ Lg)
    (ka : env.kindOf (Str.ofString "pos") = some .local) (kb : env.kindOf (Str.ofString "ch") = some .local) (hp : (env.scope.kind == .class || (env.scope.kind == .module && env.locals != env.globals)) = false)
    (r : List Str) (m : Str → Option Value) (s : Shared) (hr : ∀ u ∈ r, IsTok u) (hx : x.cps.toList = flat r) (hg : s.heap.IsGen a g) (hl : s.heap.NoLimit) (hgs : s.gens[g]? = some (.fresh gc)) (hn : s.heap.Ns Lg m)
    (hstart : ∀ A P, A.handled = none → (∀ e it s' m' k' p₁, e ≠ it → s.heap.get? e = none → s.heap.get? it = none → Rel0 [Lg] (s.setGen g .running) s' → GSt x t Lg e it m' 0 s'.heap → m' (Str.ofString "escape") = some (.bool false) →
        Turns w x t Lg e it (flOf env pa pb pos k e fbody) env fbody →
        (∀ A s' P' m, s'.heap.Ns Lg m → m (Str.ofString "escape") = some (.bool false) → (∀ s'', Rel0 [Lg, e, it] s' s'' → P' (.ret (.ok (.ret .none))) s'') → SegX (model prg w) A c₁ (k' (.ok .next)) [] s' P') →
        SegX (model prg w) A (flOf env pa pb pos k e fbody) (denote table (flOf env pa pb pos k e fbody)) [.ret k' none false [] c₁ p₁ []] s' P) →
      SegX (model prg w) A gc (denote table gc) [] (s.setGen g .running) P) :
    Ready w [a, Lg] a g r 0 s := by
  have there : ∃ o, s.heap.get? Lg = some o := by obtain ⟨o, _, _, h, _⟩ := hn; exact ⟨o, h⟩
  have there' : ∃ o, s.heap.get? a = some o := by obtain ⟨o, _, _, h, _⟩ := hg; exact ⟨o, h⟩
  have sep : ∀ {e : Addr}, s.heap.get? e = none → Lg ≠ e ∧ a ≠ e := fun h => by
    constructor
    · rintro rfl; obtain ⟨o, q⟩ := there; rw [h] at q; cases q
    · rintro rfl; obtain ⟨o, q⟩ := there'; rw [h] at q; cases q
  have hx0 : x.cps.toList.drop 0 = flat r := by simpa using hx
  cases r with
  | nil =>
    intro A Q E hh hd hQ
    refine pyNext_genX hh hl hd hg hgs (.inl ⟨rfl, rfl, rfl⟩) (hstart A.in1 _ hh fun e it s' m' k' p₁ d3 he hit R G hm' T hT => ?_)
    obtain ⟨d1, da1⟩ := sep he
    obtain ⟨d2, da2⟩ := sep hit
    have own3 : ∀ b o, b ∉ [a, Lg] → s.heap.get? b = some o → b ∉ [Lg, e, it] := fun b o hb q z => by
      rcases List.mem_cons.mp z with rfl | z
      · exact hb (by simp)
      · rcases List.mem_cons.mp z with rfl | z
        · exact nomatch q.symm.trans he
        · rw [List.mem_singleton.mp z] at q; exact nomatch q.symm.trans hit
    refine gen_loop T hL d1 d2 d3 ka kb hp (by exact hh) G hm' [] hr hx0 (Nat.zero_le _) (fun _ s'' hn R' => ?_) (fun u r' h => nomatch h)
    refine hT _ _ _ _ hn hm' fun s3 R3 => ⟨rfl, fun h' hk' => hQ _ ⟨fun b o hb q => ?_, ?_, ?_⟩⟩
    · exact hk' b o (R3.keep b o (own3 b o hb q) (R'.keep b o (own3 b o hb q) (R.keep b o (fun z => hb (by simp at z; simp [z])) q)))
    · exact (R3.os.trans R'.os).trans R.os
    · exact setGen_twice (y := .running) ((R3.gens.trans R'.gens).trans R.gens)
  | cons u r =>
    intro A Q E hh hd hQ
    refine pyNext_genX hh hl hd hg hgs (.inl ⟨rfl, rfl, rfl⟩) (hstart A.in1 _ hh fun e it s' m' k' p₁ d3 he hit R G hm' T hT => ?_)
    obtain ⟨d1, da1⟩ := sep he
    obtain ⟨d2, da2⟩ := sep hit
    have own3 : ∀ b o, b ∉ [a, Lg] → s.heap.get? b = some o → b ∉ [Lg, e, it] := fun b o hb q z => by
      rcases List.mem_cons.mp z with rfl | z
      · exact hb (by simp)
      · rcases List.mem_cons.mp z with rfl | z
        · exact nomatch q.symm.trans he
        · rw [List.mem_singleton.mp z] at q; exact nomatch q.symm.trans hit
    have keepA : ∀ o, s.heap.get? a = some o → s'.heap.get? a = some o := fun o q => R.keep a o (by simpa using da) q
    refine gen_loop T hL d1 d2 d3 ka kb hp (by exact hh) G hm' (u :: r) hr hx0 (Nat.zero_le _) (fun h => nomatch h) (fun u' r' h => ?_)
    cases h
    intro m3 p tp tu b s3 pp3 l3 k3 hpp R3 hb hb3 G3 hk3
    show Q (some (.ref b)) (s3.setGen g (.suspended k3 l3 (flOf env pa pb pos k e fbody) pp3 [.ret k' none false [] c₁ p₁ []] false))
    have da3 : a ∉ [Lg, e, it] := by simp [da, da1, da2]
    have hb0 : s.heap.get? b = none := (show Rel0 [Lg] (s.setGen g .running) s' from R).fresh hb fun y hy => by
      rw [List.mem_singleton.mp hy]; obtain ⟨o, _, _, h, _⟩ := G.loc; exact ⟨o, h⟩
    refine hQ [a, Lg, e, it] b tp tu _ _ p ⟨fun y o hy q => R3.keep y o (own3 y o hy q) (R.keep y o (fun z => hy (by simp at z; simp [z])) q), R3.os.trans R.os, setGen_twice (y := .running) (R3.gens.trans R.gens)⟩ (let ⟨o, n1, n2, ho, r1⟩ := hg; ⟨o, n1, n2, R3.keep a o da3 (keepA o ho), r1⟩) ?_ ?_ ?_ hb0 hpp hb3 fun s4 L4 => ?_
    · intro y hy
      rcases List.mem_cons.mp hy with rfl | hy
      · exact .inl (by simp)
      · rcases List.mem_cons.mp hy with rfl | hy
        · exact .inl (by simp)
        · rcases List.mem_cons.mp hy with rfl | hy
          · exact .inr he
          · rw [List.mem_singleton.mp hy]; exact .inr hit
    · intro y hy
      rcases List.mem_cons.mp hy with rfl | hy
      · obtain ⟨o, ho⟩ := there'
        exact ⟨o, R3.keep _ o da3 (keepA o ho)⟩
      · exact G3.there y hy
    · intro hb1
      rcases List.mem_cons.mp hb1 with rfl | hb1
      · obtain ⟨o, ho⟩ := there'
        rw [keepA o ho] at hb; cases hb
      · obtain ⟨o, ho⟩ := G.there b hb1
        rw [hb] at ho; cases ho
    have hlen : (flat (u :: r)).length = x.cps.size := by rw [← hx]; simp
    rw [flat_cons, List.length_append] at hlen
    have hul : u.cps.toList.length = u.length := by simp [Str.length]
    rw [hul] at hlen
    refine ready_susp T hL d1 d2 d3 da3 ka kb hp hT r (0 + u.length) m3 s4 k3 l3 pp3 (fun v hv => hr v (.tail _ hv)) ?_ (by omega) ?_ L4.lim ?_ hk3 ?_
    · rw [← List.drop_drop, hx0, flat_cons, ← hul, List.drop_left]
    · obtain ⟨o, n1, n2, ho, r1⟩ := hg
      exact ⟨o, n1, n2, L4.keep a (by simp) o (R3.keep a o da3 (keepA o ho)), r1⟩
    · rw [L4.gen]
      show (s3.gens.setIfInBounds g _)[g]? = _
      have : g < s3.gens.size := by
        rw [R3.gens, R.gens]
        show g < (s.gens.setIfInBounds g .running).size
        rw [Array.size_setIfInBounds]
        exact (Array.getElem?_eq_some_iff.mp hgs).1
      simp [this]
    · refine ⟨G3.loc.at' fun o q => L4.keep Lg (by simp) o q, ?_, ?_⟩
      · obtain ⟨old, q⟩ := G3.en; exact ⟨old, L4.keep e (by simp) _ q⟩
      · obtain ⟨o, q, z⟩ := G3.st; exact ⟨o, L4.keep it (by simp) _ q, z⟩
end

end
section
open PySem PySem.W PySem.W.X PyProof.Rows PySem.Calls
set_option maxRecDepth 100000
section
variable {w : World} {A : Around} {E : Value → Shared → Prop} {s : Shared} {env : Env} {m : Str → Option Value} {y : Str} {v : Value} {pos : Pos}
theorem ld0 {Q : Value → Shared → Prop} (hn : s.heap.Ns env.locals m) (hv : m y = some v) (hk : env.scope.kind = .function) (hl : env.kindOf y = some .local) (h : Q v s)
    (hd : (y == ("__debug__" : Str)) = false := by decide +kernel) : wpAny (model prg w) A (eval (.Name y pos) env) Q E s := wpAny_Name (wpAny_loadName_local hk hl hn hv h) hd
theorem st0 {Q : Unit → Shared → Prop} (hn : s.heap.Ns env.locals m) (hk : env.scope.kind = .function) (hl : env.kindOf y = some .local)
    (h : ∀ h', h'.Ns env.locals (up m y v) → Heap.SameBut env.locals s.heap h' → Q () { s with heap := h', toks := s.toks + 1 }) : wpAny (model prg w) A (storeName env y v) Q E s :=
  wpAny_storeName_local hl hn h (by rw [hk]; rfl)
end

section
variable {w : World} {x : Str} {t : Tok} {Lg e it : Addr} {fl : Code} {env : Env} {p1 p2 p3 p4 p5 p6 p7 p8 p9 p10 p11 p12 p13 p14 p15 p16 p17 p18 p19 p20 p21 p22 p23 p24 : Pos} {k1 k2 k3 k4 k5 k6 : Nat}
abbrev body0 (p1 p2 p3 p4 p5 p6 p7 p8 p9 p10 p11 p12 p13 p14 p15 p16 p17 p18 p19 p20 p21 p22 p23 p24 : Pos) (k1 k2 k3 k4 k5 k6 : Nat) : List Stmt :=
  [.If (.Name (Str.ofString "escape") p1) [.Expr (.Yield (some (.Tuple [.Name (Str.ofString "pos") p2, .BinOp (.Constant (.str (Str.ofString "\\")) k1 p3) .Add (.Name (Str.ofString "ch") p4) p5] k2 p6)) p7) p8,
      .Assign [.Name (Str.ofString "escape") p9] (.Constant (.bool false) k3 p10) p11]
    [.If (.Compare (.Name (Str.ofString "ch") p12) [.Eq] [.Constant (.str (Str.ofString "\\")) k4 p13] p14) [.Assign [.Name (Str.ofString "escape") p15] (.Constant (.bool true) k5 p16) p17]
      [.Expr (.Yield (some (.Tuple [.Name (Str.ofString "pos") p18, .Name (Str.ofString "ch") p19] k6 p20)) p21) p22] p23] p24]

theorem bs_str : Str.ofString "\\" = ⟨#[92]⟩ := by decide +kernel
theorem GSt.same {m : Str → Option Value} {i : Nat} {s : Shared} {h' : Heap} {m' : Str → Option Value} (G : GSt x t Lg e it m i s.heap) (hs : Heap.SameBut Lg s.heap h') (d1 : Lg ≠ e) (d2 : Lg ≠ it) (hn : h'.Ns Lg m') : GSt x t Lg e it m' i h' :=
  ⟨hn, let ⟨old, q⟩ := G.en; ⟨old, hs.extBut _ _ d1.symm q⟩, let ⟨o, q, r⟩ := G.st; ⟨o, hs.extBut _ _ d2.symm q, r⟩⟩
theorem GSt.pushed {m : Str → Option Value} {i : Nat} {h : Heap} (G : GSt x t Lg e it m i h) (o : Obj) : GSt x t Lg e it m i (h.push o) :=
  ⟨G.loc.at' fun _ q => Heap.get?_push_of_some _ q, let ⟨old, q⟩ := G.en; ⟨old, Heap.get?_push_of_some _ q⟩, let ⟨o, q, r⟩ := G.st; ⟨o, Heap.get?_push_of_some _ q, r⟩⟩
theorem none_size {h : Heap} : h.get? h.objs.size = none := by
  cases q : h.get? h.objs.size with
  | none => rfl
  | some o => exact absurd (Heap.lt_size q) (Nat.lt_irrefl _)

theorem turns0 (hL : env.locals = Lg) (d1 : Lg ≠ e) (d2 : Lg ≠ it) (hk : env.scope.kind = .function) (ke : env.kindOf (Str.ofString "escape") = some .local)
    (kp : env.kindOf (Str.ofString "pos") = some .local) (kc : env.kindOf (Str.ofString "ch") = some .local) (hco : env.scope.isCoroutine = false) (hi : interactive env = false) (hfl : fl.quiet = true)
    (hsw : swapsWith (.Constant (.bool false) k3 p10) (some (.Name (Str.ofString "escape") p9)) p11.line env = pure false) (hsw' : swapsWith (.Constant (.bool true) k5 p16) (some (.Name (Str.ofString "escape") p15)) p17.line env = pure false) :
    Turns w x t Lg e it fl env (body0 p1 p2 p3 p4 p5 p6 p7 p8 p9 p10 p11 p12 p13 p14 p15 p16 p17 p18 p19 p20 p21 p22 p23 p24 k1 k2 k3 k4 k5 k6) where
  esc := by
    intro A fs P s m i p tp c tc H h1 h2 G m1 m2 m3 hY
    subst hL
    refine g_cons (g_If (isTrue_plain (ld0 G.loc m1 hk ke (wpAny_truthy_bool ?_))))
    rw [if_pos rfl]
    refine g_cons (g_Yield h1 rfl h2 ?_ hco hi)
    refine wpAny_Tuple (spliced_cons (ld0 G.loc m2 hk kp (spliced_cons (wpAny_BinOp (Constant_str (ld0 G.loc m3 hk kc ?_))))))
    refine PySem.P.add_str ?_
    rw [bs_str, if_neg (by decide), if_neg (by simp [Str.length])]
    refine ⟨(by show 2 ≤ sizeLine; decide), ?_⟩
    refine spliced_nil ⟨by show 2 ≤ sizeLine; decide, ?_⟩
    intro pp l k hk'
    refine hY _ tp _ _ pp l k ⟨fun b o _ q => Heap.get?_push_of_some _ q, rfl, rfl⟩ none_size (Heap.get?_push_size _ rfl) (GSt.pushed G _) ?_
    intro A' s' P' G' hgo
    refine hk' A' s' P' ?_
    show SegX _ A' fl ((execs [.Assign [.Name (Str.ofString "escape") p9] (.Constant (.bool false) k3 p10) p11] env).wrap _ _ _ _) fs s' P'
    refine g_cons (g_wrap (wpAny_Assign_Name (Constant_bool (st0 G'.loc hk ke fun h' hn hs => ?_)) hsw))
    refine g_nil ?_
    show SegX _ A' fl ((execs [] env).wrap _ _ _ _) fs _ P'
    refine g_nil ?_
    show SegX _ A' fl (.pure (.again fl)) fs _ P'
    refine s_again _ _ _ _ _ _ _ _ hfl (hgo _ _ ⟨fun b o hb q => hs.extBut b o (fun z => hb (by simp [z])) q, rfl, rfl⟩ (G'.same hs d1 d2 hn) up_self)
  bs := by
    intro A fs P s m i tc H G m1 m2 hgo
    subst hL
    refine g_cons (g_If (isTrue_plain (ld0 G.loc m1 hk ke (wpAny_truthy_bool ?_))))
    rw [if_neg (by decide)]
    refine g_cons (g_If (wpAny_isTrue_Compare1 (ld0 G.loc m2 hk kc (Constant_str (PyProof.Rows.eq_str (wpAny_truthy_bool ?_))))))
    rw [bs_str, if_pos (by decide)]
    refine g_cons (g_wrap (wpAny_Assign_Name (Constant_bool (st0 G.loc hk ke fun h' hn hs => ?_)) hsw'))
    refine g_nil ?_
    show SegX _ A fl ((execs [] env).wrap _ _ _ _) fs _ P
    refine g_nil ?_
    show SegX _ A fl ((execs [] env).wrap _ _ _ _) fs _ P
    refine g_nil ?_
    show SegX _ A fl (.pure (.again fl)) fs _ P
    refine s_again _ _ _ _ _ _ _ _ hfl (hgo _ ⟨fun b o hb q => hs.extBut b o (fun z => hb (by simp [z])) q, rfl, rfl⟩ (G.same hs d1 d2 hn))
  pl := by
    intro A fs P s m i p tp c tc H h1 h2 G m1 m2 m3 hc hY
    subst hL
    refine g_cons (g_If (isTrue_plain (ld0 G.loc m1 hk ke (wpAny_truthy_bool ?_))))
    rw [if_neg (by decide)]
    refine g_cons (g_If (wpAny_isTrue_Compare1 (ld0 G.loc m3 hk kc (Constant_str (PyProof.Rows.eq_str (wpAny_truthy_bool ?_))))))
    rw [bs_str, if_neg (by simpa using hc)]
    refine g_cons (g_Yield h1 rfl h2 ?_ hco hi)
    refine wpAny_Tuple (spliced_cons (ld0 G.loc m2 hk kp (spliced_cons (ld0 G.loc m3 hk kc ?_))))
    refine spliced_nil ⟨by show 2 ≤ sizeLine; decide, ?_⟩
    intro pp l k hk'
    refine hY _ tp tc _ pp l k ⟨fun b o _ q => Heap.get?_push_of_some _ q, rfl, rfl⟩ none_size (Heap.get?_push_size _ rfl) (GSt.pushed G _) ?_
    intro A' s' P' G' hgo
    refine hk' A' s' P' ?_
    show SegX _ A' fl ((execs [] env).wrap _ _ _ _) fs _ P'
    refine g_nil ?_
    show SegX _ A' fl ((execs [] env).wrap _ _ _ _) fs _ P'
    refine g_nil ?_
    show SegX _ A' fl ((execs [] env).wrap _ _ _ _) fs _ P'
    refine g_nil ?_
    show SegX _ A' fl (.pure (.again fl)) fs _ P'
    exact s_again _ _ _ _ _ _ _ _ hfl (hgo _ m Rel0.refl G' m1)
end

end
section
open PySem PySem.W PySem.W.X PyProof.Rows PySem.Calls
set_option maxRecDepth 100000
abbrev genObj (g : Nat) (name qual : Str) (t1 t2 : Tok) : Obj := { cls := .type "generator", data := .fields #[.int g 0, .str name t1, .str qual t2] }

theorem call_genK {prog : Program} {w : World} {A : Around} {s : Shared} {K : Frag} {Q E : Value → Shared → Prop} {h₀ : Heap} {L : Addr} {m : Str → Option Value}
    {name qual : Str} {params : Arguments} {body : List Stmt} {scope : Scope} {dV kV doc pm cdv ct oc : Value} {an od : Option Addr} {osl : Array (Option Value)} {f : Addr} {pos : List Value} {binds : List (Str × Value)}
    (F : Fr h₀ L s.heap m) (X : K.In h₀) (hlim : h₀.NoLimit)
    (ho : K.lookup f = some ⟨oc, od, .func (fnOf name qual params body scope dV kV doc pm an cdv ct), osl⟩) (hcd : codeIn K cdv qual = true) (hroom : A.depth < recursionLimit)
    (hbind : bindArgs (fnOf name qual params body scope dV kV doc pm an cdv ct) ⟨pos, []⟩ = pure binds) (hloc : ∀ y ∈ binds, scope.names.lookup y.1 = some .local)
    (h : ∀ (h₁ : Heap) t1 t2 tk, h₁.Ns s.heap.objs.size (fun x => binds.reverse.lookup x) → (∀ b o, s.heap.get? b = some o → h₁.get? b = some o) → h₁.objs.size = s.heap.objs.size + 1 →
      Q (.ref h₁.objs.size) { s with heap := h₁.push (genObj s.gens.size name qual t1 t2), toks := tk, gens := s.gens.push (.fresh (.func body (envOf qual scope s.heap.objs.size f cdv))) })
    (hgen : scope.isGenerator = true := by rfl) (hco : scope.isCoroutine = false := by rfl) (hk : scope.kind = .function := by rfl) (hcell : ∀ x ∈ scope.names, x.2 ≠ .cell := by decide) :
    wpAny (model prog w) A (call (.ref f) pos) Q E s := by
  have Xs : K.In s.heap := fun b o e => F.keep b o (X b o e)
  refine wpAny_call (codeAny_call_generator (fd := fnOf name qual params body scope dV kV doc pm an cdv ct) (body := body) hroom (Xs _ _ ho) rfl hco hgen rfl (codeRec_of Xs hcd) ?_)
  rw [hbind]
  refine wpAny_pure (wpAny_newFunctionEnv hcell hloc (fun h₁ hns hsb => ⟨(hlim.keeps F.keep).fresh _ hsb, ?_⟩) hk)
  refine h h₁ _ _ _ hns (fun b o e => hsb.extBut b o (Nat.ne_of_lt (Heap.lt_size e)) (Heap.get?_push_of_some _ e)) ?_
  rw [hsb.1]; exact Array.size_push _

section
variable {w : World} {x : Str} {t : Tok} {Lg a : Addr} {g : Nat} {env : Env} {pa pb pos : Pos} {k : Nat} {fbody : List Stmt}
theorem ready_env {s : Shared} {st1 st2 : Stmt} {itr : Expr} {fp : Pos} {rest : List Stmt} (hgs : s.gens[g]? = some (.fresh (.func (st1 :: st2 :: .For (.Tuple [.Name (Str.ofString "pos") pa, .Name (Str.ofString "ch") pb] k pos) itr fbody [] fp :: rest) env))) (hL : env.locals = Lg) (da : a ≠ Lg)
    (ka : env.kindOf (Str.ofString "pos") = some .local) (kb : env.kindOf (Str.ofString "ch") = some .local) (hp : (env.scope.kind == .class || (env.scope.kind == .module && env.locals != env.globals)) = false)
    (r : List Str) (m : Str → Option Value) (hr : ∀ u ∈ r, IsTok u) (hx : x.cps.toList = flat r) (hg : s.heap.IsGen a g) (hl : s.heap.NoLimit) (hn : s.heap.Ns Lg m)
    (hstart : ∀ A P, A.handled = none → (∀ e it s' m' k' p₁, e ≠ it → s.heap.get? e = none → s.heap.get? it = none → Rel0 [Lg] (s.setGen g .running) s' → GSt x t Lg e it m' 0 s'.heap → m' (Str.ofString "escape") = some (.bool false) →
        Turns w x t Lg e it (flOf env pa pb pos k e fbody) env fbody →
        (∀ A s' P' m, s'.heap.Ns Lg m → m (Str.ofString "escape") = some (.bool false) → (∀ s'', Rel0 [Lg, e, it] s' s'' → P' (.ret (.ok (.ret .none))) s'') → SegX (model prg w) A (.func (st1 :: st2 :: .For (.Tuple [.Name (Str.ofString "pos") pa, .Name (Str.ofString "ch") pb] k pos) itr fbody [] fp :: rest) env) (k' (.ok .next)) [] s' P') →
        SegX (model prg w) A (flOf env pa pb pos k e fbody) (denote table (flOf env pa pb pos k e fbody)) [.ret k' none false [] (.func (st1 :: st2 :: .For (.Tuple [.Name (Str.ofString "pos") pa, .Name (Str.ofString "ch") pb] k pos) itr fbody [] fp :: rest) env) p₁ []] s' P) →
      SegX (model prg w) A (.func (st1 :: st2 :: .For (.Tuple [.Name (Str.ofString "pos") pa, .Name (Str.ofString "ch") pb] k pos) itr fbody [] fp :: rest) env) (denote table (.func (st1 :: st2 :: .For (.Tuple [.Name (Str.ofString "pos") pa, .Name (Str.ofString "ch") pb] k pos) itr fbody [] fp :: rest) env)) [] (s.setGen g .running) P) :
    Ready w [a, Lg] a g r 0 s := ready_fresh hL da ka kb hp r m s hr hx hg hl hgs hn hstart
end

set_option maxHeartbeats 8000000 in
theorem iter_spec' : Fill → ∀ {w : World} {A₀ : Around} {base h₀ : Heap} {outer : List Env} {L : Addr} {m : Str → Option Value} {news : List (Addr × Obj)} {s : Shared}
    {dp un : Nat} {gd : Option (List Code)} {cn : Str} {nm : List (Str × NameKind)} {ig ic : Bool} {mr : List (Str × Const)} {a : Addr} {ccd : Value} {cl : List (Str × Addr)} {Q E : Value → Shared → Prop}
    (_ : Cx w A₀ base outer h₀ L m news s) (_ : dp ≤ 980) (_ : un ≤ 9500) (x : Str) (t : Tok) (r : List Str) (_ : ∀ u ∈ r, IsTok u) (_ : x.cps.toList = flat r)
    (_ : ∀ b Lg gc s', s.heap.get? b = none → s.heap.get? Lg = none → b ≠ Lg → (∀ y ∈ [b, Lg], ∃ o, s'.heap.get? y = some o) → (∀ b o, s.heap.get? b = some o → s'.heap.get? b = some o) → s'.os = s.os → s'.gens = s.gens.push (.fresh gc) →
      s'.heap.IsGen b s.gens.size → (∀ s'', Later [b, Lg] s.gens.size s' s'' → (∀ b o, h₀.get? b = some o → s''.heap.get? b = some o) → Ready w [b, Lg] b s.gens.size r 0 s'') → Q (.ref b) s'),
    wpAny (model prg w) (ktrTop dp un gd cn (fS nm ig ic mr) L a ccd cl outer) (call (.ref 28) [.str x t]) Q E s := by
  unfold Fill
  k_fill
  intro _ w A₀ base h₀ outer L m news s dp un gd cn nm ig ic mr a ccd cl Q E C hdp hun x t r hr hx hQ
  obtain ⟨B, F, X, N, _, _, _, _, T⟩ := C
  refine room hdp hun ?_
  refine' call_genK (binds := [(Str.ofString "addr", .str x t)]) F X T.nolimit ?ho ?hcd (by k_room) ?hb (locs ?hl) ?h ?hg ?hc ?hk ?hcl
  case ho => k_is
  case hcd => k_is
  case hb => rfl
  case hl => rfl
  case hg => rfl
  case hc => rfl
  case hk => rfl
  case hcl => decide
  intro h₁ t1 t2 tk hns hkeep hsz
  have hLg : h₁.get? s.heap.objs.size = none → False := by
    obtain ⟨o, _, _, q, _⟩ := hns
    intro z; rw [q] at z; cases z
  have hb0 : s.heap.get? h₁.objs.size = none := by
    cases q : s.heap.get? h₁.objs.size with
    | none => rfl
    | some o => exact absurd (Heap.lt_size q) (by rw [hsz]; exact Nat.not_lt.mpr (Nat.le_succ _))
  have hne : h₁.objs.size ≠ s.heap.objs.size := by rw [hsz]; exact Nat.succ_ne_self _
  refine hQ h₁.objs.size s.heap.objs.size _ _ hb0 none_size hne ?_ (fun b o q => Heap.get?_push_of_some _ (hkeep b o q)) rfl rfl ?_ ?_
  · intro y hy
    rcases List.mem_cons.mp hy with rfl | hy
    · exact ⟨_, Heap.get?_push_size _ rfl⟩
    · rw [List.mem_singleton.mp hy]
      obtain ⟨o, _, _, q, _⟩ := hns
      exact ⟨o, Heap.get?_push_of_some _ q⟩
  · exact ⟨_, _, _, Heap.get?_push_size _ rfl, rfl, rfl, rfl⟩
  · intro s'' Lt hk0
    have X2 := X
    have G2 : s''.heap.Ns mainGlobals _ := T.g.keeps hk0
    have B2 : s''.heap.Ns builtinsNs _ := T.b.keeps hk0
    have hns2 := Heap.Ns.at' hns fun o q => Lt.keep s.heap.objs.size (by simp) o (Heap.get?_push_of_some _ q)
    have hgs := Lt.gen
    simp only [Array.getElem?_push_size] at hgs
    refine ready_env (t := t) hgs rfl hne rfl rfl rfl r _ hr hx ⟨_, _, _, Lt.keep _ (by simp) _ (Heap.get?_push_size _ rfl), rfl, rfl, rfl⟩ Lt.lim hns2 ?_
    · intro A P hA hgo
      refine g_func fun H => ?_
      refine g_cons (g_wrap (wpAny_Assign_Name (wpAny_Constant_int (st0 hns2 rfl rfl fun h2 hn2 hs2 => ?_)) rfl))
      refine g_cons (g_wrap (wpAny_Assign_Name (Constant_bool (st0 hn2 rfl rfl fun h3 hn3 hs3 => ?_)) rfl))
      refine g_cons (g_For ?_)
      have k3 : ∀ b o, b ≠ s.heap.objs.size → s''.heap.get? b = some o → h3.get? b = some o := fun b o hb q => hs3.extBut b o hb (hs2.extBut b o hb q)
      have base3 : ∀ b o, h₀.get? b = some o → h3.get? b = some o := fun b o q => k3 b o (Nat.ne_of_lt (Heap.lt_size (F.keep b o q))) (hk0 b o q)
      have G3 : h3.Ns mainGlobals _ := T.g.keeps base3
      have B3 : h3.Ns builtinsNs _ := T.b.keeps base3
      refine wpAny_Call_Name_kw ?_
      refine Name_function_global rfl rfl (loadGlobal_builtin (v := .type "enumerate") G3 (mg_none_of X T.g (by k_is)) B3 ((T.builtins _ (by decide)).trans rfl) ?_)
      refine callWith_type1 (spliced_cons (ld0 (m := up (up (fun x_1 => List.lookup x_1 [(Str.ofString "addr", Value.str x t)].reverse) (Str.ofString "pos") (.int 0 s''.toks)) (Str.ofString "escape") (.bool false)) (v := .str x t) hn3 rfl rfl rfl (spliced_nil ?_)))
      refine call_enumerate_str (fun h4 he4 hi4 hz4 hk4 => ?_)
      refine wpAny_pyIter_enum he4 ?_
      intro p kf hkf
      have sz3 : h3.objs.size = s''.heap.objs.size := hs3.1.trans hs2.1
      have lgs : s.heap.objs.size < h3.objs.size := by rw [sz3]; obtain ⟨o, _, _, q, _⟩ := hns2; exact Heap.lt_size q
      have fresh3 : ∀ b, h3.objs.size ≤ b → s''.heap.get? b = none := fun b hb => by
        cases q : s''.heap.get? b with
        | none => rfl
        | some o => exact absurd (Heap.lt_size q) (by rw [← sz3]; exact Nat.not_lt.mpr hb)
      refine hgo (h3.objs.size + 1) h3.objs.size _ (up (up (fun x_1 => List.lookup x_1 [(Str.ofString "addr", Value.str x t)].reverse) (Str.ofString "pos") (.int 0 s''.toks)) (Str.ofString "escape") (.bool false)) kf p (Nat.succ_ne_self _) (fresh3 _ (Nat.le_succ _)) (fresh3 _ (Nat.le_refl _))
        ⟨fun b o hb q => hk4 b o (k3 b o (fun z => hb (z ▸ List.mem_singleton.mpr rfl)) q), rfl, rfl⟩ ⟨hn3.at' fun o q => hk4 _ o q, ⟨.none, he4⟩, hi4⟩ up_self
        (turns0 rfl (Nat.ne_of_lt (Nat.lt_succ_of_lt lgs)) (Nat.ne_of_lt lgs) rfl rfl rfl rfl rfl rfl rfl rfl rfl) ?_
      intro A' s' P' m' hn' hm' hP
      rw [hkf]
      show SegX _ A' _ ((execs _ _).wrap _ _ _ _) [] s' P'
      refine g_cons (g_If (isTrue_plain (ld0 hn' hm' rfl rfl (wpAny_truthy_bool ?_))))
      rw [if_neg (by decide)]
      refine g_nil ?_
      show SegX _ A' _ ((execs _ _).wrap _ _ _ _) [] s' P'
      refine g_nil ?_
      exact s_end _ _ _ _ _ _ (.ok (.ret .none)) _ rfl (hP _ Rel0.refl)

end
section
open PySem PySem.W PySem.W.X PyProof.Rows PySem.Calls
set_option maxRecDepth 100000
theorem own_led {h : Heap} : ∀ {own : List Addr}, (∀ c ∈ own, ∃ o, h.get? c = some o) → ∃ on : List (Addr × Obj), on.map (·.1) = own ∧ ∀ p ∈ on, h.get? p.1 = some p.2
  | [], _ => ⟨[], rfl, fun _ hp => nomatch hp⟩
  | c :: r, k => by
    obtain ⟨o, ho⟩ := k c (.head _)
    obtain ⟨on, h1, h2⟩ := own_led (own := r) fun y hy => k y (.tail _ hy)
    refine ⟨(c, o) :: on, by simp [h1], fun p hp => ?_⟩
    rcases List.mem_cons.mp hp with rfl | hp
    · exact ho
    · exact h2 p hp

structure LoopAt (g₀ : Heap) (L : Addr) (G₀ : Array GenState) (os₀ : OsState) (own : List Addr) (m : Str → Option Value) (led : List (Addr × Obj)) (s : Shared) : Prop where
  F : Fr g₀ L s.heap m
  N : News g₀ L s.heap led
  G : ∃ y, s.gens = G₀.push y
  O : s.os = os₀
  D : ∀ y ∈ own, g₀.get? y = none ∧ y ≠ L ∧ y ∉ led.map (·.1)

section
variable {w : World} {g₀ : Heap} {L : Addr} {G₀ : Array GenState} {os₀ : OsState} {own : List Addr} {m : Str → Option Value} {led : List (Addr × Obj)} {s : Shared} {ga : Addr}

theorem Fr.rel0 {s' : Shared} (F : Fr g₀ L s.heap m) (R : Rel0 [L] s s') {m' : Str → Option Value} (hn : s'.heap.Ns L m') : Fr g₀ L s'.heap m' :=
  ⟨hn, fun b o q => R.keep b o (by simpa using Nat.ne_of_lt (Nat.lt_of_lt_of_le (Heap.lt_size q) F.above)) (F.keep b o q), F.above⟩
theorem News.rel0 {s' : Shared} (N : News g₀ L s.heap led) (R : Rel0 [L] s s') : News g₀ L s'.heap led :=
  fun p hp => ⟨R.keep _ _ (by simpa using (N p hp).2.1) (N p hp).1, (N p hp).2⟩
theorem News.left {a b : List (Addr × Obj)} {h : Heap} (N : News g₀ L h (a ++ b)) : News g₀ L h a := fun p hp => N p (List.mem_append_left _ hp)
theorem News.right {a b : List (Addr × Obj)} {h : Heap} (N : News g₀ L h (a ++ b)) : News g₀ L h b := fun p hp => N p (List.mem_append_right _ hp)
theorem News.both {a b : List (Addr × Obj)} {h : Heap} (N : News g₀ L h a) (N' : News g₀ L h b) : News g₀ L h (a ++ b) := fun p hp => (List.mem_append.mp hp).elim (N p) (N' p)

theorem LoopAt.draw (Z : LoopAt g₀ L G₀ os₀ own m led s) {own' : List Addr} {y : GenState} {s' : Shared} (R : RelG own G₀.size y s s') (h1 : ∀ c ∈ own', c ∈ own ∨ s.heap.get? c = none) : LoopAt g₀ L G₀ os₀ own' m led s' := by
  have kb : ∀ b o, g₀.get? b = some o → b ∉ own := fun b o q z => by rw [(Z.D b z).1] at q; cases q
  have kL : L ∉ own := fun z => (Z.D L z).2.1 rfl
  have kN : ∀ p ∈ led, p.1 ∉ own := fun p hp z => (Z.D p.1 z).2.2 (List.mem_map_of_mem hp)
  refine ⟨⟨Z.F.ns.at' fun o q => R.keep _ _ kL q, fun b o q => R.keep _ _ (kb b o q) (Z.F.keep b o q), Z.F.above⟩, fun p hp => ⟨R.keep _ _ (kN p hp) (Z.N p hp).1, (Z.N p hp).2⟩, ?_, R.os.trans Z.O, fun c hc => ?_⟩
  · obtain ⟨y0, e⟩ := Z.G
    refine ⟨y, ?_⟩
    rw [R.gens, e]
    simp [Array.setIfInBounds, Array.set_push]
  · rcases h1 c hc with q | q
    · exact Z.D c q
    · refine ⟨?_, ?_, ?_⟩
      · cases z : g₀.get? c with
        | none => rfl
        | some o => rw [Z.F.keep c o z] at q; cases q
      · rintro rfl
        obtain ⟨o, _, _, z, _⟩ := Z.F.ns
        rw [z] at q; cases q
      · intro z
        obtain ⟨p, hp, rfl⟩ := List.mem_map.mp z
        rw [(Z.N p hp).1] at q; cases q

theorem gen_draw {A : Around} {Q : Option Value → Shared → Prop} {E : Value → Shared → Prop} {u : Str} {r : List Str} {i : Nat} (Y : Ready w own ga G₀.size (u :: r) i s) (Z : LoopAt g₀ L G₀ os₀ own m led s) (hl : g₀.NoLimit) (hA : A.handled = none) (hd : A.depth < recursionLimit)
    (h : ∀ own' on b p tp tu s', p = ((i + u.length : Nat) : Int) - 1 → s'.heap.IsGen ga G₀.size → s'.heap.get? b = some (pairObj p tp u tu) → Fr g₀ L s'.heap m → News g₀ L s'.heap (led ++ on) → (∀ q ∈ on, q.1 ∉ led.map (·.1)) →
      (∀ s'' m' led', led'.map (·.1) = led.map (·.1) → Fr g₀ L s''.heap m' → News g₀ L s''.heap (led' ++ on) → s''.gens = s'.gens → s''.os = s'.os → Ready w own' ga G₀.size r (i + u.length) s'' ∧ LoopAt g₀ L G₀ os₀ own' m' led' s'') → Q (some (.ref b)) s') :
    wpAny (model prg w) A (pyNext (.ref ga)) Q E s := by
  refine Y A Q E hA hd fun own' b tp tu s' y p R hg h1 h2 hb hb0 hp hb' hr => ?_
  have Z' := Z.draw R h1
  obtain ⟨on, hon, hon'⟩ := own_led h2
  have No : News g₀ L s'.heap on := fun q hq => ⟨hon' q hq, (Z'.D q.1 (hon ▸ List.mem_map_of_mem hq)).2.1, (Z'.D q.1 (hon ▸ List.mem_map_of_mem hq)).1⟩
  refine h own' on b p tp tu s' hp hg hb' Z'.F (News.both Z'.N No) (fun q hq => (Z'.D q.1 (hon ▸ List.mem_map_of_mem hq)).2.2) fun s'' m' led' hl' F' N' hg' ho' => ⟨hr s'' ⟨fun c hc o q => ?_, by rw [hg'], hl.keeps F'.keep⟩, ⟨F', News.left N', by rw [hg']; exact Z'.G, ho'.trans Z'.O, fun c hc => ⟨(Z'.D c hc).1, (Z'.D c hc).2.1, by rw [hl']; exact (Z'.D c hc).2.2⟩⟩⟩
  rw [← hon] at hc
  obtain ⟨q', hq', rfl⟩ := List.mem_map.mp hc
  rw [hon' q' hq'] at q
  cases q
  exact (News.right N' q' hq').1

theorem gen_end {A : Around} {Q : Option Value → Shared → Prop} {E : Value → Shared → Prop} {i : Nat} (Y : Ready w own ga G₀.size [] i s) (Z : LoopAt g₀ L G₀ os₀ own m led s) (hA : A.handled = none) (hd : A.depth < recursionLimit)
    (h : ∀ s', Fr g₀ L s'.heap m → News g₀ L s'.heap led → s'.gens = G₀.push .finished → s'.os = os₀ → Q none s') : wpAny (model prg w) A (pyNext (.ref ga)) Q E s := by
  refine Y A Q E hA hd fun s' R => ?_
  have Z' := Z.draw R (own' := []) (fun _ hc => nomatch hc)
  refine h s' Z'.F Z'.N ?_ Z'.O
  obtain ⟨y0, e⟩ := Z.G
  rw [R.gens, e]
  simp [Array.setIfInBounds, Array.set_push]

theorem letGo_gen {A : Around} {Q : Unit → Shared → Prop} {E : Value → Shared → Prop} {g : Nat} {elts : List Expr} {k : Nat} {pos : Pos} {v : Value} (hg : s.heap.IsGen ga g) (h : Q () s) :
    wpAny (model prg w) A (letOwnedTupleGo (.Tuple elts k pos) (.ref ga) v) Q E s := by
  unfold letOwnedTupleGo
  obtain ⟨o, n1, n2, ho, hc, hd, _⟩ := hg
  cases v with
  | ref b =>
    refine wpAny_bind (wpAny_load ho ?_)
    rw [hc, hd]
    exact wpAny_pure h
  | _ => exact wpAny_pure h

/-- a turn of the loop over the generator is over -/
def GEnd (g₀ : Heap) (L : Addr) (J : List Str → Nat → (Str → Option Value) → List (Addr × Obj) → Prop) (r : List Str) (i : Nat) (led on : List (Addr × Obj)) (s : Shared) (f : Flow) (s' : Shared) : Prop := match f with
  | .next | .cont => ∃ m' led', J r i m' led' ∧ led'.map (·.1) = led.map (·.1) ∧ Fr g₀ L s'.heap m' ∧ News g₀ L s'.heap (led' ++ on) ∧ s'.gens = s.gens ∧ s'.os = s.os
  | _ => False

def GStart (w : World) (g₀ : Heap) (L : Addr) (G₀ : Array GenState) (os₀ : OsState) (J : List Str → Nat → (Str → Option Value) → List (Addr × Obj) → Prop) (v : Value) (s : Shared) : Prop :=
  ∃ ga own r m led, v = .ref ga ∧ s.heap.IsGen ga G₀.size ∧ Ready w own ga G₀.size r 0 s ∧ LoopAt g₀ L G₀ os₀ own m led s ∧ J r 0 m led

theorem gen_for {A : Around} {E : Value → Shared → Prop} {env : Env} {a b : Str} {pa pb pos fp : Pos} {k : Nat} {iter : Expr} {body : List Stmt} {Q : Flow → Shared → Prop} (J : List Str → Nat → (Str → Option Value) → List (Addr × Obj) → Prop)
    (hL : env.locals = L) (ka : env.kindOf a = some .local) (kb : env.kindOf b = some .local) (hp : (env.scope.kind == .class || (env.scope.kind == .module && env.locals != env.globals)) = false)
    (hl : g₀.NoLimit) (hA : A.handled = none) (hd : A.depth < recursionLimit)
    (start : wpAny (model prg w) A (eval iter env) (GStart w g₀ L G₀ os₀ J) E s)
    (turn : ∀ u r i m led on s (E' : Value → Shared → Prop) p tp tu, J (u :: r) i m led → p = ((i + u.length : Nat) : Int) - 1 → Fr g₀ L s.heap (up (up m a (.int p tp)) b (.str u tu)) → News g₀ L s.heap (led ++ on) → (∀ q ∈ on, q.1 ∉ led.map (·.1)) →
      wpAny (model prg w) A (execs body env) (GEnd g₀ L J r (i + u.length) led on s) E' s)
    (over : ∀ i m led s, J [] i m led → Fr g₀ L s.heap m → News g₀ L s.heap led → s.gens = G₀.push .finished → s.os = os₀ → Q .next s)
    (hs : ∀ x, foldedSetIterable iter env x = pure x := by intro _; rfl) :
    wpAny (model prg w) A (exec (.For (.Tuple [.Name a pa, .Name b pb] k pos) iter body [] fp) env) Q E s := by
  subst hL
  refine wpAny_For (wpAny_mono start (fun v s₁ h₁ => ?_) fun _ _ x => x) hs
  obtain ⟨ga, own, r, m, led, rfl, hg, Y, Z, j⟩ := h₁
  refine wpAny_pyIter_gen hg ?_
  refine codeAny_forLoop_any (fun n s => ∃ own r i m led, r.length = n ∧ Ready w own ga G₀.size r i s ∧ LoopAt g₀ env.locals G₀ os₀ own m led s ∧ J r i m led) (fun n s hI => ?_) r.length ⟨own, r, 0, m, led, rfl, Y, Z, j⟩
  clear Y Z j hg
  obtain ⟨own, r, i, m, led, hn, Y, Z, j⟩ := hI
  cases r with
  | nil =>
    refine gen_end Y Z hA hd fun s' F' N' hg' ho' => ?_
    exact wpAny_execs_nil (over i m led s' j F' N' hg' ho')
  | cons u r =>
    refine gen_draw Y Z hl hA hd fun own' on b' p tp tu s' hp' hg hb F' N' hdis hr => ?_
    refine letGo_gen hg ?_
    refine assign_pair hA ⟨_, hb, rfl, _, rfl⟩ F'.ns ka kb hp fun s2 hn2 R2 => ?_
    refine wpAny_mono (turn u r i m led on s2 _ p tp tu j hp' (Fr.rel0 F' R2 hn2) (News.rel0 N' R2) hdis) (fun f s3 h3 => ?_) fun _ _ x => x
    have key : (∃ m' led', J r (i + u.length) m' led' ∧ led'.map (·.1) = led.map (·.1) ∧ Fr g₀ env.locals s3.heap m' ∧ News g₀ env.locals s3.heap (led' ++ on) ∧ s3.gens = s2.gens ∧ s3.os = s2.os) →
        ∃ m_1, m_1 < n ∧ ∃ own r i m led, r.length = m_1 ∧ Ready w own ga G₀.size r i s3 ∧ LoopAt g₀ env.locals G₀ os₀ own m led s3 ∧ J r i m led := by
      rintro ⟨m', led', j', hl', F3, N3, hg3, ho3⟩
      obtain ⟨Y', Z'⟩ := hr s3 m' led' hl' F3 N3 (hg3.trans R2.gens) (ho3.trans R2.os)
      exact ⟨r.length, by rw [← hn]; exact Nat.lt_succ_self _, own', r, _, m', led', rfl, Y', Z', j'⟩
    cases f with
    | next => exact key h3
    | cont => exact key h3
    | brk => exact h3.elim
    | ret v => exact h3.elim
end

end
open PySem PySem.W PySem.W.X PyProof.Rows PySem.Calls
local macro_rules | `(tactic| k_all) => `(tactic| (refine List.forall_mem_cons.mpr ⟨?_, ?_⟩; (· k_ne); (· k_all)))
local macro_rules | `(tactic| k_all) => `(tactic| assumption)
section
open PySem PySem.W PySem.W.X PyProof.Rows PySem.Calls PySem.StrLaws PySem.Builtin PySem.Builtin.Str
set_option maxRecDepth 100000
theorem up_same {m : Str → Option Value} {k : Str} {v : Value} (h : m k = some v) : (fun y => if y = k then some v else m y) = m := by
  funext y
  by_cases q : y = k
  · rw [if_pos q, q, h]
  · rw [if_neg q]
def qt : Str := ⟨#[34]⟩
theorem qt_str : Str.ofString "\"" = qt := by decide +kernel
/-- outside the quotes' text -/
def outs : Bool → List Str → List Str
  | _, [] => []
  | false, u :: r => if u = qt then outs true r else u :: outs false r
  | true, u :: r => if u = qt then outs false r else outs true r
def bal : Bool → List Str → Bool
  | b, [] => !b
  | b, u :: r => if u = qt then bal (!b) r else bal b r
def seg (x : Str) (a b : Nat) : List Nat := (x.cps.toList.drop a).take (b - a)
structure SJ (x : Str) (r r₂ : List Str) (i st : Nat) (op : Option Nat) (ps : List Str) : Prop where
  hx : x.cps.toList.drop i = flat r₂
  hi : i ≤ x.cps.size
  hl : ps.length ≤ i
  hs : st ≤ i
  hb : bal op.isSome r₂ = true
  ho : ∀ p, op = some p → st ≤ p ∧ p ≤ i
  out : flat ps ++ seg x st (op.getD i) ++ flat (outs op.isSome r₂) = flat (outs false r)
theorem seg_split {x : Str} {a b c : Nat} (h1 : a ≤ b) (h2 : b ≤ c) : seg x a c = seg x a b ++ (x.cps.toList.drop b).take (c - b) := by
  unfold seg
  have e : c - a = (b - a) + (c - b) := by omega
  rw [e, List.take_add, List.drop_drop, show a + (b - a) = b by omega]
theorem seg_self {x : Str} {a : Nat} : seg x a a = [] := by unfold seg; simp
theorem len_cps (u : Str) : u.cps.toList.length = u.length := by simp [Str.length]
theorem flat_len {x : Str} {i : Nat} {u : Str} {r : List Str} (hi : i ≤ x.cps.size) (hx : x.cps.toList.drop i = flat (u :: r)) : i + u.length ≤ x.cps.size := by
  have := congrArg List.length hx
  rw [flat_cons, List.length_append, len_cps, List.length_drop, Array.length_toList] at this
  omega
theorem drop_flat {x : Str} {i : Nat} {u : Str} {r : List Str} (hx : x.cps.toList.drop i = flat (u :: r)) : x.cps.toList.drop (i + u.length) = flat r := by
  rw [← List.drop_drop, hx, flat_cons, ← len_cps, List.drop_left]
theorem take_flat {x : Str} {i : Nat} {u : Str} {r : List Str} (hx : x.cps.toList.drop i = flat (u :: r)) : (x.cps.toList.drop i).take (i + u.length - i) = u.cps.toList := by
  rw [hx, flat_cons, Nat.add_sub_cancel_left, ← len_cps, List.take_left]
section
variable {x : Str} {r r₂ : List Str} {i st p : Nat} {ps : List Str} {u : Str}
theorem SJ.open_ (J : SJ x r (qt :: r₂) i st none ps) : SJ x r r₂ (i + 1) st (some i) ps where
  hx := drop_flat (u := qt) J.hx
  hi := flat_len (u := qt) J.hi J.hx
  hl := Nat.le_succ_of_le J.hl
  hs := Nat.le_succ_of_le J.hs
  hb := by have := J.hb; simpa [bal] using this
  ho := fun p q => by cases q; exact ⟨J.hs, Nat.le_succ _⟩
  out := by have := J.out; simpa [outs] using this
theorem SJ.plain (J : SJ x r (u :: r₂) i st none ps) (hu : u ≠ qt) : SJ x r r₂ (i + u.length) st none ps where
  hx := drop_flat J.hx
  hi := flat_len J.hi J.hx
  hl := Nat.le_trans J.hl (Nat.le_add_right _ _)
  hs := Nat.le_trans J.hs (Nat.le_add_right _ _)
  hb := by have := J.hb; simpa [bal, hu] using this
  ho := fun p q => nomatch q
  out := by
    have := J.out
    simp only [Option.getD_none, Option.isSome_none, outs, hu, if_false, flat_cons] at this ⊢
    rw [seg_split J.hs (Nat.le_add_right i u.length), take_flat J.hx, ← this]
    simp
theorem SJ.in_ (J : SJ x r (u :: r₂) i st (some p) ps) (hu : u ≠ qt) : SJ x r r₂ (i + u.length) st (some p) ps where
  hx := drop_flat J.hx
  hi := flat_len J.hi J.hx
  hl := Nat.le_trans J.hl (Nat.le_add_right _ _)
  hs := Nat.le_trans J.hs (Nat.le_add_right _ _)
  hb := by have := J.hb; simpa [bal, hu] using this
  ho := fun q e => ⟨(J.ho q e).1, Nat.le_trans (J.ho q e).2 (Nat.le_add_right _ _)⟩
  out := by have := J.out; simpa [outs, hu] using this
theorem slice_cps {a b : Nat} (hab : a ≤ b) (hb : b ≤ x.length) : (PySem.Txt.slice x (some (a : Int)) (some (b : Int))).cps.toList = seg x a b := by
  unfold PySem.Txt.slice seg
  split
  · rename_i h
    rw [strSliceIndices_plain hab hb] at h
    simp at h
    have e1 : a = 0 := by omega
    have e2 : b = x.length := by omega
    subst e1 e2
    rw [List.drop_zero, Nat.sub_zero, Str.length, ← Array.length_toList, List.take_length]
  · rw [sliced_plain x hab hb]
theorem SJ.close (J : SJ x r (qt :: r₂) i st (some p) ps) : SJ x r r₂ (i + 1) (i + 1) none (ps ++ [PySem.Txt.slice x (some (st : Int)) (some (p : Int))]) where
  hx := drop_flat (u := qt) J.hx
  hi := flat_len (u := qt) J.hi J.hx
  hl := by rw [List.length_append]; exact Nat.succ_le_succ J.hl
  hs := Nat.le_refl _
  hb := by have := J.hb; simpa [bal] using this
  ho := fun p q => nomatch q
  out := by
    have h1 := (J.ho p rfl).1
    have h2 := (J.ho p rfl).2
    have := J.out
    rw [flat_append]
    simp only [Option.getD_some, Option.isSome_some, outs, if_true, Option.getD_none, Option.isSome_none] at this ⊢
    rw [seg_self, show flat [PySem.Txt.slice x (some (st : Int)) (some (p : Int))] = seg x st p by simp [flat, slice_cps h1 (Nat.le_trans h2 J.hi)], ← this]
    simp
theorem SJ.close0 (J : SJ x r (qt :: r₂) i st (some p) ps) (h : st = p) : SJ x r r₂ (i + 1) (i + 1) none ps where
  hx := drop_flat (u := qt) J.hx
  hi := flat_len (u := qt) J.hi J.hx
  hl := Nat.le_succ_of_le J.hl
  hs := Nat.le_refl _
  hb := by have := J.hb; simpa [bal] using this
  ho := fun p q => nomatch q
  out := by
    have := J.out
    subst h
    simp only [Option.getD_some, Option.isSome_some, outs, if_true, Option.getD_none, Option.isSome_none] at this ⊢
    rw [seg_self] at this ⊢
    exact this
end
theorem join_cat (l : List Str) : (Txt.join (Str.ofString "") l).cps.toList = flat l := by
  rw [eq_of_beq (join_plain_closes _ l), show Str.ofString "" = ⟨#[]⟩ by decide +kernel]
  induction l with
  | nil => rfl
  | cons y r ih =>
    rw [join_nil_cons, flat_cons, ← ih]
    show (y.cps ++ (Str.join ⟨#[]⟩ r).cps).toList = _
    rw [Array.toList_append]
theorem outs_le : ∀ (r : List Str) (b : Bool), (flat (outs b r)).length ≤ (flat r).length
  | [], b => by cases b <;> exact Nat.le_refl _
  | u :: r, b => by
    have h1 := outs_le r true
    have h2 := outs_le r false
    rw [flat_cons, List.length_append]
    cases b <;> simp only [outs] <;> split
    · omega
    · rw [flat_cons, List.length_append]; omega
    · omega
    · omega
theorem strs_are : ∀ ps : List (Str × Tok), StrsAre (ps.map fun p => Value.str p.1 p.2) (ps.map (·.1))
  | [] => .nil
  | _ :: r => .cons _ _ (strs_are r)
theorem strs_append {vs : List Value} {ys : List Str} {y : Str} {t : Tok} (h : StrsAre vs ys) : StrsAre (vs ++ [.str y t]) (ys ++ [y]) := by
  induction h with
  | nil => exact .cons _ _ .nil
  | cons z u _ ih => exact .cons _ _ ih
theorem no_qt {x : Str} {r : List Str} (hx : x.cps.toList = flat r) (h : (occurrences x (Str.ofString "\"") 0 x.length 1).isEmpty = true) : flat (outs false r) = flat r := by
  have h1 := found_one x 34
  rw [show (⟨#[34]⟩ : Str) = Str.ofString "\"" by decide +kernel, h] at h1
  have h2 : 34 ∉ flat r := by rw [← hx]; simpa using h1
  clear h1 h hx
  induction r with
  | nil => rfl
  | cons u r ih =>
    rw [flat_cons] at h2
    have hu : u ≠ qt := by
      rintro rfl
      exact h2 (List.mem_append_left _ (by decide +kernel))
    rw [outs, if_neg hu, flat_cons, flat_cons, ih fun h => h2 (List.mem_append_right _ h)]
theorem flat_sum : ∀ ys : List Str, (ys.map (·.length)).sum = (flat ys).length
  | [] => rfl
  | y :: r => by rw [flat_cons, List.length_append, List.map_cons, List.sum_cons, flat_sum r, len_cps]
theorem slice_end {x : Str} {a : Nat} (ha : a ≤ x.length) : (PySem.Txt.slice x (some (a : Int)) none).cps.toList = seg x a x.length := by
  rw [← slice_cps ha (Nat.le_refl _)]
  have e : strSliceIndices (some (a : Int)) none 1 x.length = strSliceIndices (some (a : Int)) (some (x.length : Int)) 1 x.length := by
    have h2 : ¬ ((x.length : Int) < 0) := by omega
    have e2 : max (0 : Int) (min (x.length : Int) (x.length : Int)) = x.length := by omega
    simp only [strSliceIndices, sliceRange, h2, if_false, e2, show ((1 : Int) > 0) = True from by simp, if_true]
  unfold PySem.Txt.slice
  rw [e]
def opV (op : Option Nat) (t : Tok) : Value := match op with | none => .none | some p => .int p t

theorem push_list {R : Addr} {news : List (Addr × Obj)} {ps : List (Str × Tok)} {y : Str} {ty : Tok} {n : Nat} :
    (R, W.listOf ((ps.map fun p => Value.str p.1 p.2).toArray.push (.str y ty)) n) :: news = (R, W.listOf ((ps ++ [(y, ty)]).map fun p => Value.str p.1 p.2).toArray n) :: news := by simp
theorem push_map {ps : List (Str × Tok)} {y : Str} {ty : Tok} : ps.map (·.1) ++ [y] = (ps ++ [(y, ty)]).map (·.1) := by simp
def SInv (x : Str) (t : Tok) (r : List Str) (R : Addr) (news : List (Addr × Obj)) : List Str → Nat → (Str → Option Value) → List (Addr × Obj) → Prop := fun r₂ i m led =>
  ∃ (st : Nat) (ts : Tok) (op : Option Nat) (tp : Tok) (ps : List (Str × Tok)) (n : Nat), led = (R, W.listOf (ps.map fun p => Value.str p.1 p.2).toArray n) :: news ∧ SJ x r r₂ i st op (ps.map (·.1)) ∧ m (Str.ofString "result") = some (.ref R) ∧
    m (Str.ofString "addr") = some (.str x t) ∧ m (Str.ofString "start") = some (.int st ts) ∧ m (Str.ofString "open_pos") = some (opV op tp)

set_option maxHeartbeats 8000000 in
theorem strip_spec' : Fill → ∀ {w : World} {A₀ : Around} {base h₀ : Heap} {outer : List Env} {L : Addr} {m : Str → Option Value} {news : List (Addr × Obj)} {s : Shared}
    {dp un : Nat} {gd : Option (List Code)} {cn : Str} {nm : List (Str × NameKind)} {ig ic : Bool} {mr : List (Str × Const)} {a : Addr} {ccd : Value} {cl : List (Str × Addr)} {Q E : Value → Shared → Prop}
    (_ : Cx w A₀ base outer h₀ L m news s) (_ : dp ≤ 960) (_ : un ≤ 9300) (x : Str) (t : Tok) (r : List Str) (_ : ∀ u ∈ r, IsTok u) (_ : x.cps.toList = flat r) (_ : bal false r = true) (_ : x.length ≤ 4096)
    (_ : ∀ y ty s', y.cps.toList = flat (outs false r) → Went s s' → Fr h₀ L s'.heap m → News h₀ L s'.heap news → Q (.str y ty) s'),
    wpAny (model prg w) (ktrTop dp un gd cn (fS nm ig ic mr) L a ccd cl outer) (call (.ref 35) [.str x t]) Q E s := by
  unfold Fill
  k_fill
  intro _ w A₀ base h₀ outer L m news s dp un gd cn nm ig ic mr a ccd cl Q E C hdp hun x t r hr hx hb hxl hQ
  have hq1 := Held.mk "exec For Tuple Call cons nil"
  obtain ⟨B, F, X, N, _, _, _, _, T⟩ := C
  refine room hdp hun ?_
  k_steps
  · refine hQ _ _ _ ?_ (Went.refl.go rfl rfl) (by k_asm) (by k_asm)
    rw [no_qt hx (by assumption), hx]
  rename_i g' L' _ FG' B' X' T' _ hin _ _ _ R _ l1 h' F' N'
  refine Hold.mk (gen_for (g₀ := g') (L := L') (G₀ := s.gens) (os₀ := s.os) (SInv x t r R news) rfl rfl rfl rfl T'.nolimit rfl (by k_room) ?_ ?_ ?_)
  · k_steps
    refine iter_spec' (dp := 961) (un := 9303) (s := ⟨h', s.gens, s.drawn, _, s.os⟩) fill ⟨B', F', X', N', _, _, _, _, T'⟩ (by decide) (by decide) x t r hr hx ?_
    intro b Lg gc s2 hb0 hLg0 hne hthere hkeep hos hgens hgen hready
    have F2 : Fr g' L' s2.heap _ := ⟨F'.ns.at' fun o q => hkeep _ o q, fun b o q => hkeep b o (F'.keep b o q), F'.above⟩
    have N2 : News g' L' s2.heap ((R, W.listOf #[] 0) :: news) := fun p hp => ⟨hkeep _ _ (N' p hp).1, (N' p hp).2⟩
    refine ⟨b, [b, Lg], r, _, _, rfl, hgen, hready s2 ⟨fun _ _ _ q => q, rfl, T'.nolimit.keeps F2.keep⟩ F2.keep, ⟨F2, N2, ⟨_, hgens⟩, hos, ?_⟩, 0, _, none, 0, [], 0, rfl, ?_, rfl, rfl, rfl, rfl⟩
    · have key : ∀ y, h'.get? y = none → g'.get? y = none ∧ y ≠ L' ∧ y ∉ ((R, W.listOf #[] 0) :: news).map (·.1) := fun y hy => by
        refine ⟨?_, ?_, ?_⟩
        · cases z : g'.get? y with
          | none => rfl
          | some o => rw [F'.keep y o z] at hy; cases hy
        · rintro rfl
          obtain ⟨o, _, _, z, _⟩ := F'.ns
          rw [z] at hy; cases hy
        · intro z
          obtain ⟨p, hp, rfl⟩ := List.mem_map.mp z
          rw [(N' p hp).1] at hy; cases hy
      intro y hy
      rcases List.mem_cons.mp hy with rfl | hy
      · exact key _ hb0
      · rw [List.mem_singleton.mp hy]; exact key _ hLg0
    · exact ⟨by simpa using hx, Nat.zero_le _, Nat.zero_le _, Nat.le_refl _, hb, (fun p q => nomatch q), rfl⟩
  · rintro u r₂ i m2 led on s2 E' p tp tu ⟨st, ts, op, tq, ps, n, rfl, J, e1, e2, e3, e4⟩ hp F2 N2 hdis
    rw [List.cons_append] at N2
    have hR : ∀ p ∈ news ++ on, p.1 ≠ R := fun p hp => (List.mem_append.mp hp).elim (fun h => Nat.ne_of_lt (l1 p h)) (fun h q => hdis p h (by simp [q]))
    rw [← up_same e1, ← up_same e2] at F2
    rw [← up_same e3] at F2
    rw [← up_same e4] at F2
    clear F' N'
    have hxl2 : x.length ≤ sizeLine := Nat.le_trans hxl (by decide)
    have hpl : ps.length ≤ 4096 := by have h1 := J.hl; have h2 := J.hi; rw [List.length_map] at h1; exact Nat.le_trans h1 (Nat.le_trans h2 hxl)
    cases op with
    | none =>
      dsimp only [opV] at F2
      k_steps
      · have hu : u = qt := qt_str ▸ eq_of_beq (by assumption)
        subst hu
        have hp' : p = ((i : Nat) : Int) := by rw [hp]; show ((i + 1 : Nat) : Int) - 1 = _; omega
        subst hp'
        exact ⟨_, _, ⟨st, _, some i, _, ps, _, rfl, J.open_, rfl, rfl, rfl, rfl⟩, rfl, ‹_›, ‹_›, rfl, rfl⟩
      · have hu : u ≠ qt := ne_of_beq_false (qt_str ▸ (by assumption : (u == Str.ofString "\"") = false))
        exact ⟨_, _, ⟨st, _, none, 0, ps, _, rfl, J.plain hu, rfl, rfl, rfl, rfl⟩, rfl, ‹_›, ‹_›, rfl, rfl⟩
    | some p' =>
      dsimp only [opV] at F2
      k_steps
      · have hu : u = qt := qt_str ▸ eq_of_beq (by assumption)
        subst hu
        have hp' : p + 1 = ((i + 1 : Nat) : Int) := by rw [hp]; show ((i + 1 : Nat) : Int) - 1 + 1 = _; omega
        refine' ⟨_, (R, _) :: news, ?J, ?map, ?F, ?N, rfl, rfl⟩
        case F => assumption
        case N => assumption
        case map => rfl
        case J => exact ⟨i + 1, _, none, 0, ps ++ [(_, _)], _, push_list, push_map ▸ J.close, rfl, rfl, congrArg (fun z => some (Value.int z _)) hp', rfl⟩
      · have hu : u = qt := qt_str ▸ eq_of_beq (by assumption)
        subst hu
        have hp' : p + 1 = ((i + 1 : Nat) : Int) := by rw [hp]; show ((i + 1 : Nat) : Int) - 1 + 1 = _; omega
        refine' ⟨_, (R, _) :: news, ?J, ?map, ?F, ?N, rfl, rfl⟩
        case F => assumption
        case N => assumption
        case map => rfl
        case J => exact ⟨i + 1, _, none, 0, ps, _, rfl, J.close0 (by omega), rfl, rfl, congrArg (fun z => some (Value.int z _)) hp', rfl⟩
      · have hu : u ≠ qt := ne_of_beq_false (qt_str ▸ (by assumption : (u == Str.ofString "\"") = false))
        exact ⟨_, _, ⟨st, _, some p', _, ps, _, rfl, J.in_ hu, rfl, rfl, rfl, rfl⟩, rfl, ‹_›, ‹_›, rfl, rfl⟩
  · rintro i m2 led s2 ⟨st, ts, op, tq, ps, n, rfl, J, e1, e2, e3, e4⟩ F2 N2 hg ho
    rw [← up_same e1, ← up_same e2] at F2
    rw [← up_same e3] at F2
    have hxl2 : x.length ≤ sizeLine := Nat.le_trans hxl (by decide)
    have hpl : ps.length ≤ 4096 := by have h1 := J.hl; have h2 := J.hi; rw [List.length_map] at h1; exact Nat.le_trans h1 (Nat.le_trans h2 hxl)
    have hR : ∀ p ∈ news, p.1 ≠ R := fun p h => Nat.ne_of_lt (l1 p h)
    clear F' N'
    have hend : i = x.length := by
      have := congrArg List.length J.hx
      rw [List.length_drop, Array.length_toList] at this
      have h2 := J.hi
      simp only [flat, List.flatMap_nil, List.length_nil] at this
      show i = x.cps.size
      omega
    have hop : op = none := by
      have := J.hb
      cases op with
      | none => rfl
      | some p => exact nomatch this
    subst hop hend
    have hout := J.out
    simp only [Option.getD_none, Option.isSome_none, outs, show flat [] = [] from rfl, List.append_nil] at hout
    have hlen : (flat (outs false r)).length ≤ x.length := by
      have := outs_le r false
      rw [← hx, Array.length_toList] at this
      exact this
    have hW : Went s s2 := Went.one ho hg rfl
    k_steps
    · refine join_list (ys := (ps.map (·.1)) ++ [Txt.slice x (some ↑st) none]) ⟨_, (‹News g' L' _ _› (R, _) (.head _)).1, rfl, _, rfl⟩ ?_ ?_ ?_
      · rw [Array.toList_push, List.toList_toArray]
        exact (strs_append (strs_are ps))
      · rw [flat_sum, flat_append, show flat [Txt.slice x (some ↑st) none] = seg x st x.length by simp [flat, slice_end J.hs], hout]
        have : (Str.ofString "").length = 0 := by decide +kernel
        rw [this, Nat.mul_zero]; omega
      · intro t' k
        k_steps
        refine hQ _ _ _ ?_ (hW.go rfl rfl) (by k_asm) (News.right (a := [_]) (by k_asm))
        rw [join_cat, flat_append, show flat [Txt.slice x (some ↑st) none] = seg x st x.length by simp [flat, slice_end J.hs], hout]
    · refine join_list (ys := ps.map (·.1)) ⟨_, (N2 (R, _) (.head _)).1, rfl, _, rfl⟩ (strs_are _) ?_ ?_
      · have : (Str.ofString "").length = 0 := by decide +kernel
        rw [flat_sum, this, Nat.mul_zero]
        have := congrArg List.length hout
        rw [List.length_append] at this
        omega
      · intro t' k
        k_steps
        refine hQ _ _ _ ?_ (hW.go rfl rfl) (by k_asm) (News.right (a := [_]) (by k_asm))
        have hst : st = x.length := by have := J.hs; omega
        rw [join_cat, ← hout, hst, seg_self, List.append_nil]

end
section
open PySem PySem.W PySem.W.X PyProof.Rows PySem.Calls
set_option maxRecDepth 100000
abbrev vals (us : List (Str × Tok)) : Array Value := (us.map fun p => Value.str p.1 p.2).toArray
section
variable {w : World} {g₀ : Heap} {L : Addr} {G₀ : Array GenState} {os₀ : OsState} {m : Str → Option Value} {led : List (Addr × Obj)} {s : Shared}
theorem size_vals (us : List (Str × Tok)) : (vals us).size = us.length := by simp
theorem ns_obj {h : Heap} {C : Addr} {m : Str → Option Value} (x : h.Ns C m) : ∃ oC, h.get? C = some oC ∧ ∀ h' : Heap, h'.get? C = some oC → h'.Ns C m := by
  obtain ⟨o, es, ep, ho, r⟩ := x
  exact ⟨o, ho, fun h' e => ⟨o, es, ep, e, r⟩⟩

def CStart (w : World) (g₀ : Heap) (L : Addr) (G₀ : Array GenState) (os₀ : OsState) (m : Str → Option Value) (led : List (Addr × Obj)) (A : Around) (env : Env) (x : Str) (elt tst : Expr) (scope : Scope) (cl : List (Str × Addr)) (Q : Value → Shared → Prop) (v : Value) (s₁ : Shared) : Prop :=
  ∃ ga own r, v = .ref ga ∧ s₁.heap.IsGen ga G₀.size ∧ r.length ≤ 4096 ∧ LoopAt g₀ L G₀ os₀ own m led s₁ ∧ (∀ y ∈ own, ∃ o, s₁.heap.get? y = some o) ∧
      (∀ s'', Later own G₀.size s₁ s'' → (∀ b o, g₀.get? b = some o → s''.heap.get? b = some o) → Ready w own ga G₀.size r 0 s'') ∧
      (∀ i r₁ u r₂, r = r₁ ++ u :: r₂ → i = (flat r₁).length → ∀ C b p tp tu s₃ m₃ (E' : Value → Shared → Prop), p = ((i + u.length : Nat) : Int) - 1 → Fr g₀ L s₃.heap m → News g₀ L s₃.heap led → s₃.heap.Ns C m₃ → m₃ x = some (.ref b) → s₃.heap.get? b = some (pairObj p tp u tu) →
        wpAny (model prg w) A (isTrue tst (compEnvC scope cl C env) (eval tst (compEnvC scope cl C env))) (fun ok s₄ => ok = true ∧ Keeps s₃ s₄) E' s₃) ∧
      (∀ C b p tp u tu s₃ m₃ (E' : Value → Shared → Prop), Fr g₀ L s₃.heap m → News g₀ L s₃.heap led → s₃.heap.Ns C m₃ → m₃ x = some (.ref b) → s₃.heap.get? b = some (pairObj p tp u tu) →
        wpAny (model prg w) A (eval elt (compEnvC scope cl C env)) (fun y s₄ => (∃ ty, y = .str u ty) ∧ Keeps s₃ s₄) E' s₃) ∧
      (∀ D ks nD s', ks.map (·.1) = r → (∀ p ∈ led, p.1 < D) → Fr g₀ L s'.heap m → News g₀ L s'.heap ((D, W.listOf (vals ks) nD) :: led) → s'.gens = G₀.push .finished → s'.os = os₀ → Q (.ref D) s')

theorem gen_comp {A : Around} {E : Value → Shared → Prop} {env : Env} {x : Str} {px pos : Pos} {elt iter tst : Expr} {scope : Scope} {cl : List (Str × Addr)} {Q : Value → Shared → Prop}
    (hclos : closureFor scope env = pure cl) (hcell : ∀ y ∈ scope.names, y.2 ≠ .cell) (hkind : scope.kind = .function)
    (hnames : ∀ y ∈ scope.names, y.2 = .local → scope.names.lookup y.1 = some .local) (hx : scope.names.lookup x = some .local)
    (hl : g₀.NoLimit) (hA : A.handled = none) (hd : A.depth < recursionLimit)
    (start : wpAny (model prg w) A (eval iter env) (CStart w g₀ L G₀ os₀ m led A env x elt tst scope cl Q) E s)
    (hs : ∀ x, foldedSetIterable iter env x = pure x := by intro _; rfl) :
    wpAny (model prg w) A (eval (.ListComp elt [⟨.Name x px, iter, [tst], 0⟩] scope pos) env) Q E s := by
  rw [eval_ListComp]
  refine wpAny_comprehension_free (use := none) rfl hs hclos hkind hnames (wpAny_mono start (fun xv s₁ h₁ => ?_) fun _ _ e => e)
  obtain ⟨ga, own, r, rfl, hg, hr, Z, hown, hready, htest, helt, hQ⟩ := h₁
  refine wpAny_pyIter_gen hg ?_
  refine wpAny_newObj_type (wpAny_newFunctionEnv hcell (by intro y hy; simp at hy) (fun h₁ hns₁ hsb₁ => ?_) hkind)
  dsimp only at hns₁ hsb₁ ⊢
  generalize hH2 : s₁.heap.push { cls := .type "list", dict := none, data := .seq ([] : List Value).toArray } = H2 at hns₁ hsb₁ ⊢
  have hC : H2.objs.size = s₁.heap.objs.size + 1 := by rw [← hH2, Heap.size_push]
  have hDC : s₁.heap.objs.size ≠ H2.objs.size := by rw [hC]; exact Nat.ne_of_lt (Nat.lt_succ_self _)
  have below : ∀ b, b < s₁.heap.objs.size → b ≠ H2.objs.size ∧ b ≠ s₁.heap.objs.size := fun b hb => ⟨by rw [hC]; exact Nat.ne_of_lt (Nat.lt_succ_of_lt hb), Nat.ne_of_lt hb⟩
  have old : ∀ b o, s₁.heap.get? b = some o → h₁.get? b = some o := fun b o e => hsb₁.extBut b o (below b (Heap.lt_size e)).1 (Heap.get?_push_of_some _ (hH2 ▸ Heap.get?_push_of_some _ e))
  have hacc : h₁.get? s₁.heap.objs.size = some (W.listOf #[] 0) := hsb₁.extBut _ _ hDC (Heap.get?_push_of_some _ (hH2 ▸ Heap.get?_push_size _ rfl))
  have fresh : ∀ a, s₁.heap.objs.size ≤ a → s₁.heap.get? a = none := fun a ha => by
    cases e : s₁.heap.get? a with
    | none => rfl
    | some o' => exact absurd (Heap.lt_size e) (Nat.not_lt.mpr ha)
  have hCn : s₁.heap.get? H2.objs.size = none := fresh _ (by rw [hC]; exact Nat.le_succ _)
  have hDn : s₁.heap.get? s₁.heap.objs.size = none := fresh _ (Nat.le_refl _)
  generalize hDd : s₁.heap.objs.size = D at *
  generalize hCc : H2.objs.size = C at *
  have lD : ∀ p ∈ led, p.1 < D := fun p hp => hDd ▸ Heap.lt_size (Z.N p hp).1
  have gn : ∀ a, s₁.heap.get? a = none → g₀.get? a = none := fun a ha => by
    cases e : g₀.get? a with
    | none => rfl
    | some o => rw [Z.F.keep a o e] at ha; cases ha
  have nL : ∀ a, s₁.heap.get? a = none → a ≠ L := fun a ha e => by
    obtain ⟨o, _, _, q, _⟩ := Z.F.ns
    rw [e, q] at ha; cases ha
  obtain ⟨oC, hoC, hnsC⟩ := ns_obj hns₁
  have F₁ : Fr g₀ L h₁ m := ⟨Z.F.ns.at' fun o q => old _ o q, fun b o q => old b o (Z.F.keep b o q), Z.F.above⟩
  have N₁ : News g₀ L h₁ ((D, W.listOf #[] 0) :: (C, oC) :: led) := fun p hp => by
    rcases List.mem_cons.mp hp with rfl | hp
    · exact ⟨hacc, nL _ hDn, gn _ hDn⟩
    · rcases List.mem_cons.mp hp with rfl | hp
      · exact ⟨hoC, nL _ hCn, gn _ hCn⟩
      · exact ⟨old _ _ (Z.N p hp).1, (Z.N p hp).2⟩
  have lednC : ∀ p ∈ led, p.1 ≠ C ∧ p.1 ≠ D := fun p hp => ⟨fun q => (by rw [← q, (Z.N p hp).1] at hCn; exact nomatch hCn), Nat.ne_of_lt (lD p hp)⟩
  have loop : ∀ s₃ : Shared, s₃ = { s₁ with heap := h₁, toks := s₁.toks + ([] : List (Str × Value)).length } →
      codeAny (model prg w) A (.compLoop (.ListComp elt [⟨.Name x px, iter, [tst], 0⟩] scope pos) 0 (.ref ga) (.ref D) (compEnvC scope cl C env))
        (compPost (model prg w) A E none Q (.ref D) C) s₃ := by
    rintro s₃ rfl
    refine codeAny_compLoop_tests (fun n s => ∃ own r₁ r₂ ks nD oC m', r₂.length = n ∧ r = r₁ ++ r₂ ∧ ks.map (·.1) = r₁ ∧ Ready w own ga G₀.size r₂ (flat r₁).length s ∧
      LoopAt g₀ L G₀ os₀ own m ((D, W.listOf (vals ks) nD) :: (C, oC) :: led) s ∧ s.heap.Ns C m') (fun n s hI => ?_) r.length
      ⟨own, [], r, [], 0, oC, _, rfl, rfl, rfl, hready _ ⟨fun c hc o q => old c o q, rfl, hl.keeps F₁.keep⟩ F₁.keep, ⟨F₁, N₁, Z.G, Z.O, fun y hy => ⟨(Z.D y hy).1, (Z.D y hy).2.1, ?_⟩⟩, hns₁⟩ 
    · clear Z
      obtain ⟨own, r₁, r₂, ks, nD, oC, m', hn, hr12, hks, Y, Z, hns⟩ := hI
      cases r₂ with
      | nil =>
        refine gen_end Y Z hA hd fun s' F' N' hg' ho' => ?_
        refine ⟨m', ?_, fun h' hs' => ?_⟩
        · obtain ⟨o, es, ep, q, z⟩ := hns
          have := (Z.N (C, oC) (.tail _ (.head _))).1
          rw [q] at this; cases this
          exact ⟨_, es, ep, (N' (C, _) (.tail _ (.head _))).1, z⟩
        · have kL : L ≠ C := fun q => (N' (C, oC) (.tail _ (.head _))).2.1 q.symm
          refine hQ D ks nD _ (by rw [hks, hr12]; simp) lD ⟨F'.ns.sameBut hs' kL, fun b o q => hs'.extBut b o (fun z => by rw [z, (N' (C, oC) (.tail _ (.head _))).2.2] at q; cases q) (F'.keep b o q), F'.above⟩ (fun p hp => ?_) hg' ho'
          rcases List.mem_cons.mp hp with rfl | hp
          · exact ⟨hs'.extBut _ _ hDC (N' _ (.head _)).1, (N' _ (.head _)).2⟩
          · exact ⟨hs'.extBut _ _ (lednC p hp).1 (N' p (.tail _ (.tail _ hp))).1, (N' p (.tail _ (.tail _ hp))).2⟩
      | cons u r₂ =>
        refine gen_draw Y Z hl hA hd fun own' on b p tp tu s' hp' hg' hb F' N' hdis hr' => ?_
        have NC := (N' (C, oC) (.tail _ (.head _)))
        have ND := (N' (D, _) (.head _))
        have hbC : b ≠ C := by
          rintro rfl
          obtain ⟨o, es, ep, q, z, _⟩ := hns
          have h1 := (Z.N (b, oC) (.tail _ (.head _))).1
          rw [q] at h1; cases h1
          rw [NC.1] at hb; cases hb; cases z
        have hbD : b ≠ D := by
          rintro rfl
          have q := congrArg Obj.cls (Option.some.inj (ND.1.symm.trans hb))
          injection q with q
          exact absurd q (by decide)
        have hns' : s'.heap.Ns C m' := by
          obtain ⟨o, es, ep, q, z⟩ := hns
          have h1 := (Z.N (C, oC) (.tail _ (.head _))).1
          rw [q] at h1; cases h1
          exact ⟨_, es, ep, NC.1, z⟩
        have kL : L ≠ C := fun q => NC.2.1 q.symm
        have kg : ∀ b o, g₀.get? b = some o → b ≠ C := fun b o q z => by rw [z, NC.2.2] at q; cases q
        have kgD : ∀ b o, g₀.get? b = some o → b ≠ D := fun b o q z => by rw [z, ND.2.2] at q; cases q
        have onC : ∀ q ∈ on, q.1 ≠ C ∧ q.1 ≠ D := fun q hq => ⟨fun z => hdis q hq (by simp [z]), fun z => hdis q hq (by simp [z])⟩
        refine wpAny_assign_Name (wpAny_storeName_local (env := compEnvC scope cl C env) (lookup_relabel_local hx) hns' (fun h2 hn2 hs2 => ?_) (by simp [compEnvC, relabel, hkind]))
        replace hs2 : Heap.SameBut C s'.heap h2 := hs2
        have F2 : Fr g₀ L h2 m := ⟨F'.ns.sameBut hs2 kL, fun b o q => hs2.extBut b o (kg b o q) (F'.keep b o q), F'.above⟩
        have N2 : News g₀ L h2 (led ++ on) := fun q hq => by
          have := N' q (.tail _ (.tail _ hq))
          exact ⟨hs2.extBut _ _ ((List.mem_append.mp hq).elim (fun h => (lednC q h).1) fun h => (onC q h).1) this.1, this.2⟩
        have hb2 : h2.get? b = some (pairObj p tp u tu) := hs2.extBut _ _ hbC hb
        have hD2 : h2.get? D = some (W.listOf (vals ks) nD) := hs2.extBut _ _ hDC ND.1
        refine wpAny_tests_one (wpAny_mono (htest _ r₁ u r₂ hr12 rfl C b p tp tu { s' with heap := h2, toks := s'.toks + 1 } _ _ hp' F2 (News.left N2) hn2 (if_pos rfl) hb2) (fun ok s3 h3 => ?_) fun _ _ e => e)
        obtain ⟨rfl, h3, tk3, rfl, k3⟩ := h3
        rw [if_pos rfl]
        replace k3 : ∀ b o, h2.get? b = some o → h3.get? b = some o := k3
        have F3 : Fr g₀ L h3 m := ⟨F2.ns.at' fun o q => k3 _ o q, fun b o q => k3 b o (F2.keep b o q), F2.above⟩
        refine wpAny_mono (helt C b p tp u tu { s' with heap := h3, toks := tk3 } _ _ F3 (fun q hq => ⟨k3 _ _ (News.left N2 q hq).1, (News.left N2 q hq).2⟩) (hn2.at' fun o q => k3 _ o q) (if_pos rfl) (k3 _ _ hb2)) (fun y s4 h4 => ?_) fun _ _ e => e
        obtain ⟨⟨ty, rfl⟩, h4, tk4, rfl, k4⟩ := h4
        replace k4 : ∀ b o, h3.get? b = some o → h4.get? b = some o := k4
        have hlenk : (vals ks).size ≤ sizeLine := by
          rw [size_vals]
          have h1 := congrArg List.length hks
          rw [List.length_map] at h1
          rw [hr12, List.length_append] at hr
          have h2 : ks.length ≤ 4096 := by omega
          exact Nat.le_trans h2 (by decide)
        refine append_at (k4 _ _ (k3 _ _ hD2)) (fun h5 hs5 hD5 => ?_) hlenk
        replace hs5 : Heap.SameBut D h4 h5 := hs5
        obtain ⟨oC', hoC', hnsC'⟩ := ns_obj (hn2.at' (h' := h5) fun o q => hs5.extBut _ _ hDC.symm (k4 _ o (k3 _ o q)))
        have k5 : ∀ b o, b ≠ D → h2.get? b = some o → h5.get? b = some o := fun b o hb q => hs5.extBut b o hb (k4 _ _ (k3 _ _ q))
        have F5 : Fr g₀ L h5 m := ⟨F2.ns.at' fun o q => k5 _ o (fun z => ND.2.1 z.symm) q, fun b o q => k5 b o (kgD b o q) (F2.keep b o q), F2.above⟩
        have N5 : News g₀ L h5 (((D, W.listOf (vals (ks ++ [(u, ty)])) (nD + 1)) :: (C, oC') :: led) ++ on) := fun q hq => by
          rcases List.mem_cons.mp hq with rfl | hq
          · refine ⟨?_, ND.2⟩
            rw [hD5]; simp [vals]
          · rcases List.mem_cons.mp hq with rfl | hq
            · exact ⟨hoC', NC.2⟩
            · have := N2 q hq
              exact ⟨k5 _ _ ((List.mem_append.mp hq).elim (fun h => (lednC q h).2) fun h => (onC q h).2) this.1, this.2⟩
        obtain ⟨Y', Z'⟩ := hr' { s' with heap := h5, toks := tk4 } m ((D, W.listOf (vals (ks ++ [(u, ty)])) (nD + 1)) :: (C, oC') :: led) rfl F5 N5 rfl rfl
        refine ⟨r₂.length, by rw [← hn]; exact Nat.lt_succ_self _, own', r₁ ++ [u], r₂, ks ++ [(u, ty)], nD + 1, oC', _, rfl, by rw [hr12]; simp, by simp [hks], ?_, Z', hnsC' _ hoC'⟩
        rw [flat_append, List.length_append, show (flat [u]).length = u.length by simp [flat, Str.length]]
        exact Y'
    · intro z
      obtain ⟨o, ho⟩ := hown y hy
      rcases List.mem_cons.mp z with q | z
      · have := Heap.lt_size ho
        rw [q, hDd] at this
        exact Nat.lt_irrefl _ this
      · rcases List.mem_cons.mp z with q | z
        · rw [q] at ho
          exact nomatch hCn.symm.trans ho
        · exact (Z.D y hy).2.2 z
  refine codeAny_compStart_list (loop _ rfl) (wpAny_pyIter_gen (g := G₀.size) ?_ (loop _ rfl))
  obtain ⟨o, n1, n2, ho, z⟩ := hg
  exact ⟨o, n1, n2, old _ _ ho, z⟩
end

end
local macro_rules | `(tactic| walk_at "call ref") => `(tactic| refine hold_call (by with_reducible assumption) ?_)
section
open PySem PySem.W PySem.W.X PyProof.Rows PySem.Calls PySem.StrLaws PySem.Builtin PySem.Builtin.Str
set_option maxRecDepth 100000
theorem allLt_all {L : Addr} {news : List (Addr × Obj)} : AllLt L news → ∀ p ∈ news, @LT.lt Nat _ p.1 L := by
  induction news with
  | nil => exact fun _ _ hp => nomatch hp
  | cons q r ih =>
    intro h p hp
    cases hp with
    | head => exact h.1
    | tail _ hp => exact ih h.2 p hp
theorem allne1 {L c : Addr} {news : List (Addr × Obj)} {P : Prop} (h : P ∧ AllLt L news) (hc : L ≤ c) : ∀ p ∈ news, p.1 ≠ c := fun p hp => Nat.ne_of_lt (Nat.lt_of_lt_of_le (allLt_all h.2 p hp) hc)
end
local macro_rules | `(tactic| k_all) => `(tactic| first | exact allne1 (by assumption) (Nat.le_succ _) | fail "k_all")
section
open PySem PySem.W PySem.W.X PyProof.Rows PySem.Calls PySem.StrLaws PySem.Builtin PySem.Builtin.Str
set_option maxRecDepth 100000
theorem len_L {prog : Program} {w : World} {A : Around} {E : Value → Shared → Prop} {s : Shared} {h₀ : Heap} {L : Addr} {news : List (Addr × Obj)} {Q : Value → Shared → Prop} {D : Addr} {us : List (Str × Tok)} {c : Nat}
    (N : News h₀ L s.heap news) (hm : (D, W.listOf (vals us) c) ∈ news) (hf : us.length ≤ 4096)
    (h : Q (.int (us.length : Nat) (s.toks + 1)) { s with toks := s.toks + 1 + 1 }) : wpAny (model prog w) A (call (.builtin "len") [.ref D]) Q E s := by
  have e := size_vals us
  refine Calls.call_len_list (News.isList N hm) (by omega) ?_
  rw [e]; exact h
end
local macro_rules | `(tactic| walk_at "call builtin:len") => `(tactic| ((with_reducible show wpAny _ _ (call (Value.builtin "len") [Value.ref _]) _ _ _); (refine len_L (by k_asm) (by k_mem) (by assumption) ?_)))
section
open PySem PySem.W PySem.W.X PyProof.Rows PySem.Calls PySem.StrLaws PySem.Builtin PySem.Builtin.Str
set_option maxRecDepth 100000
/-- the tokens of the text, from a unit on (b: inside the quotes) -/
def T0 : Bool → List Str → List Str
  | _, [] => []
  | b, [u] => if b then [u, qt] else [u]
  | b, u :: v :: r => u :: qt :: T0 (!b) (v :: r)
def everyOther : Bool → List Str → List Str
  | _, [] => []
  | false, u :: r => u :: everyOther true r
  | true, _ :: r => everyOther false r
def inter : List Str → List Str
  | [] => []
  | [u] => [u]
  | u :: v :: r => u :: qt :: inter (v :: r)
theorem join_inter : ∀ l : List Str, (Txt.join (Str.ofString "\"") l).cps.toList = flat (inter l) := by
  intro l
  rw [eq_of_beq (join_plain_closes _ l), qt_str]
  induction l with
  | nil => rfl
  | cons u r ih =>
    cases r with
    | nil => simp [Str.join, inter, flat]
    | cons v r =>
      rw [inter, flat_cons, flat_cons, ← ih]
      show (u.cps ++ qt.cps ++ (Str.join qt (v :: r)).cps).toList = _
      simp
theorem T0_eq : ∀ (ys : List Str) (b : Bool), ys ≠ [] → T0 b ys = inter ys ++ (if (ys.length + b.toNat) % 2 = 0 then [qt] else [])
  | [], _, h => absurd rfl h
  | [u], b, _ => by cases b <;> simp [T0, inter]
  | u :: v :: r, b, _ => by
    rw [T0, inter, T0_eq (v :: r) (!b) (by simp)]
    have e : ((v :: r).length + (!b).toNat) % 2 = 0 ↔ ((u :: v :: r).length + b.toNat) % 2 = 0 := by cases b <;> simp <;> omega
    simp only [e]
    rfl
theorem IsUnit.ne {u : Str} (h : IsUnit u) : u ≠ qt := by
  rintro rfl
  obtain ⟨c, _, h | ⟨h, h1, h2⟩⟩ := h
  · have := congrArg (fun u : Str => u.cps.size) h
    exact absurd this (by simp [qt])
  · have := congrArg (fun u : Str => u.cps[0]?) h
    exact h2 (by simpa [qt] using this.symm)
theorem qt_tok : IsTok qt := ⟨34, .inr ⟨rfl, by decide⟩⟩
theorem T0_tok : ∀ (ys : List Str) (b : Bool), (∀ u ∈ ys, IsUnit u) → ∀ u ∈ T0 b ys, IsTok u
  | [], _, _, u, hu => nomatch hu
  | [v], b, h, u, hu => by
    have hv := (h v (.head _)).tok
    cases b <;> simp [T0] at hu
    · rw [hu]; exact hv
    · rcases hu with rfl | rfl
      · exact hv
      · exact qt_tok
  | v :: w :: r, b, h, u, hu => by
    rw [T0] at hu
    rcases List.mem_cons.mp hu with rfl | hu
    · exact (h _ (.head _)).tok
    · rcases List.mem_cons.mp hu with rfl | hu
      · exact qt_tok
      · exact T0_tok (w :: r) (!b) (fun u hu => h u (.tail _ hu)) u hu
theorem T0_bal : ∀ (ys : List Str) (b : Bool), ys ≠ [] → (∀ u ∈ ys, IsUnit u) → bal b (T0 b ys) = true
  | [], _, h, _ => absurd rfl h
  | [v], b, _, h => by cases b <;> simp [T0, bal, (h v (.head _)).ne]
  | v :: w :: r, b, _, h => by
    have ih := T0_bal (w :: r) (!b) (by simp) fun u hu => h u (.tail _ hu)
    simp [T0, bal, (h v (.head _)).ne, ih]
theorem T0_outs : ∀ (ys : List Str) (b : Bool), (∀ u ∈ ys, IsUnit u) → outs b (T0 b ys) = everyOther b ys
  | [], b, _ => by cases b <;> rfl
  | [v], b, h => by cases b <;> simp [T0, outs, everyOther, (h v (.head _)).ne]
  | v :: w :: r, b, h => by
    have ih := T0_outs (w :: r) (!b) fun u hu => h u (.tail _ hu)
    cases b
    · simp only [T0, outs, (h v (.head _)).ne, if_false, if_true, everyOther]
      exact congrArg _ ih
    · simp only [T0, outs, (h v (.head _)).ne, if_false, if_true, everyOther]
      exact ih
def Tfull (b : Bool) (us : List Str) : List Str := if b then qt :: T0 true us else T0 false us
theorem Tfull_tok {us : List Str} {b : Bool} (h : ∀ u ∈ us, IsUnit u) : ∀ u ∈ Tfull b us, IsTok u := fun u hu => by
  cases b
  · exact T0_tok us false h u hu
  · exact (List.mem_cons.mp hu).elim (fun e => e ▸ qt_tok) (T0_tok us true h u)
theorem Tfull_bal {us : List Str} {b : Bool} (hne : us ≠ []) (h : ∀ u ∈ us, IsUnit u) : bal false (Tfull b us) = true := by
  cases b
  · exact T0_bal us false hne h
  · show bal false (qt :: T0 true us) = true
    simp [bal, T0_bal us true hne h]
theorem Tfull_outs {us : List Str} {b : Bool} (h : ∀ u ∈ us, IsUnit u) : outs false (Tfull b us) = everyOther b us := by
  cases b
  · exact T0_outs us false h
  · show outs false (qt :: T0 true us) = _
    rw [outs, if_pos rfl, T0_outs us true h]
theorem par0 {n : Nat} : ((n : Int) + ((0 : Nat) : Int)).fmod 2 = 0 ↔ n % 2 = 0 := by rw [Int.fmod_eq_emod_of_nonneg _ (by decide)]; omega
theorem par1 {n : Nat} : ((n : Int) + ((1 : Nat) : Int)).fmod 2 = 0 ↔ (n + 1) % 2 = 0 := by rw [Int.fmod_eq_emod_of_nonneg _ (by decide)]; omega
section
variable {us : List (Str × Tok)} {jx : Str} (hne : us ≠ []) (hjx : jx.cps.toList = flat (inter (us.map (·.1))))
include hne hjx
theorem tx00 (h : ((us.length : Int) + ((0 : Nat) : Int)).fmod 2 = 0) : (jx ++ Str.ofString "\"").cps.toList = flat (Tfull (0 == 1) (us.map (·.1))) := by
  show (jx.cps ++ (Str.ofString "\"").cps).toList = flat (T0 false _)
  rw [T0_eq _ _ (by simpa using hne), List.length_map, if_pos (show (us.length + false.toNat) % 2 = 0 from par0.mp h), flat_append, Array.toList_append, hjx, qt_str]
  rfl
theorem tx01 (h : ((us.length : Int) + ((0 : Nat) : Int)).fmod 2 ≠ 0) : jx.cps.toList = flat (Tfull (0 == 1) (us.map (·.1))) := by
  show jx.cps.toList = flat (T0 false _)
  rw [T0_eq _ _ (by simpa using hne), List.length_map, if_neg (show ¬ (us.length + false.toNat) % 2 = 0 from fun q => h (par0.mpr q)), List.append_nil, hjx]
theorem tx10 (h : ((us.length : Int) + ((1 : Nat) : Int)).fmod 2 = 0) : (Str.ofString "\"" ++ jx ++ Str.ofString "\"").cps.toList = flat (Tfull (1 == 1) (us.map (·.1))) := by
  show ((Str.ofString "\"").cps ++ jx.cps ++ (Str.ofString "\"").cps).toList = flat (qt :: T0 true _)
  rw [flat_cons, T0_eq _ _ (by simpa using hne), List.length_map, if_pos (show (us.length + true.toNat) % 2 = 0 from par1.mp h), flat_append, Array.toList_append, Array.toList_append, hjx, qt_str]
  simp [flat]
theorem tx11 (h : ((us.length : Int) + ((1 : Nat) : Int)).fmod 2 ≠ 0) : (Str.ofString "\"" ++ jx).cps.toList = flat (Tfull (1 == 1) (us.map (·.1))) := by
  show ((Str.ofString "\"").cps ++ jx.cps).toList = flat (qt :: T0 true _)
  rw [flat_cons, T0_eq _ _ (by simpa using hne), List.length_map, if_neg (show ¬ (us.length + true.toNat) % 2 = 0 from fun q => h (par1.mpr q)), List.append_nil, Array.toList_append, hjx, qt_str]
end
theorem tx_len {jx y z : Str} (h : jx.length ≤ 192) (hy : y.length ≤ 1) (hz : z.length ≤ 1) : (y ++ jx ++ z).length ≤ 4096 := by
  rw [Str.length_append, Str.length_append]; omega
theorem everyOther_mem : ∀ (ys : List Str) (b : Bool), ∀ u ∈ everyOther b ys, u ∈ ys
  | [], b, u, hu => by cases b <;> exact nomatch hu
  | v :: r, false, u, hu => (List.mem_cons.mp hu).elim (fun e => e ▸ .head _) fun h => .tail _ (everyOther_mem r true u h)
  | v :: r, true, u, hu => .tail _ (everyOther_mem r false u hu)
theorem everyOther_le : ∀ (ys : List Str) (b : Bool), (everyOther b ys).length ≤ ys.length
  | [], b => by cases b <;> exact Nat.le_refl _
  | v :: r, false => Nat.succ_le_succ (everyOther_le r true)
  | v :: r, true => Nat.le_succ_of_le (everyOther_le r false)
theorem own_apart {g' h : Heap} {L b Lg : Addr} {m : Str → Option Value} {led : List (Addr × Obj)} (F : Fr g' L h m) (N : News g' L h led) (hb : h.get? b = none) (hLg : h.get? Lg = none) :
    ∀ y ∈ [b, Lg], g'.get? y = none ∧ y ≠ L ∧ y ∉ led.map (·.1) := by
  have key : ∀ y, h.get? y = none → g'.get? y = none ∧ y ≠ L ∧ y ∉ led.map (·.1) := fun y hy => by
    refine ⟨?_, ?_, ?_⟩
    · cases z : g'.get? y with
      | none => rfl
      | some o => rw [F.keep y o z] at hy; cases hy
    · rintro rfl
      obtain ⟨o, _, _, z, _⟩ := F.ns
      rw [z] at hy; cases hy
    · intro z
      obtain ⟨p, hp, rfl⟩ := List.mem_map.mp z
      rw [(N p hp).1] at hy; cases hy
  intro y hy
  rcases List.mem_cons.mp hy with rfl | hy
  · exact key _ hb
  · rw [List.mem_singleton.mp hy]; exact key _ hLg
theorem unit_len {u : Str} (h : IsUnit u) : u.length ≤ 2 := by
  obtain ⟨c, _, rfl | ⟨rfl, _⟩⟩ := h
  · exact Nat.le_refl 2
  · exact Nat.le_succ 1
theorem flat_le : ∀ ys : List Str, (∀ u ∈ ys, u.length ≤ 2) → (flat ys).length ≤ 2 * ys.length
  | [], _ => Nat.le_refl _
  | u :: r, h => by
    rw [flat_cons, List.length_append, len_cps, List.length_cons]
    have := h u (.head _)
    have := flat_le r fun u hu => h u (.tail _ hu)
    omega
theorem inter_le : ∀ ys : List Str, (∀ u ∈ ys, u.length ≤ 2) → (flat (inter ys)).length ≤ 3 * ys.length
  | [], _ => Nat.le_refl _
  | [u], h => by
    have := h u (.head _)
    simp [inter, flat, Str.length] at this ⊢
    omega
  | u :: v :: r, h => by
    rw [inter, flat_cons, flat_cons, List.length_append, List.length_append, len_cps, len_cps, List.length_cons]
    have := h u (.head _)
    have := inter_le (v :: r) fun u hu => h u (.tail _ hu)
    have : qt.length = 1 := rfl
    omega
section
variable {prog : Program} {w : World} {A : Around} {E : Value → Shared → Prop} {s : Shared} {Q : Value → Shared → Prop} {value slice : Expr} {b : Addr} {p : Int} {tp tu k : Tok} {u : Str}
theorem item_pair0 (hb : s.heap.get? b = some (pairObj p tp u tu)) (h : Q (.int p tp) s)
    (hs : subscripted slice false (.ref b) (.int 0 k) = operate [.ref b, .int 0 k] (getItem (.ref b) (.int 0 k)) := by with_unfolding_all rfl) (hg : ∀ r, letTemporaryGo value (.ref b) r = pure () := by intro _; with_unfolding_all rfl) :
    wpAny (model prog w) A (subscriptTail value slice (.ref b) (.int 0 k)) Q E s :=
  item_tuple (j := 0) (items := #[.int p tp, .str u tu]) ⟨_, hb, rfl, _, rfl⟩ (by decide) (by decide) rfl rfl h hs hg
theorem item_pair1 (hb : s.heap.get? b = some (pairObj p tp u tu)) (h : Q (.str u tu) s)
    (hs : subscripted slice false (.ref b) (.int 1 k) = operate [.ref b, .int 1 k] (getItem (.ref b) (.int 1 k)) := by with_unfolding_all rfl) (hg : ∀ r, letTemporaryGo value (.ref b) r = pure () := by intro _; with_unfolding_all rfl) :
    wpAny (model prog w) A (subscriptTail value slice (.ref b) (.int 1 k)) Q E s :=
  item_tuple (j := 1) (items := #[.int p tp, .str u tu]) ⟨_, hb, rfl, _, rfl⟩ (by decide) (by decide) rfl rfl h hs hg
theorem slice_keep {x : Str} {t : Tok} {i j : Int} {ui uj : Tok} (h : ∀ h' t' k, (∀ b o, s.heap.get? b = some o → h'.get? b = some o) → Q (.str (Txt.slice x (some i) (some j)) t') { s with heap := h', toks := k })
    (hs : subscripted slice false (.str x t) (.ref s.heap.objs.size) = operate [.ref s.heap.objs.size, .str x t] (getItem (.str x t) (.ref s.heap.objs.size)) := by with_unfolding_all rfl)
    (ht : ∀ r, letTemporaryGo value (.str x t) r = pure () := by intro _; with_unfolding_all rfl) (hsz : x.length ≤ sizeLine := by size_fits) :
    wpAny (model prog w) A (subscriptTail value slice (.str x t) (.ref s.heap.objs.size)) Q E { s with heap := s.heap.push { cls := .type "slice", data := .fields #[.int i ui, .int j uj, .none] } } :=
  tail_of_ItemOn (SBH.sliceItem_ss (P := fun h' => ∀ b o, s.heap.get? b = some o → h'.get? b = some o) (fun _ _ k b o q => Heap.get?_push_of_some _ (k b o q)) (fun _ _ q => q) (fun h' t' k a => h h' t' k a) hsz) hs ht
end
theorem str_ext {x y : Str} (h : x.cps.toList = y.cps.toList) : x = y := by
  cases x; cases y
  exact congrArg Str.mk (Array.toList_inj.mp h)
theorem slice_unit {y u : Str} {r₁ r₂ : List Str} {i : Nat} {p : Int} (hy : y.cps.toList = flat (r₁ ++ u :: r₂)) (hi : i = (flat r₁).length) (hp : p = ((i + u.length : Nat) : Int) - 1) :
    Txt.slice y (some (p + 1 - (u.length : Int))) (some (p + 1)) = u := by
  have e1 : p + 1 - (u.length : Int) = (i : Int) := by omega
  have e2 : p + 1 = ((i + u.length : Nat) : Int) := by omega
  have hl : i + u.length ≤ y.length := by
    have := congrArg List.length hy
    rw [flat_append, flat_cons, List.length_append, List.length_append, len_cps, len_cps, ← hi] at this
    omega
  rw [e1, e2]
  apply str_ext
  rw [slice_cps (Nat.le_add_right _ _) hl]
  unfold seg
  rw [hy, flat_append, hi, List.drop_left, flat_cons, Nat.add_sub_cancel_left, ← len_cps, List.take_left]
theorem y_len {y : Str} {ys : List Str} {b : Bool} (hy : y.cps.toList = flat (everyOther b ys)) (h : ∀ u ∈ ys, IsUnit u) : y.length ≤ 2 * ys.length := by
  have h1 := flat_le (everyOther b ys) fun u hu => unit_len (h u (everyOther_mem ys b u hu))
  rw [← hy, len_cps] at h1
  exact Nat.le_trans h1 (Nat.mul_le_mul_left 2 (everyOther_le ys b))
local macro_rules | `(tactic| walk_at "subscriptTail") => `(tactic| (refine item_pair0 (by assumption) ?_))
local macro_rules | `(tactic| walk_at "subscriptTail") => `(tactic| (refine item_pair1 (by assumption) ?_))
set_option maxHeartbeats 8000000 in
theorem left_spec' : Fill → ∀ {w : World} {A₀ : Around} {base h₀ : Heap} {outer : List Env} {L : Addr} {m : Str → Option Value} {news : List (Addr × Obj)} {s : Shared}
    {dp un : Nat} {gd : Option (List Code)} {cn : Str} {nm : List (Str × NameKind)} {ig ic : Bool} {mr : List (Str × Const)} {a : Addr} {ccd : Value} {cl : List (Str × Addr)} {Q E : Value → Shared → Prop}
    (_ : Cx w A₀ base outer h₀ L m news s) (_ : dp ≤ 940) (_ : un ≤ 9100) (U : Addr) (us : List (Str × Tok)) (n : Nat) (t : Tok) (ah : Nat) (_ : (U, W.listOf (vals us) n) ∈ news) (_ : ∀ p ∈ us, IsUnit p.1) (_ : us ≠ []) (_ : us.length ≤ 64) (_ : ah = 0 ∨ ah = 1)
    (_ : ∀ D ks n' s', ks.map (·.1) = everyOther (ah == 1) (us.map (·.1)) → (∀ p ∈ news, p.1 < D) → Went s s' → Fr h₀ L s'.heap m → News h₀ L s'.heap ((D, W.listOf (vals ks) n') :: news) → Q (.ref D) s'),
    wpAny (model prg w) (ktrTop dp un gd cn (fS nm ig ic mr) L a ccd cl outer) (call (.ref 145) [.ref U, .int ah t]) Q E s := by
  unfold Fill
  k_fill
  intro _ w A₀ base h₀ outer L m news s dp un gd cn nm ig ic mr a ccd cl Q E C hdp hun U us n t ah hU hus hne hl64 hah hQ
  have hq1 := Held.mk "call builtin:str.join"
  have hq2 := Held.mk "eval ListComp"
  have hq3 := HeldCall.mk 35
  have hq4 := HeldCall.mk 28
  have hq5 := Held.mk "subscriptTail Name Slice str ref"
  obtain ⟨B, F, X, N0, _, _, _, _, T⟩ := C
  have N : News h₀ L s.heap ((U, W.listOf (vals us) n) :: news) := fun p hp => (List.mem_cons.mp hp).elim (fun e => e ▸ N0 _ hU) (N0 p)
  clear N0
  refine room hdp hun ?_
  have hu2 : ∀ u ∈ us.map (·.1), u.length ≤ 2 := fun u hu => by obtain ⟨p, hp, rfl⟩ := List.mem_map.mp hu; exact unit_len (hus p hp)
  have hl4 : us.length ≤ 4096 := Nat.le_trans hl64 (by decide)
  k_steps
  rename_i g' L' _ _ FG' F' B' X' T' l1 o' d1' N'
  refine Hold.mk (join_list (ys := us.map (·.1)) ⟨_, (N' _ (.tail _ (.head _))).1, rfl, _, rfl⟩ (strs_are us) ?_ ?_)
  · rw [flat_sum]
    have h1 := flat_le (us.map (·.1)) hu2
    have : (Str.ofString "\"").length = 1 := by decide +kernel
    rw [this]
    rw [List.length_map] at h1 ⊢
    omega
  intro t' k'
  have hjx := join_inter (us.map (·.1))
  generalize Txt.join (Str.ofString "\"") (us.map (·.1)) = jx at hjx ⊢
  have hjl : jx.length ≤ 192 := by
    have h1 := inter_le _ hu2
    rw [← hjx, len_cps, List.length_map] at h1
    omega
  have hq1 : (Str.ofString "\"").length = 1 := by decide +kernel
  have huk : ∀ u ∈ us.map (·.1), IsUnit u := fun u hu => by obtain ⟨p, hp, rfl⟩ := List.mem_map.mp hu; exact hus p hp
  rcases hah with rfl | rfl
  all_goals k_steps
  all_goals rename Fr _ _ _ _ => F'
  all_goals rename News _ _ _ _ => N'
  all_goals refine Hold.mk (strip_spec' (dp := 941) (un := 9103) (s := ⟨_, s.gens, s.drawn, _, s.os⟩) fill ⟨B', F', X', N', _, _, _, _, T'⟩ (by decide) (by decide) _ _ _ (Tfull_tok huk) (by first | exact tx00 hne hjx (by assumption) | exact tx01 hne hjx (by assumption) | exact tx10 hne hjx (by assumption) | exact tx11 hne hjx (by assumption)) (Tfull_bal (by simpa using hne) huk) (by first | omega | (simp only [Str.length_append, hq1]; omega)) ?_)
  all_goals clear F' N'
  all_goals intro y ty s2 hy W2 F2 N2
  all_goals rw [Tfull_outs huk] at hy
  all_goals k_steps
  all_goals rename Fr _ _ _ _ => F'
  all_goals rename News _ _ _ _ => N'
  all_goals rename_i h2 oc hd2
  all_goals obtain ⟨mm, Fm⟩ : ∃ mm, Fr g' L' h2 mm := ⟨_, F'⟩
  all_goals refine Hold.mk (gen_comp (g₀ := g') (L := L') (led := (L' + 1, oc) :: (U, W.listOf (vals us) n) :: news) (m := mm) (G₀ := s2.gens) (os₀ := s2.os) (cl := [(Str.ofString "kept", L' + 1)]) rfl (by decide) rfl (by decide) rfl T'.nolimit rfl (by k_room) ?_)
  all_goals k_steps
  all_goals refine Hold.mk (iter_spec' (dp := 941) (un := 9103) (s := ⟨h2, s2.gens, s2.drawn, _, s2.os⟩) fill ⟨B', F', X', N', _, _, _, _, T'⟩ (by decide) (by decide) y ty _ (fun u hu => (huk u (everyOther_mem _ _ u hu)).tok) hy ?_)
  all_goals
    intro b Lg gc s3 hb0 hLg0 hne2 hthere hkeep hos hgens hgen hready
    have F3 : Fr g' L' s3.heap mm := ⟨Fm.ns.at' fun o q => hkeep _ o q, fun b o q => hkeep b o (Fm.keep b o q), Fm.above⟩
    have N3 : News g' L' s3.heap ((L' + 1, oc) :: (U, W.listOf (vals us) n) :: news) := fun p hp => ⟨hkeep _ _ (N' p hp).1, (N' p hp).2⟩
    have hysz : y.length ≤ 4096 := by
      have h1 := y_len hy huk
      rw [List.length_map] at h1
      omega
    refine ⟨b, [b, Lg], _, rfl, hgen, Nat.le_trans (everyOther_le _ _) (by rw [List.length_map]; exact hl4), ⟨F3, N3, ⟨_, hgens⟩, hos, ?_⟩, hthere, hready, ?_, ?_, ?_⟩
    · exact own_apart F' N' hb0 hLg0
    · intro i r₁ u r₂ hr12 hi C bb p tp tu s4 m4 E4 hp F4 N4 hns hm hbb
      clear F' N' F3 N3 Fm
      have hul : u.length ≤ 4096 := Nat.le_trans (unit_len (huk u (everyOther_mem _ _ u (by rw [hr12]; simp)))) (by decide)
      rw [hr12] at hy
      k_steps
      refine Hold.mk (slice_keep fun h9 t9 k9 hk9 => ?_)
      have hns9 := hns.at' fun o q => hk9 C o q
      have hbb9 := hk9 _ _ hbb
      k_steps
      · rw [slice_unit hy hi hp]; exact beq_self_eq_true _
      · exact ⟨h9, _, rfl, hk9⟩
    · intro C bb p tp u tu s4 m4 E4 F4 N4 hns hm hbb
      clear F' N' F3 N3 Fm
      k_steps
      exact ⟨_, _, rfl, fun _ _ q => q⟩
    · intro D ks nD s4 hks hD F4 N4 hg4 ho4
      clear F' N' F3 N3 Fm
      k_steps
      refine hQ D ks nD _ hks (fun p hp => hD p (.tail _ (.tail _ hp))) ((show Went s s2 from ⟨W2.os, W2.gens⟩).trans (Went.one ho4 hg4 rfl)) (by k_asm) ?_
      rename News _ _ _ _ => N5
      intro p hp
      rcases List.mem_cons.mp hp with rfl | hp
      · exact N5 _ (.head _)
      · exact N5 _ (.tail _ (.tail _ (.tail _ hp)))

end
section
open PySem PySem.W PySem.W.X PyProof.Rows PySem.Calls
set_option maxRecDepth 100000
def LEnd (g₀ : Heap) (L : Addr) (s : Shared) (J : Nat → (Str → Option Value) → List (Addr × Obj) → Prop) (i : Nat) (I : Addr) (oI : Obj) (f : Flow) (s' : Shared) : Prop := match f with
  | .next | .cont => ∃ m' led', J i m' led' ∧ (∀ p ∈ led', p.1 ≠ I) ∧ Fr g₀ L s'.heap m' ∧ News g₀ L s'.heap ((I, oI) :: led') ∧ Went s s'
  | _ => False
def LStart (g₀ : Heap) (L R : Addr) (s : Shared) (J : Nat → (Str → Option Value) → List (Addr × Obj) → Prop) (v : Value) (s₁ : Shared) : Prop :=
  v = .ref R ∧ ∃ m led, J 0 m led ∧ Fr g₀ L s₁.heap m ∧ News g₀ L s₁.heap led ∧ Went s s₁

theorem list_for {w : World} {g₀ : Heap} {L R : Addr} {arr : Array Value} {s : Shared} {A : Around} {E : Value → Shared → Prop} {env : Env} {x : Str} {px fp : Pos} {iter : Expr} {body : List Stmt} {Q : Flow → Shared → Prop}
    (J : Nat → (Str → Option Value) → List (Addr × Obj) → Prop)
    (hL : env.locals = L) (kx : env.kindOf x = some .local) (hp : (env.scope.kind == .class || (env.scope.kind == .module && env.locals != env.globals)) = false) (hA : A.handled = none)
    (start : wpAny (model prg w) A (eval iter env) (LStart g₀ L R s J) E s)
    (hR : ∀ i m led, J i m led → ∃ n, (R, W.listOf arr n) ∈ led)
    (turn : ∀ i v m led I oI s₂ (E' : Value → Shared → Prop), arr[i]? = some v → J i m led → (∀ p ∈ led, p.1 ≠ I) → Fr g₀ L s₂.heap (up m x v) → News g₀ L s₂.heap ((I, oI) :: led) → Went s s₂ →
      wpAny (model prg w) A (execs body env) (LEnd g₀ L s₂ J (i + 1) I oI) E' s₂)
    (over : ∀ m led s', J arr.size m led → Fr g₀ L s'.heap m → News g₀ L s'.heap led → Went s s' → Q .next s')
    (hs : ∀ x, foldedSetIterable iter env x = pure x := by intro _; rfl) :
    wpAny (model prg w) A (exec (.For (.Name x px) iter body [] fp) env) Q E s := by
  subst hL
  refine wpAny_For (wpAny_mono start (fun v s₁ h₁ => ?_) fun _ _ x => x) hs
  obtain ⟨rfl, m, led, j, F, N, W⟩ := h₁
  obtain ⟨n, hm⟩ := hR _ _ _ j
  refine wpAny_pyIter_list (News.isList N hm) ?_
  refine codeAny_forLoop_any (fun k s' => ∃ i m led oI, i + k = arr.size ∧ J i m led ∧ (∀ p ∈ led, p.1 ≠ s₁.heap.objs.size) ∧ oI.cls = .type "list_iterator" ∧ oI.data = .fields #[.ref R, .int i 0] ∧
    Fr g₀ env.locals s'.heap m ∧ News g₀ env.locals s'.heap ((s₁.heap.objs.size, oI) :: led) ∧ Went s s') (fun k s' hI => ?_) arr.size
    ⟨0, m, led, _, Nat.zero_add _, j, fun p hp => Nat.ne_of_lt (Heap.lt_size (N p hp).1), rfl, rfl, F.push _, News.push F N _, W.trans Went.at⟩
  clear j F N W m led hm
  obtain ⟨i, m, led, oI, hk, j, hne, hc, hd, F, N, W⟩ := hI
  obtain ⟨n, hm⟩ := hR _ _ _ j
  have hit : s'.heap.IsListIter s₁.heap.objs.size R i := ⟨oI, (N _ (.head _)).1, hc, hd⟩
  have hlist : s'.heap.IsList R arr := News.isList N (.tail _ hm)
  have hI := N _ (.head _)
  have kL : env.locals ≠ s₁.heap.objs.size := fun q => hI.2.1 q.symm
  have kg : ∀ b o, g₀.get? b = some o → b ≠ s₁.heap.objs.size := fun b o q z => by rw [z, hI.2.2] at q; cases q
  cases hv : arr[i]? with
  | none =>
    have hi : i = arr.size := by
      have := Array.getElem?_eq_none_iff.mp hv
      omega
    subst hi
    refine wpAny_pyNext_list_end hA hit hlist hv fun h' hx => ?_
    refine wpAny_execs_nil (over m led _ j ⟨F.ns.at' fun o q => hx _ o kL q, fun b o q => hx b o (kg b o q) (F.keep b o q), F.above⟩ (fun p hp => ⟨hx _ _ (hne p hp) (N p (.tail _ hp)).1, (N p (.tail _ hp)).2⟩) (W.trans Went.at))
  | some v =>
    refine wpAny_pyNext_list_item hit hlist hv fun h' hit' hsb => ?_
    replace hsb : Heap.SameBut s₁.heap.objs.size s'.heap h' := hsb
    obtain ⟨oI', ho', hc', hd'⟩ := hit'
    refine wpAny_pure ?_
    refine wpAny_assign_Name (wpAny_storeName_local kx (F.ns.sameBut hsb kL) (fun h2 hn2 hs2 => ?_) hp)
    replace hs2 : Heap.SameBut env.locals h' h2 := hs2
    have F2 : Fr g₀ env.locals h2 (up m x v) := ⟨hn2, fun b o q => hs2.extBut b o (Nat.ne_of_lt (Nat.lt_of_lt_of_le (Heap.lt_size q) F.above)) (hsb.extBut b o (kg b o q) (F.keep b o q)), F.above⟩
    have N2 : News g₀ env.locals h2 ((s₁.heap.objs.size, oI') :: led) := fun p hp => by
      rcases List.mem_cons.mp hp with rfl | hp
      · exact ⟨hs2.extBut _ _ kL.symm ho', hI.2⟩
      · have := N p (.tail _ hp)
        exact ⟨hs2.extBut _ _ this.2.1 (hsb.extBut _ _ (hne p hp) this.1), this.2⟩
    refine wpAny_mono (turn i v m led _ oI' { s' with heap := h2, toks := s'.toks + 1 } _ hv j hne F2 N2 (W.trans Went.at)) (fun f s3 h3 => ?_) fun _ _ x => x
    have key : (∃ m' led', J (i + 1) m' led' ∧ (∀ p ∈ led', p.1 ≠ s₁.heap.objs.size) ∧ Fr g₀ env.locals s3.heap m' ∧ News g₀ env.locals s3.heap ((s₁.heap.objs.size, oI') :: led') ∧ Went { s' with heap := h2, toks := s'.toks + 1 } s3) →
        ∃ k', k' < k ∧ ∃ i m led oI, i + k' = arr.size ∧ J i m led ∧ (∀ p ∈ led, p.1 ≠ s₁.heap.objs.size) ∧ oI.cls = .type "list_iterator" ∧ oI.data = .fields #[.ref R, .int i 0] ∧
          Fr g₀ env.locals s3.heap m ∧ News g₀ env.locals s3.heap ((s₁.heap.objs.size, oI) :: led) ∧ Went s s3 := by
      rintro ⟨m', led', j', hne', F3, N3, W3⟩
      have hlt : i < arr.size := (Array.getElem?_eq_some_iff.mp hv).1
      exact ⟨k - 1, by omega, i + 1, m', led', oI', by omega, j', hne', hc', hd', F3, N3, (W.trans Went.at).trans W3⟩
    cases f with
    | next => exact key h3
    | cont => exact key h3
    | brk => exact h3.elim
    | ret v => exact h3.elim

end
section
open PySem PySem.W PySem.W.X PyProof.Rows PySem.Calls
set_option maxRecDepth 100000
section
variable {prog : Program} {w : World} {A : Around} {E : Value → Shared → Prop} {s : Shared} {Q : Value → Shared → Prop} {x k : Nat} {a b : Int} {t u : Tok}
theorem rshift_nat (ha : a = (x : Int)) (hb : b = (k : Int)) (h : Q (.int ((x / 2 ^ k : Nat) : Int) s.toks) { s with toks := s.toks + 1 }) : wpAny (model prog w) A (binaryOp .RShift (.int a t) (.int b u)) Q E s := by
  subst ha hb
  refine rshift_int (by omega) ?_
  have e : ((x : Int)).fdiv (2 ^ ((k : Int)).toNat) = ((x / 2 ^ k : Nat) : Int) := by
    rw [Int.toNat_natCast, Int.fdiv_eq_ediv_of_nonneg _ (Int.pow_nonneg (by decide))]
    rw [Int.natCast_ediv, Int.natCast_pow]
    rfl
  rw [e]; exact h
theorem lshift_nat (ha : a = (x : Int)) (hb : b = (k : Int)) (hx : x < 2 ^ 64) (hk : k ≤ 1000) (h : Q (.int ((x * 2 ^ k : Nat) : Int) s.toks) { s with toks := s.toks + 1 }) : wpAny (model prog w) A (binaryOp .LShift (.int a t) (.int b u)) Q E s := by
  subst ha hb
  refine lshift_int_small (by omega) (by omega) (by simpa using hx) ?_
  have e : ((x : Int)) * (2 ^ ((k : Int)).toNat) = ((x * 2 ^ k : Nat) : Int) := by
    rw [Int.toNat_natCast, Int.natCast_mul, Int.natCast_pow]
    rfl
  rw [e]; exact h
theorem low_and : x &&& (x / 2 ^ k * 2 ^ k) = x / 2 ^ k * 2 ^ k := by
  apply Nat.eq_of_testBit_eq
  intro i
  rw [Nat.testBit_and, Nat.testBit_mul_two_pow, Nat.testBit_div_two_pow]
  by_cases h : k ≤ i
  · have : i - k + k = i := by omega
    simp [h, this]
  · simp [h]
theorem low_or : x ||| (x / 2 ^ k * 2 ^ k) = x := by
  apply Nat.eq_of_testBit_eq
  intro i
  rw [Nat.testBit_or, Nat.testBit_mul_two_pow, Nat.testBit_div_two_pow]
  by_cases h : k ≤ i
  · have : i - k + k = i := by omega
    simp [h, this]
  · simp [h]
theorem xor_low (ha : a = (x : Int)) (hb : b = ((x / 2 ^ k * 2 ^ k : Nat) : Int)) (h : Q (.int ((x % 2 ^ k : Nat) : Int) s.toks) { s with toks := s.toks + 1 }) : wpAny (model prog w) A (binaryOp .BitXor (.int a t) (.int b u)) Q E s := by
  subst ha hb
  refine xor_int ?_
  have n1 : ∀ y : Nat, Builtin.bitNot (y : Int) = -(y : Int) - 1 := fun y => rfl
  have e : Builtin.bitXor (x : Int) ((x / 2 ^ k * 2 ^ k : Nat) : Int) = ((x % 2 ^ k : Nat) : Int) := by
    generalize hy : x / 2 ^ k * 2 ^ k = y
    have l1 : x &&& y = y := hy ▸ low_and
    have l2 : x ||| y = x := hy ▸ low_or
    have l3 : x % 2 ^ k + y = x := by rw [← hy]; exact Nat.mod_add_div' x (2 ^ k)
    unfold Builtin.bitXor Builtin.bitOr Builtin.bitAnd
    have c1 : decide (0 ≤ (x : Int)) = true := by simp
    have c2 : decide (0 ≤ (y : Int)) = true := by simp
    have c3 : decide (0 ≤ Builtin.bitNot (x : Int)) = false := by rw [n1]; simp; omega
    have c4 : decide (0 ≤ Builtin.bitNot (y : Int)) = false := by rw [n1]; simp; omega
    have d1 : Builtin.bitNot (Builtin.bitNot (x : Int)) = x := by show -(-(x : Int) - 1) - 1 = x; omega
    have d2 : Builtin.bitNot (Builtin.bitNot (y : Int)) = y := by show -(-(y : Int) - 1) - 1 = y; omega
    simp only [c1, c2, c3, c4, d1, d2, Int.toNat_natCast, l1, l2]
    omega
  rw [e]; exact h
end

end
section
open PySem PySem.W PySem.W.X PyProof.Rows PySem.Calls
set_option maxRecDepth 100000
/-- a code's table of made codes: not used yet, or with the one made function's code -/
def Tab (P : Addr) (ln co : Nat) (qual : Str) (tl : List (Addr × Obj)) : Prop :=
  tl = [(P, tabObj #[])] ∨ ∃ c' oc vs t, tl = [(P, tabObj #[rawInt ln, rawInt co, .ref c']), (c', oc)] ∧ oc.data = .fields vs ∧ vs[1]? = some (.str qual t) ∧ 178 < c'
theorem Tab.mem {P : Addr} {ln co : Nat} {qual : Str} {tl : List (Addr × Obj)} (h : Tab P ln co qual tl) : ∃ o, (P, o) ∈ tl := by
  rcases h with rfl | ⟨c', oc, vs, t, rfl, _⟩
  · exact ⟨_, .head _⟩
  · exact ⟨_, .head _⟩
theorem Tab.ne {P : Addr} {ln co : Nat} {qual : Str} {tl : List (Addr × Obj)} {b : Addr} (h : Tab P ln co qual tl) (h1 : P ≠ b) (h2 : b ≤ 178) : ∀ p ∈ tl, p.1 ≠ b := by
  rcases h with rfl | ⟨c', oc, vs, t, rfl, _, _, hb⟩
  · intro p hp
    rw [List.mem_singleton.mp hp]; exact h1
  · intro p hp
    rcases List.mem_cons.mp hp with rfl | hp
    · exact h1
    · rw [List.mem_singleton.mp hp]; exact Nat.ne_of_gt (Nat.lt_of_le_of_lt h2 hb)
theorem updF_mid {P : Addr} {o : Obj} : ∀ {pre post : List (Addr × Obj)}, (∀ p ∈ pre, p.1 ≠ P) → (∀ p ∈ post, p.1 ≠ P) → UpdF P o (pre ++ (P, o) :: post) (fun o' => pre ++ (P, o') :: post)
  | [], _, _, h2 => .head h2
  | q :: r, _, h1, h2 => .tail (h1 q (.head _)) (updF_mid (fun p hp => h1 p (.tail _ hp)) h2)
theorem News.sub {g h : Heap} {L : Addr} {l l' : List (Addr × Obj)} (N : News g L h l) (k : ∀ p ∈ l', p ∈ l) : News g L h l' := fun p hp => N p (k p hp)
section
variable {M : Model} {A : Around} {E : Value → Shared → Prop} {s : Shared} {h₀ : Heap} {L a c P : Addr} {m mg mb : Str → Option Value} {cn : Str} {cs : Scope} {ccd : Value} {cl : List (Str × Addr)} {pre tl post : List (Addr × Obj)}
  {p : Program} {loose : List Str} {mean : ExcName → Option Value} {name qual : Str} {params : Arguments} {body : List Stmt} {scope : Scope} {pos : Pos} {firstLine : Nat} {clos : List (Str × Addr)}
theorem nest_any {Q : Value → Shared → Prop} (F : Fr h₀ L s.heap m) (N : News h₀ L s.heap (pre ++ (tl ++ post))) (T : Top p loose mean mg mb h₀) (C : CodeHd h₀ c P) (hcd : ccd = .ref c) (hT : Tab P pos.line pos.col qual tl)
    (hpre : ∀ q ∈ pre, q.1 ≠ P) (hpost : ∀ q ∈ post, q.1 ≠ P) (hcl : closureFor scope (envX cn cs L a ccd cl) = pure clos)
    (h : ∀ f c' oc vs t ctv doc h' tk, Fr h₀ L h' m →
      News h₀ L h' ((f, fnMade name qual params body scope clos doc ((mg "__name__").getD .none) c' ctv) :: (pre ++ ((P, tabObj #[rawInt pos.line, rawInt pos.col, .ref c']) :: (c', oc) :: post))) →
      oc.data = .fields vs → vs[1]? = some (.str qual t) → (∀ q ∈ pre ++ (tl ++ post), q.1 < f) → c' < f → ((∃ o, (c', o) ∈ tl) ∧ 178 < c' ∨ ∀ q ∈ pre ++ (tl ++ post), q.1 < c') → Q (.ref f) { s with heap := h', toks := tk }) :
    wpAny M A (makeFunction name qual params (.stmts body) scope (envX cn cs L a ccd cl) [] [] [] pos firstLine) Q E s := by
  rcases hT with rfl | ⟨c', oc, vs, t, rfl, hd, hv, hbig⟩
  · refine nest_K F N T C hcd (updF_mid hpre hpost) trivial rfl hcl fun f c' oc vs t ctv doc h' tk F' N' d1 d2 l1 l2 => ?_
    refine h f c' oc vs t ctv doc h' tk F' (News.sub N' fun q hq => ?_) d1 d2 (fun q hq => Nat.lt_trans (l1 q hq) l2) l2 (.inr l1)
    simp only [List.mem_cons, List.mem_append, List.cons_append, List.nil_append, Array.empty_append] at hq ⊢
    rcases hq with h | h | h | h | h
    · exact .inl h
    · exact .inr (.inr (.inl h))
    · exact .inr (.inr (.inr (.inl h)))
    · exact .inr (.inl h)
    · exact .inr (.inr (.inr (.inr h)))
  · have hm : (c', oc) ∈ pre ++ ([(P, tabObj #[rawInt pos.line, rawInt pos.col, .ref c']), (c', oc)] ++ post) := by simp
    refine nestHit_K (c' := c') (ps := #[rawInt pos.line, rawInt pos.col, .ref c']) F N T C hcd (by simp) trivial ?_ hcl fun f ctv doc h' tk F' N' l1 => ?_
    · simp [codeAmong, rawInt]
    · exact h f c' oc vs t ctv doc h' tk F' (News.sub N' fun q hq => by simpa using hq) hd hv l1 (l1 _ hm) (.inl ⟨⟨oc, by simp⟩, hbig⟩)
end

end
local macro_rules | `(tactic| k_all) => `(tactic| first | exact allne1 (by assumption) (Nat.le_succ _) | exact allne1 (by assumption) (Nat.le_trans (Nat.le_succ _) (Nat.le_succ _)) | exact allne1 (by assumption) (Nat.le_trans (Nat.le_succ _) (Nat.le_trans (Nat.le_succ _) (Nat.le_succ _))) | fail "k_all")
section
open PySem PySem.W PySem.W.X PyProof.Rows PySem.Calls
set_option maxRecDepth 100000
local macro_rules | `(tactic| walk_at "call ref") => `(tactic| refine hold_args (by with_reducible assumption) (by with_unfolding_all rfl) ?_)
theorem allne0 {L c : Addr} {news : List (Addr × Obj)} (h : ∀ p ∈ news, p.1 < L) (hc : L ≤ c) : ∀ p ∈ news, p.1 ≠ c := fun p hp => Nat.ne_of_lt (Nat.lt_of_lt_of_le (h p hp) hc)
end
local macro_rules | `(tactic| k_all) => `(tactic| first | exact allne0 (by assumption) (Nat.le_succ _) | exact allne0 (by assumption) (Nat.le_trans (Nat.le_succ _) (Nat.le_succ _)) | exact allne0 (by assumption) (Nat.le_trans (Nat.le_succ _) (Nat.le_trans (Nat.le_succ _) (Nat.le_succ _))) | fail "k_all")
section
open PySem PySem.W PySem.W.X PyProof.Rows PySem.Calls
set_option maxRecDepth 100000
local macro_rules | `(tactic| walk_at "call ref") => `(tactic| refine hold_args (by with_reducible assumption) (by with_unfolding_all rfl) ?_)
theorem fdiv1 {n : Nat} : ((n : Int) + 1 - 1).fdiv 1 = (n : Int) := by rw [Int.fdiv_eq_ediv_of_nonneg _ (by decide)]; omega
theorem rep_flat {W : Nat} {v : Value} : (List.replicate ((W : Int).toNat) [v]).flatten = List.replicate W v := by
  rw [Int.toNat_natCast]
  induction W with
  | zero => rfl
  | succ n ih => rw [List.replicate_succ, List.flatten_cons, ih]; rfl
abbrev ivals (ds : List (Int × Tok)) : Array Value := (ds.map fun p => Value.int p.1 p.2).toArray
theorem size_ivals (ds : List (Int × Tok)) : (ivals ds).size = ds.length := by simp
theorem len_I {prog : Program} {w : World} {A : Around} {E : Value → Shared → Prop} {s : Shared} {h₀ : Heap} {L : Addr} {news : List (Addr × Obj)} {Q : Value → Shared → Prop} {D : Addr} {us : List (Int × Tok)} {c : Nat}
    (N : News h₀ L s.heap news) (hm : (D, W.listOf (ivals us) c) ∈ news) (hf : us.length ≤ 4096)
    (h : Q (.int (us.length : Nat) (s.toks + 1)) { s with toks := s.toks + 1 + 1 }) : wpAny (model prog w) A (call (.builtin "len") [.ref D]) Q E s := by
  have e := size_ivals us
  refine Calls.call_len_list (News.isList N hm) (by omega) ?_
  rw [e]; exact h
end
local macro_rules | `(tactic| walk_at "call builtin:len") => `(tactic| ((with_reducible show wpAny _ _ (call (Value.builtin "len") [Value.ref _]) _ _ _); (refine len_I (by k_asm) (by k_mem) (by assumption) ?_)))
section
open PySem PySem.W PySem.W.X PyProof.Rows PySem.Calls
set_option maxRecDepth 100000
local macro_rules | `(tactic| walk_at "call ref") => `(tactic| refine hold_args (by with_reducible assumption) (by with_unfolding_all rfl) ?_)
theorem room9 {A : Around} (h : A.depth ≤ 989) : A.depth < recursionLimit := Nat.lt_of_le_of_lt h (by decide)
end
local macro_rules | `(tactic| k_room) => `(tactic| first | exact room9 (by assumption) | fail "k_room")
local macro_rules | `(tactic| walk_at "pad 1") => `(tactic| skip)
section
open PySem PySem.W PySem.W.X PyProof.Rows PySem.Calls
set_option maxRecDepth 100000
local macro_rules | `(tactic| walk_at "call ref") => `(tactic| refine hold_args (by with_reducible assumption) (by with_unfolding_all rfl) ?_)
theorem mul_zeros {prog : Program} {w : World} {A : Around} {E : Value → Shared → Prop} {s : Shared} {h₀ : Heap} {L : Addr} {m : Str → Option Value} {news : List (Addr × Obj)} {Q : Value → Shared → Prop} {l : Addr} {t u : Tok} {W : Nat}
    (F : Fr h₀ L s.heap m) (N : News h₀ L s.heap news) (hm : (l, PySem.W.listOf #[.int 0 t] 0) ∈ news) (hW : W ≤ 64)
    (h : ∀ D h' arr, arr.map (·.1) = List.replicate W (0 : Int) → Fr h₀ L h' m → News h₀ L h' ((D, PySem.W.listOf (ivals arr) 0) :: news) → (∀ p ∈ news, p.1 < D) → Q (.ref D) { s with heap := h' }) :
    wpAny (model prog w) A (binaryOp .Mult (.ref l) (.int (W : Int) u)) Q E s :=
  KMa.mul (vs := [.int 0 t]) (ws := List.replicate W (.int 0 t)) F N (News.isList N hm) (by omega) (by omega) (by simp; omega) rep_flat fun D h3 F3 N3 l3 =>
    h D h3 (List.replicate W (0, t)) (by simp) F3 (by simpa [ivals] using N3) l3
def bitsOf (n x : Nat) : List Int := (List.range n).map fun j => ((x / 2 ^ j % 2 : Nat) : Int)
def setBits (ds : List Int) (l n x : Nat) : List Int := ds.take l ++ bitsOf n x ++ ds.drop (l + n)
theorem kiset_some {l : List Value} {k : Nat} {v : Value} (h : k < l.length) : ki_setL l k v = some (l.set k v) := by
  induction l generalizing k with
  | nil => simp at h
  | cons x r ih =>
    cases k with
    | zero => rfl
    | succ k =>
      simp only [ki_setL, ih (Nat.lt_of_succ_lt_succ h), List.set_cons_succ]
theorem bitsOf_one {x : Nat} (h : x < 2) : bitsOf 1 x = [(x : Int)] := by
  simp [bitsOf, List.range_succ]; omega
theorem bitsOf_add (a b x : Nat) : bitsOf (a + b) x = bitsOf a (x % 2 ^ a) ++ bitsOf b (x / 2 ^ a) := by
  unfold bitsOf
  rw [List.range_add, List.map_append, List.map_map]
  congr 1
  · apply List.map_congr_left
    intro j hj
    have hj := List.mem_range.mp hj
    have e : x % 2 ^ a / 2 ^ j % 2 = x / 2 ^ j % 2 := by
      have h1 := Nat.testBit_mod_two_pow x a j
      simp only [Nat.testBit_eq_decide_div_mod_eq, hj, decide_true, Bool.true_and] at h1
      have h2 : x % 2 ^ a / 2 ^ j % 2 < 2 := Nat.mod_lt _ (by decide)
      have h3 : x / 2 ^ j % 2 < 2 := Nat.mod_lt _ (by decide)
      have h4 := decide_eq_decide.mp h1
      omega
    rw [e]
  · apply List.map_congr_left
    intro j _
    show ((x / 2 ^ (a + j) % 2 : Nat) : Int) = ((x / 2 ^ a / 2 ^ j % 2 : Nat) : Int)
    rw [Nat.div_div_eq_div_mul, Nat.pow_add]
theorem bitsOf_len {n x : Nat} : (bitsOf n x).length = n := by simp [bitsOf]
theorem setBits_one {ds : List Int} {l x : Nat} (hl : l < ds.length) (hx : x < 2) : setBits ds l 1 x = ds.set l (x : Int) := by
  unfold setBits
  rw [bitsOf_one hx, List.set_eq_take_append_cons_drop, if_pos hl]
  simp
theorem setBits_two {ds : List Int} {l a b x : Nat} (hl : l + a + b ≤ ds.length) : setBits (setBits ds l a (x % 2 ^ a)) (l + a) b (x / 2 ^ a) = setBits ds l (a + b) x := by
  unfold setBits
  have e1 : (ds.take l ++ bitsOf a (x % 2 ^ a)).length = l + a := by rw [List.length_append, List.length_take, bitsOf_len]; omega
  rw [List.take_append_of_le_length (by omega), ← e1, List.take_length, e1, bitsOf_add, List.drop_append, e1]
  have e2 : List.drop (l + a + b) (ds.take l ++ bitsOf a (x % 2 ^ a)) = [] := List.drop_eq_nil_of_le (by omega)
  rw [e2, List.nil_append, List.drop_drop]
  simp only [List.append_assoc]
  congr 3
  congr 1
  omega
theorem setBits_len {ds : List Int} {l n x : Nat} (h : l + n ≤ ds.length) : (setBits ds l n x).length = ds.length := by
  unfold setBits
  rw [List.length_append, List.length_append, List.length_take, List.length_drop, bitsOf_len]; omega
theorem icne {D cI fI Lc : Addr} {oF oc oi od on : Obj} {rest : List (Addr × Obj)} (h1 : @LT.lt Nat _ (Lc + 1 + 1 + 1) D) (h2 : cI ≠ D) (h3 : @LT.lt Nat _ D fI) (hne : ∀ p ∈ rest, p.1 ≠ D) :
    ∀ p ∈ (fI, oF) :: (cI, oc) :: (Lc + 1 + 1 + 1, oi) :: (Lc + 1 + 1, od) :: (Lc + 1, on) :: rest, p.1 ≠ D := fun p hp => by
  rcases List.mem_cons.mp hp with rfl | hp
  · exact Nat.ne_of_gt h3
  · rcases List.mem_cons.mp hp with rfl | hp
    · exact h2
    · rcases List.mem_cons.mp hp with rfl | hp
      · exact Nat.ne_of_lt h1
      · rcases List.mem_cons.mp hp with rfl | hp
        · exact Nat.ne_of_lt (Nat.lt_of_succ_lt h1)
        · rcases List.mem_cons.mp hp with rfl | hp
          · exact Nat.ne_of_lt (Nat.lt_of_succ_lt (Nat.lt_of_succ_lt h1))
          · exact hne p hp
def IC (w : World) (f' c' D Lc : Addr) (oF oc oi od on : Obj) : Prop :=
  ∀ (fuel : Nat) {A₀ : Around} {base h₀ : Heap} {outer : List Env} {L : Addr} {m : Str → Option Value} {rest : List (Addr × Obj)} {s : Shared}
    {dp un : Nat} {gd : Option (List Code)} {cn : Str} {nm : List (Str × NameKind)} {ig ic : Bool} {mr : List (Str × Const)} {a : Addr} {ccd : Value} {cl : List (Str × Addr)} {Q E : Value → Shared → Prop}
    (arr : List (Int × Tok)) (kk x l r : Nat) (tx tl tr : Tok), Cx w A₀ base outer h₀ L m ((D, W.listOf (ivals arr) kk) :: (f', oF) :: (c', oc) :: (Lc + 1 + 1 + 1, oi) :: (Lc + 1 + 1, od) :: (Lc + 1, on) :: rest) s →
    (∀ p ∈ rest, p.1 ≠ D) → dp + fuel ≤ 980 → un + 4 * fuel ≤ 9500 → r - l ≤ fuel → l < r → r ≤ arr.length → arr.length ≤ 64 → x < 2 ^ (r - l) →
    (∀ arr' kk' s', arr'.map (·.1) = setBits (arr.map (·.1)) l (r - l) x → Went s s' → Fr h₀ L s'.heap m →
      News h₀ L s'.heap ((D, W.listOf (ivals arr') kk') :: (f', oF) :: (c', oc) :: (Lc + 1 + 1 + 1, oi) :: (Lc + 1 + 1, od) :: (Lc + 1, on) :: rest) → Q .none s') →
    wpAny (model prg w) (ktrTop dp un gd cn (fS nm ig ic mr) L a ccd cl outer) (call (.ref f') [.int x tx, .int l tl, .int r tr]) Q E s
def qI2 : Str := Str.ofString "_int2digits" ++ ".<locals>." ++ Str.ofString "inner"
set_option maxHeartbeats 8000000 in
theorem i2d_spec' : Fill → ∀ {w : World} {A₀ : Around} {base h₀ : Heap} {outer : List Env} {L : Addr} {m : Str → Option Value} {tl news : List (Addr × Obj)} {s : Shared}
    {dp un : Nat} {gd : Option (List Code)} {cn : Str} {nm : List (Str × NameKind)} {ig ic : Bool} {mr : List (Str × Const)} {a : Addr} {ccd : Value} {cl : List (Str × Addr)} {Q E : Value → Shared → Prop}
    (_ : Cx w A₀ base outer h₀ L m (tl ++ news) s) (_ : CodeHd base 41 37) (_ : Tab 37 40 4 qI2 tl) (_ : ∀ p ∈ news, p.1 ≠ 37) (_ : dp ≤ 880) (_ : un ≤ 9000) (k : Nat) (t t1 : Tok) (_ : 0 < k) (_ : Builtin.Int.intBits k ≤ 64)
    (_ : ∀ D arr kk tl' s', arr.map (·.1) = bitsOf (Builtin.Int.intBits k) k → Tab 37 40 4 qI2 tl' → (∀ p ∈ tl' ++ news, p.1 ≠ D) → (∀ p ∈ news, p.1 < D) → Went s s' → Fr h₀ L s'.heap m → News h₀ L s'.heap ((D, PySem.W.listOf (ivals arr) kk) :: (tl' ++ news)) → Q (.ref D) s'),
    wpAny (model prg w) (ktrTop dp un gd cn (fS nm ig ic mr) L a ccd cl outer) (call (.ref 42) [.int k t, .int 1 t1]) Q E s := by
  unfold Fill
  k_fill
  intro _ w A₀ base h₀ outer L m tl news s dp un gd cn nm ig ic mr a ccd cl Q E C hC hT h37 hdp hun k t t1 hk hb hQ
  have hq1 := Held.mk "binaryOp Mult ref int"
  have hq2 := HeldArgs.mk 3
  have hq3 := Held.mk "binaryOp RShift int int"
  have hq4 := Held.mk "binaryOp LShift int int"
  have hq5 := Held.mk "binaryOp BitXor int int"
  have hq6 := Held.mk "setItem ref int"
  have hq7 := Held.mk "exec FunctionDef"
  obtain ⟨B, F, X, N, _, _, _, _, T⟩ := C
  refine room hdp hun ?_
  k_steps
  generalize hW : Builtin.Int.intBits (k : Int) = W at *
  rw [fdiv1]
  rename Fr _ _ _ _ => F2
  rename News _ _ _ _ => N2
  refine Hold.mk (mul_zeros F2 N2 (.head _) hb fun D h3 arr0 h0 F3 N3 l3 => ?_)
  clear F2 N2
  have hlen0 : arr0.length = W := by have := congrArg List.length h0; simpa using this
  have hlen : arr0.length ≤ 4096 := by omega
  k_lt l3
  k_steps
  rename_i g' L' h1 tk1 FG' B' X' T' lA o1 o2 o3 dA dB dC l0 h2 lB h3' od F5 N5 dD
  have hn : o3.data = .cell (some (.int 1 t1)) := dC
  have hP : @LT.lt Nat _ 37 L' := by obtain ⟨o, ho⟩ := hT.mem; exact lA _ (List.mem_append_left _ ho)
  have lN : ∀ p ∈ news, p.1 < L' := fun p hp => lA p (List.mem_append_right _ hp)
  have l3' := l3
  obtain ⟨e1, e2, e3, e4, e5⟩ := l3'
  obtain ⟨e6, e7, e8, e9⟩ := lB
  refine Hold.mk (nestDef_K rfl rfl rfl ?_)
  refine nest_any (P := 37) (pre := [(D, PySem.W.listOf (ivals arr0) 0), (l0, PySem.W.listOf #[.int 0 _] 0), (L' + 1 + 1 + 1, o1), (L' + 1 + 1, od), (L' + 1, o3)]) (tl := tl) (post := news) F5 N5 T' (CodeHd.keeps hC B'.stays) rfl hT ?_ h37 rfl ?_
  · intro q hq
    simp only [List.mem_cons, List.not_mem_nil, or_false] at hq
    rcases hq with rfl | rfl | rfl | rfl | rfl <;> (refine neN ?_; dsimp only; omega)
  intro fI cI oc vs tq ct dc h4 tk4 F6 N6 dE dF lF lD hcase
  simp only [List.cons_append, List.nil_append] at N6
  have h178 : @LT.lt Nat _ 178 L' := Nat.lt_of_lt_of_le (Heap.lt_size (X' 178 _ (by k_is))) F6.above
  have hbig : @LT.lt Nat _ 178 cI := hcase.elim (fun k => k.2) (fun k => Nat.lt_trans h178 (Nat.lt_trans (by omega : @LT.lt Nat _ L' (L' + 1 + 1 + 1)) (k (L' + 1 + 1 + 1, o1) (.tail _ (.tail _ (.head _))))))
  have hcI : @LT.lt Nat _ cI L' ∨ @LT.lt Nat _ D cI := hcase.imp (fun ⟨⟨o, ho⟩, _⟩ => lA _ (List.mem_append_left _ ho)) (fun k => k _ (.head _))
  have hDf : @LT.lt Nat _ D fI := lF _ (.head _)
  clear hcase F5 N5
  k_steps
  · rename_i h5 oi F5 N5 dG hk0
    obtain ⟨oF, hoF, N7⟩ : ∃ oF, oF = _ ∧ News g' L' h5 ((fI, oF) :: (D, PySem.W.listOf (ivals arr0) 0) :: (l0, PySem.W.listOf #[Value.int 0 _] 0) :: (L' + 1 + 1 + 1, oi) :: (L' + 1 + 1, od) :: (L' + 1, o3) :: (37, _) :: (cI, oc) :: news) := ⟨_, rfl, N5⟩
    have hcD : cI ≠ D := by refine neN ?_; omega
    have ic : IC w fI cI D L' oF oc oi od o3 := by
      subst hoF
      clear hQ N7 N5 F5
      intro fuel
      induction fuel with
      | zero => intro _ _ _ _ _ _ _ _ _ _ _ _ _ _ _ _ _ _ _ _ _ _ _ _ _ _ _ _ _ _ _ _ h1 h2; omega
      | succ fuel ih =>
        intro A9 base9 h9 outer9 L9 m9 rest9 s9 dp9 un9 gd9 cn9 nm9 ig9 ic9 mr9 a9 ccd9 cl9 Q9 E9 arr kk x l r tx tl tr C9 hne hdp9 hun9 hspan hlr hr h64 hx hQ9
        obtain ⟨B9, F9, X9, N9, _, _, _, _, T9⟩ := C9
        have r0 : dp9 ≤ 989 := by omega
        have r1 : dp9 + 1 ≤ 989 := by omega
        kn_here
        refine wpAny_call ?_
        kn_enter
        k_steps
        · rename Fr _ _ _ _ => F8
          rename News _ _ _ _ => N8
          have hr1 : l + 1 = r := by omega
          have hll : l < ((arr.map fun p => Value.int p.1 p.2).toArray).toList.length := by simp; omega
          refine Hold.mk (ki_set F8 N8 (by omega) (by omega) (kiset_some hll) (.head ?_) fun h5 F5 N5 => ?_)
          · exact icne e2 hcD hDf hne
          · k_steps
            rename Fr _ _ _ _ => F6
            rename News _ _ _ _ => N6
            have hx2 : x < 2 := by rw [← hr1] at hx; simpa using hx
            refine hQ9 (arr.set l ((x : Int), tx)) kk _ ?_ (Went.refl.go rfl rfl) F6 ?_
            · rw [List.map_set, show r - l = 1 by omega, setBits_one (by rw [List.length_map]; omega) hx2]
            · intro p hp
              rcases List.mem_cons.mp hp with rfl | hp
              · have := N6 _ (.head _)
                simpa [ivals, List.map_set] using this
              · exact N6 p (.tail _ hp)
        · have hmd : l < (l + r) / 2 ^ 1 ∧ (l + r) / 2 ^ 1 < r := by
            rw [Nat.pow_one]; omega
          refine Hold.mk (rshift_nat (x := l + r) (k := 1) (by omega) rfl ?_)
          generalize (l + r) / 2 ^ 1 = md at *
          k_steps
          refine Hold.mk (rshift_nat (x := x) (k := md - l) rfl (by omega) ?_)
          have hx64 : x < 2 ^ 64 := Nat.lt_of_lt_of_le hx (Nat.pow_le_pow_right (by decide) (by omega))
          k_steps
          refine Hold.mk (lshift_nat (x := x / 2 ^ (md - l)) (k := md - l) rfl (by omega) (Nat.lt_of_le_of_lt (Nat.div_le_self _ _) hx64) (by omega) ?_)
          k_steps
          refine Hold.mk (xor_low rfl rfl ?_)
          k_steps
          rename Fr _ _ _ _ => F6
          rename News _ _ _ _ => N6
          rename Below _ _ _ _ => B6
          rename Frag.In _ _ => X6
          rename Top _ _ _ _ _ _ => T6
          refine Hold.mk (ih (dp := dp9 + 1) (un := un9 + 3) (s := ⟨_, s9.gens, s9.drawn, _, s9.os⟩) arr kk (x % 2 ^ (md - l)) l md _ _ _ ⟨B6, F6, X6, N6, _, _, _, _, T6⟩ hne (by omega) (by omega) (by omega) hmd.1 (by omega) h64 (Nat.mod_lt _ (Nat.two_pow_pos _)) ?_)
          intro arr2 kk2 s5 hset2 W5 F7 N7
          clear F6 N6
          k_steps
          have hl2 : arr2.length = arr.length := by
            have := congrArg List.length hset2
            rw [List.length_map, setBits_len (by rw [List.length_map]; omega), List.length_map] at this
            exact this
          refine Hold.mk (ih (dp := dp9 + 1) (un := un9 + 3) (s := ⟨_, s5.gens, s5.drawn, _, s5.os⟩) arr2 kk2 (x / 2 ^ (md - l)) md r _ _ _ ⟨B6, F7, X6, N7, _, _, _, _, T6⟩ hne (by omega) (by omega) (by omega) hmd.2 (by omega) (by omega) ?_ ?_)
          · rw [show r - l = (md - l) + (r - md) by omega, Nat.pow_add] at hx
            exact Nat.div_lt_of_lt_mul hx
          · intro arr3 kk3 s6 hset3 W6 F8 N8
            clear F7 N7
            k_steps
            rename Fr _ _ _ _ => F10
            rename News _ _ _ _ => N10
            refine hQ9 arr3 kk3 _ ?_ ((show Went s9 s5 from ⟨W5.os, W5.gens⟩).trans ((show Went s5 s6 from ⟨W6.os, W6.gens⟩).go rfl rfl)) F10 N10
            have e := setBits_two (ds := arr.map (·.1)) (l := l) (a := md - l) (b := r - md) (x := x) (by rw [List.length_map]; omega)
            rw [hset3, hset2]
            rw [show l + (md - l) = md by omega, show md - l + (r - md) = r - l by omega] at e
            exact e
    have hWp : k < 2 ^ W := by
      rw [← hW]
      unfold Builtin.Int.intBits
      rw [if_neg (by simpa using hk0)]
      exact Nat.lt_log2_self
    have hW1 : 0 < arr0.length := by
      rcases Nat.eq_zero_or_pos W with h | h
      · rw [h] at hWp; simp at hWp; omega
      · omega
    have N8 := News.sub N7 (l' := (D, PySem.W.listOf (ivals arr0) 0) :: (fI, oF) :: (cI, oc) :: (L' + 1 + 1 + 1, oi) :: (L' + 1 + 1, od) :: (L' + 1, o3) :: (l0, PySem.W.listOf #[Value.int 0 _] 0) :: (37, _) :: news) (fun p hp => by
      simp only [List.mem_cons] at hp ⊢
      rcases hp with h | h | h | h | h | h | h | h | h
      · exact .inr (.inl h)
      · exact .inl h
      · exact .inr (.inr (.inr (.inr (.inr (.inr (.inr (.inl h)))))))
      · exact .inr (.inr (.inr (.inl h)))
      · exact .inr (.inr (.inr (.inr (.inl h))))
      · exact .inr (.inr (.inr (.inr (.inr (.inl h)))))
      · exact .inr (.inr (.inl h))
      · exact .inr (.inr (.inr (.inr (.inr (.inr (.inl h))))))
      · exact .inr (.inr (.inr (.inr (.inr (.inr (.inr (.inr h))))))))
    refine Hold.mk (ic arr0.length (dp := 881) (un := 9003) (s := ⟨h5, s.gens, s.drawn, _, s.os⟩) arr0 0 k 0 arr0.length _ _ _ ⟨B', F5, X', N8, _, _, _, _, T'⟩ ?_ (by omega) (by omega) (by omega) (by omega) (Nat.le_refl _) (by omega) (by rw [hlen0]; exact hWp) ?_)
    · intro p hp
      rcases List.mem_cons.mp hp with rfl | hp
      · refine neN ?_; dsimp only; omega
      · rcases List.mem_cons.mp hp with rfl | hp
        · refine neN ?_; dsimp only; omega
        · exact Nat.ne_of_lt (Nat.lt_trans (lN p hp) (by omega))
    · intro arr2 kk2 s6 hset W6 F7 N9
      clear F5 N5 N7 N8
      k_steps
      rename News _ _ _ _ => N10
      refine hQ D arr2 kk2 [(37, tabObj #[rawInt (40 : Nat), rawInt (4 : Nat), .ref cI]), (cI, oc)] _ ?_ (.inr ⟨cI, oc, vs, tq, rfl, dE, dF, hbig⟩) ?_ (fun p hp => Nat.lt_trans (lN p hp) (by omega)) ((show Went s s6 from ⟨W6.os, W6.gens⟩).go rfl rfl) (by k_asm) ?_
      · rw [hset, h0, hlen0, Nat.sub_zero]
        unfold setBits
        simp
      · intro p hp
        rcases List.mem_cons.mp hp with rfl | hp
        · refine neN ?_; dsimp only; omega
        · rcases List.mem_cons.mp hp with rfl | hp
          · exact hcD
          · exact Nat.ne_of_lt (Nat.lt_trans (lN p hp) (by omega))
      · refine News.sub N10 fun p hp => ?_
        rcases List.mem_cons.mp hp with rfl | hp
        · exact .head _
        · rcases List.mem_cons.mp hp with rfl | hp
          · exact .tail _ (.tail _ (.tail _ (.tail _ (.tail _ (.tail _ (.tail _ (.head _)))))))
          · rcases List.mem_cons.mp hp with rfl | hp
            · exact .tail _ (.tail _ (.head _))
            · exact .tail _ (.tail _ (.tail _ (.tail _ (.tail _ (.tail _ (.tail _ (.tail _ hp)))))))
  · rename (k : Int) = 0 => hk0
    omega

end
section
open PySem PySem.W PySem.W.X PyProof.Rows PySem.Calls
set_option maxRecDepth 100000
local macro_rules | `(tactic| walk_at "call ref") => `(tactic| ((with_reducible show wpAny _ _ (call (Value.ref _) [Value.int _ _, Value.int _ _]) _ _ _); refine Hold.out ?_))
local macro_rules | `(tactic| walk_at "subscriptTail") => `(tactic| ((with_reducible show wpAny _ _ (subscriptTail _ _ (Value.ref _) (Value.int _ _)) _ _ _); refine Hold.out ?_))
theorem slice_split {ds : List Int} {l a b y : Nat} (hl : l + a + b ≤ ds.length) (h : (ds.drop l).take (a + b) = bitsOf (a + b) y) :
    (ds.drop l).take a = bitsOf a (y % 2 ^ a) ∧ (ds.drop (l + a)).take b = bitsOf b (y / 2 ^ a) := by
  rw [bitsOf_add, List.take_add, List.drop_drop] at h
  exact List.append_inj h (by rw [List.length_take, List.length_drop, bitsOf_len]; omega)
theorem slice_first {arr : List (Int × Tok)} {l y : Nat} (hy : y < 2) (h : ((arr.map (·.1)).drop l).take 1 = bitsOf 1 y) : ∃ t, (ivals arr)[l]? = some (.int y t) := by
  rw [bitsOf_one hy, ← List.map_drop, ← List.map_take] at h
  cases hd : arr.drop l with
  | nil => rw [hd] at h; exact nomatch h
  | cons p r =>
    rw [hd] at h
    simp only [List.take_succ_cons, List.take_zero, List.map_cons, List.map_nil, List.cons.injEq, and_true] at h
    refine ⟨p.2, ?_⟩
    have e : arr[l]? = some p := by
      have := congrArg (fun z : List (Int × Tok) => z[0]?) hd
      simpa using this
    simp [ivals, e, h]
def IC2 (w : World) (f' c' U Lc : Addr) (oF oc oi on od : Obj) : Prop :=
  ∀ (fuel : Nat) {A₀ : Around} {base h₀ : Heap} {outer : List Env} {L : Addr} {m : Str → Option Value} {rest : List (Addr × Obj)} {s : Shared}
    {dp un : Nat} {gd : Option (List Code)} {cn : Str} {nm : List (Str × NameKind)} {ig ic : Bool} {mr : List (Str × Const)} {a : Addr} {ccd : Value} {cl : List (Str × Addr)} {Q E : Value → Shared → Prop}
    (arr : List (Int × Tok)) (kk l r y : Nat) (tl tr : Tok), Cx w A₀ base outer h₀ L m ((f', oF) :: (c', oc) :: (Lc + 1 + 1 + 1, oi) :: (Lc + 1 + 1, on) :: (Lc + 1, od) :: (U, W.listOf (ivals arr) kk) :: rest) s →
    dp + fuel ≤ 980 → un + 4 * fuel ≤ 9500 → r - l ≤ fuel → l < r → r ≤ arr.length → arr.length ≤ 64 → y < 2 ^ (r - l) → ((arr.map (·.1)).drop l).take (r - l) = bitsOf (r - l) y →
    (∀ ty s', Went s s' → Fr h₀ L s'.heap m → News h₀ L s'.heap ((f', oF) :: (c', oc) :: (Lc + 1 + 1 + 1, oi) :: (Lc + 1 + 1, on) :: (Lc + 1, od) :: (U, W.listOf (ivals arr) kk) :: rest) → Q (.int y ty) s') →
    wpAny (model prg w) (ktrTop dp un gd cn (fS nm ig ic mr) L a ccd cl outer) (call (.ref f') [.int l tl, .int r tr]) Q E s
def qI3 : Str := Str.ofString "_digits2int" ++ ".<locals>." ++ Str.ofString "inner"
set_option maxHeartbeats 8000000 in
theorem d2i_spec' : Fill → ∀ {w : World} {A₀ : Around} {base h₀ : Heap} {outer : List Env} {L : Addr} {m : Str → Option Value} {tl news : List (Addr × Obj)} {s : Shared}
    {dp un : Nat} {gd : Option (List Code)} {cn : Str} {nm : List (Str × NameKind)} {ig ic : Bool} {mr : List (Str × Const)} {a : Addr} {ccd : Value} {cl : List (Str × Addr)} {Q E : Value → Shared → Prop}
    (_ : Cx w A₀ base outer h₀ L m (tl ++ news) s) (_ : CodeHd base 48 44) (_ : Tab 44 55 4 qI3 tl) (_ : ∀ p ∈ news, p.1 ≠ 44) (_ : dp ≤ 880) (_ : un ≤ 9000) (U : Addr) (arr : List (Int × Tok)) (kk y : Nat) (t1 : Tok) (_ : (U, PySem.W.listOf (ivals arr) kk) ∈ news)
    (_ : arr.map (·.1) = bitsOf arr.length y) (_ : y < 2 ^ arr.length) (_ : 0 < arr.length) (_ : arr.length ≤ 64)
    (_ : ∀ ty tl' s', Tab 44 55 4 qI3 tl' → Went s s' → Fr h₀ L s'.heap m → News h₀ L s'.heap (tl' ++ news) → Q (.int y ty) s'),
    wpAny (model prg w) (ktrTop dp un gd cn (fS nm ig ic mr) L a ccd cl outer) (call (.ref 49) [.ref U, .int 1 t1]) Q E s := by
  unfold Fill
  k_fill
  intro _ w A₀ base h₀ outer L m tl news s dp un gd cn nm ig ic mr a ccd cl Q E C hC hT h44 hdp hun U arr kk y t1 hU hbits hy hpos hlen hQ
  have hq1 := Held.mk "binaryOp RShift int int"
  have hq2 := Held.mk "binaryOp LShift int int"
  have hq3 := Held.mk "exec FunctionDef"
  have hq4 := Held.mk "truthy ref"
  obtain ⟨B, F, X, N0, _, _, _, _, T⟩ := C
  have N : News h₀ L s.heap ((U, PySem.W.listOf (ivals arr) kk) :: (tl ++ news)) := fun p hp => (List.mem_cons.mp hp).elim (fun e => e ▸ N0 _ (List.mem_append_right _ hU)) (N0 p)
  clear N0
  refine room hdp hun ?_
  have hl4 : arr.length ≤ 4096 := Nat.le_trans hlen (by decide)
  k_steps
  rename_i g' L' h1 tk1 FG' F5 B' X' T' lA o1 o2 o3 dA dB dC N5
  have hn : o2.data = .cell (some (.int 1 t1)) := dB
  have hdg : o3.data = .cell (some (.ref U)) := dC
  have lA2 : ∀ p ∈ tl ++ news, p.1 < L' := allLt_all lA.2
  have hP : @LT.lt Nat _ 44 L' := by obtain ⟨o, ho⟩ := hT.mem; exact lA2 _ (List.mem_append_left _ ho)
  have lN : ∀ p ∈ news, p.1 < L' := fun p hp => lA2 p (List.mem_append_right _ hp)
  have hUL : @LT.lt Nat _ U L' := lA.1
  have hU44 : U ≠ 44 := h44 _ hU
  refine Hold.mk (nestDef_K rfl rfl rfl ?_)
  refine nest_any (P := 44) (pre := [(L' + 1 + 1 + 1, o1), (L' + 1 + 1, o2), (L' + 1, o3), (U, W.listOf (ivals arr) kk)]) (tl := tl) (post := news) F5 N5 T' (CodeHd.keeps hC B'.stays) rfl hT ?_ h44 rfl ?_
  · intro q hq
    simp only [List.mem_cons, List.not_mem_nil, or_false] at hq
    rcases hq with rfl | rfl | rfl | rfl
    · refine neN ?_; dsimp only; omega
    · refine neN ?_; dsimp only; omega
    · refine neN ?_; dsimp only; omega
    · exact hU44
  intro fI cI oc vs tq ct dc h4 tk4 F6 N6 dE dF lF lD hcase
  simp only [List.cons_append, List.nil_append] at N6
  have h178 : @LT.lt Nat _ 178 L' := Nat.lt_of_lt_of_le (Heap.lt_size (X' 178 _ (by k_is))) F6.above
  have hbig : @LT.lt Nat _ 178 cI := hcase.elim (fun k => k.2) (fun k => Nat.lt_trans h178 (Nat.lt_trans (by omega : @LT.lt Nat _ L' (L' + 1 + 1 + 1)) (k (L' + 1 + 1 + 1, o1) (.head _))))
  have hcI : @LT.lt Nat _ cI L' ∨ @LT.lt Nat _ (L' + 1 + 1 + 1) cI := hcase.imp (fun ⟨⟨o, ho⟩, _⟩ => lA2 _ (List.mem_append_left _ ho)) (fun k => k _ (.head _))
  have hLf : @LT.lt Nat _ (L' + 1 + 1 + 1) fI := lF _ (.head _)
  clear hcase F5 N5
  k_steps
  rename_i h5 oi F5 N5 dG
  have hmU : (U, W.listOf (ivals arr) kk) ∈ ((U, W.listOf (ivals arr) kk) :: (44, tabObj #[rawInt (55 : Nat), rawInt (4 : Nat), .ref cI]) :: (cI, oc) :: news) := .head _
  refine Hold.mk (wpAny_truthy_list (News.isList N5 (.tail _ (.tail _ (.tail _ (.tail _ hmU))))) (by rw [size_ivals]; omega) ?_)
  have hne : (!(ivals arr).isEmpty) = true := by
    have := size_ivals arr
    cases h : (ivals arr).isEmpty with
    | false => rfl
    | true => rw [Array.isEmpty_iff_size_eq_zero] at h; omega
  rw [hne]
  k_steps
  obtain ⟨oF, hoF, N7⟩ : ∃ oF, oF = _ ∧ News g' L' h5 ((fI, oF) :: (L' + 1 + 1 + 1, oi) :: (L' + 1 + 1, o2) :: (L' + 1, o3) :: (U, W.listOf (ivals arr) kk) :: (44, _) :: (cI, oc) :: news) := ⟨_, rfl, N5⟩
  have ic : IC2 w fI cI U L' oF oc oi o2 o3 := by
    subst hoF
    clear hQ N7 N5 F5 hbits hy hpos hlen hU hne hmU hl4
    intro fuel
    induction fuel with
    | zero => intro _ _ _ _ _ _ _ _ _ _ _ _ _ _ _ _ _ _ _ _ _ _ _ _ _ _ _ _ _ _ h1 h2; omega
    | succ fuel ih =>
      intro A9 base9 h9 outer9 L9 m9 rest9 s9 dp9 un9 gd9 cn9 nm9 ig9 ic9 mr9 a9 ccd9 cl9 Q9 E9 arr kk l r y tl9 tr9 C9 hdp9 hun9 hspan hlr hr h64 hy hsl hQ9
      obtain ⟨B9, F9, X9, N9, _, _, _, _, T9⟩ := C9
      have r0 : dp9 ≤ 989 := by omega
      have r1 : dp9 + 1 ≤ 989 := by omega
      kn_here
      refine wpAny_call ?_
      kn_enter
      k_steps
      · rename Fr _ _ _ _ => F8
        rename News _ _ _ _ => N8
        have hr1 : r - l = 1 := by omega
        rw [hr1] at hsl hy
        obtain ⟨ty, hit⟩ := slice_first (by simpa using hy) hsl
        refine Hold.mk (item_list (News.isList N8 (.tail _ (.tail _ (.tail _ (.tail _ (.tail _ (.head _))))))) (by omega) (by omega) (by rw [Int.toNat_natCast]; exact hit) ?_)
        k_steps
        exact hQ9 ty _ (Went.refl.go rfl rfl) (by k_asm) (by k_asm)
      · have hmd : l < (l + r) / 2 ^ 1 ∧ (l + r) / 2 ^ 1 < r := by
          rw [Nat.pow_one]; omega
        refine Hold.mk (rshift_nat (x := l + r) (k := 1) (by omega) rfl ?_)
        generalize (l + r) / 2 ^ 1 = md at *
        have hy64 : y < 2 ^ 64 := Nat.lt_of_lt_of_le hy (Nat.pow_le_pow_right (by decide) (by omega))
        rw [show r - l = (md - l) + (r - md) by omega] at hsl hy
        obtain ⟨hs1, hs2⟩ := slice_split (by rw [List.length_map]; omega) hsl
        rw [show l + (md - l) = md by omega] at hs2
        k_steps
        rename Fr _ _ _ _ => F8
        rename News _ _ _ _ => N8
        rename Below _ _ _ _ => B8
        rename Frag.In _ _ => X8
        rename Top _ _ _ _ _ _ => T8
        refine Hold.mk (ih (dp := dp9 + 1) (un := un9 + 3) (s := ⟨_, s9.gens, s9.drawn, _, s9.os⟩) arr kk md r (y / 2 ^ (md - l)) _ _ ⟨B8, F8, X8, N8, _, _, _, _, T8⟩ (by omega) (by omega) (by omega) hmd.2 (by omega) h64 (Nat.div_lt_of_lt_mul (by rw [← Nat.pow_add]; exact hy)) hs2 ?_)
        intro ty5 s5 W5 F10 N10
        clear F8 N8
        k_steps
        refine Hold.mk (lshift_nat (x := y / 2 ^ (md - l)) (k := md - l) rfl (by omega) (Nat.lt_of_le_of_lt (Nat.div_le_self _ _) hy64) (by omega) ?_)
        k_steps
        refine Hold.mk (ih (dp := dp9 + 1) (un := un9 + 3) (s := ⟨_, s5.gens, s5.drawn, _, s5.os⟩) arr kk l md (y % 2 ^ (md - l)) _ _ ⟨B8, F10, X8, N10, _, _, _, _, T8⟩ (by omega) (by omega) (by omega) hmd.1 (by omega) h64 (Nat.mod_lt _ (Nat.two_pow_pos _)) hs1 ?_)
        intro ty6 s6 W6 F12 N12
        clear F10 N10
        k_steps
        have e : ((y / 2 ^ (md - l) * 2 ^ (md - l) : Nat) : Int) + ((y % 2 ^ (md - l) : Nat) : Int) = (y : Int) := by
          rw [← Int.natCast_add, Nat.div_add_mod']
        rw [e]
        exact hQ9 _ _ ((show Went s9 s5 from ⟨W5.os, W5.gens⟩).trans ((show Went s5 s6 from ⟨W6.os, W6.gens⟩).go rfl rfl)) (by k_asm) (by k_asm)
  have N8 := News.sub N7 (l' := (fI, oF) :: (cI, oc) :: (L' + 1 + 1 + 1, oi) :: (L' + 1 + 1, o2) :: (L' + 1, o3) :: (U, W.listOf (ivals arr) kk) :: (44, _) :: news) (fun p hp => by
    simp only [List.mem_cons] at hp ⊢
    rcases hp with h | h | h | h | h | h | h | h
    · exact .inl h
    · exact .inr (.inr (.inr (.inr (.inr (.inr (.inl h))))))
    · exact .inr (.inl h)
    · exact .inr (.inr (.inl h))
    · exact .inr (.inr (.inr (.inl h)))
    · exact .inr (.inr (.inr (.inr (.inl h))))
    · exact .inr (.inr (.inr (.inr (.inr (.inl h)))))
    · exact .inr (.inr (.inr (.inr (.inr (.inr (.inr h)))))))
  refine Hold.mk (ic arr.length (dp := 881) (un := 9003) (s := ⟨h5, s.gens, s.drawn, _, s.os⟩) arr kk 0 arr.length y _ _ ⟨B', F5, X', N8, _, _, _, _, T'⟩ (by omega) (by omega) (by omega) (by omega) (Nat.le_refl _) hlen hy ?_ ?_)
  · rw [List.drop_zero, Nat.sub_zero, ← hbits]
    exact List.take_of_length_le (by rw [List.length_map]; exact Nat.le_refl _)
  · intro ty s6 W6 F7 N9
    clear F5 N5 N7 N8
    k_steps
    rename News _ _ _ _ => N10
    refine hQ ty [(44, tabObj #[rawInt (55 : Nat), rawInt (4 : Nat), .ref cI]), (cI, oc)] _ (.inr ⟨cI, oc, vs, tq, rfl, dE, dF, hbig⟩) ((show Went s s6 from ⟨W6.os, W6.gens⟩).go rfl rfl) (by k_asm) ?_
    refine News.sub N10 fun p hp => ?_
    rcases List.mem_cons.mp hp with rfl | hp
    · exact .tail _ (.tail _ (.tail _ (.tail _ (.tail _ (.tail _ (.head _))))))
    · rcases List.mem_cons.mp hp with rfl | hp
      · exact .tail _ (.head _)
      · exact .tail _ (.tail _ (.tail _ (.tail _ (.tail _ (.tail _ (.tail _ hp))))))

end
section
open PySem PySem.W PySem.W.X PyProof.Rows PySem.Calls
set_option maxRecDepth 100000
theorem lay_bits : ∀ ns : List Int, (∀ n ∈ ns, n = 0 ∨ n = 1) → PyData.canLayAll0 (ns.map .int) = true ∧ PyData.depthAll (ns.map .int) = 0 ∧ PyData.weightAll (ns.map .int) ≤ 2 * ns.length
  | [], _ => ⟨rfl, rfl, Nat.le_refl _⟩
  | n :: r, h => by
    obtain ⟨h1, h2, h3⟩ := lay_bits r fun m hm => h m (.tail _ hm)
    refine ⟨by simpa [PyData.canLayAll0, PyData.canLay0] using h1, by simp [PyData.depthAll, PyData.depth, h2], ?_⟩
    have hw : PyData.weight (.int n) ≤ 1 := by
      rcases h n (.head _) with rfl | rfl <;> decide
    simp only [List.map_cons, PyData.weightAll, List.length_cons]
    omega
theorem lay_list {ns : List Int} (h : ∀ n ∈ ns, n = 0 ∨ n = 1) (hl : ns.length ≤ 64) : PyData.layable0 (.list (ns.map .int)) = true := by
  obtain ⟨h1, h2, h3⟩ := lay_bits ns h
  unfold PyData.layable0
  simp only [PyData.canLay0, PyData.depth, PyData.weight, h1, h2, Bool.true_and, Bool.and_eq_true, decide_eq_true_eq]
  exact ⟨by decide, decide_eq_true (Nat.le_trans h3 (Nat.le_trans (Nat.mul_le_mul_left 2 hl) (show 2 * 64 ≤ 2 ^ 20 by decide)))⟩
theorem bits_01 {n x : Nat} : ∀ b ∈ bitsOf n x, b = 0 ∨ b = 1 := fun b hb => by
  obtain ⟨j, _, rfl⟩ := List.mem_map.mp hb
  omega
theorem bits_idx : ∀ (W k : Nat), 0 < k → k < 2 ^ W → (bitsOf W k).idxOf 1 < W ∧ k / 2 ^ ((bitsOf W k).idxOf 1) = oddP k
  | 0, k, h0, h => by simp at h; omega
  | W + 1, k, h0, h => by
    have e : bitsOf (W + 1) k = ((k % 2 : Nat) : Int) :: bitsOf W (k / 2) := by
      rw [Nat.add_comm, bitsOf_add, Nat.pow_one, bitsOf_one (Nat.mod_lt _ (by decide))]
      rfl
    rw [e]
    rcases Nat.mod_two_eq_zero_or_one k with hk | hk
    · have ih := bits_idx W (k / 2) (by omega) (by rw [Nat.pow_succ] at h; omega)
      rw [hk, show (((0 : Nat) : Int) :: bitsOf W (k / 2)).idxOf 1 = (bitsOf W (k / 2)).idxOf 1 + 1 by simp [List.idxOf_cons]]
      refine ⟨Nat.succ_lt_succ ih.1, ?_⟩
      rw [oddP_even hk h0, ← ih.2, Nat.div_div_eq_div_mul, Nat.pow_succ, Nat.mul_comm]
    · rw [hk]
      simp only [Int.cast_ofNat_Int, List.idxOf_cons_self]
      exact ⟨Nat.succ_pos _, by rw [Nat.pow_zero, Nat.div_one, oddP_odd hk]⟩
theorem ints_are : ∀ ps : List (Int × Tok), IntsAre (ps.map fun p => Value.int p.1 p.2) (ps.map (·.1))
  | [] => .nil
  | _ :: r => .cons _ _ (ints_are r)
set_option maxHeartbeats 8000000 in
theorem shorn_spec' : Fill → ∀ {w : World} {A₀ : Around} {base h₀ : Heap} {outer : List Env} {L : Addr} {m : Str → Option Value} {t1 t2 news : List (Addr × Obj)} {s : Shared}
    {dp un : Nat} {gd : Option (List Code)} {cn : Str} {nm : List (Str × NameKind)} {ig ic : Bool} {mr : List (Str × Const)} {a : Addr} {ccd : Value} {cl : List (Str × Addr)} {Q E : Value → Shared → Prop}
    (_ : Cx w A₀ base outer h₀ L m (t1 ++ (t2 ++ news)) s) (_ : CodeHd base 41 37) (_ : CodeHd base 48 44) (_ : Tab 37 40 4 qI2 t1) (_ : Tab 44 55 4 qI3 t2) (_ : ∀ p ∈ news, p.1 ≠ 37 ∧ p.1 ≠ 44) (_ : dp ≤ 860) (_ : un ≤ 8900) (k : Nat) (t : Tok) (_ : 0 < k) (_ : Builtin.Int.intBits k ≤ 64)
    (_ : ∀ ty t1' t2' s', Tab 37 40 4 qI2 t1' → Tab 44 55 4 qI3 t2' → Went s s' → Fr h₀ L s'.heap m → News h₀ L s'.heap (t1' ++ (t2' ++ news)) → Q (.int (oddP k) ty) s'),
    wpAny (model prg w) (ktrTop dp un gd cn (fS nm ig ic mr) L a ccd cl outer) (call (.ref 166) [.int k t]) Q E s := by
  unfold Fill
  k_fill
  intro _ w A₀ base h₀ outer L m t1 t2 news s dp un gd cn nm ig ic mr a ccd cl Q E C hC1 hC2 hT1 hT2 hne hdp hun k t hk hb hQ
  have hq1 := HeldCall.mk 42
  have hq2 := HeldCall.mk 49
  have hq3 := Held.mk "call builtin:list.index"
  have hq4 := Held.mk "subscriptTail Name Slice ref ref"
  obtain ⟨B, F, X, N, _, _, _, _, T⟩ := C
  refine room hdp hun ?_
  k_steps
  rename Fr _ _ _ _ => F2
  rename News _ _ _ _ => N2
  rename Below _ _ (_ :: _) _ => B2
  rename Frag.In _ _ => X2
  rename Top _ _ _ _ _ _ => T2
  have hne37 : ∀ p ∈ t2 ++ news, p.1 ≠ 37 := fun p hp => (List.mem_append.mp hp).elim (hT2.ne (by decide) (by decide) p) fun h => (hne p h).1
  refine Hold.mk (i2d_spec' (dp := 861) (un := 8903) (s := ⟨_, s.gens, s.drawn, _, s.os⟩) fill ⟨B2, F2, X2, N2, _, _, _, _, T2⟩ hC1 hT1 hne37 (by decide) (by decide) k _ _ hk hb ?_)
  intro D arr kk t1' s3 hbits hT1' hDne hDlt W3 F3 N3
  clear F2 N2
  have hWp : k < 2 ^ (Builtin.Int.intBits (k : Int)) := by
    unfold Builtin.Int.intBits
    rw [if_neg (by simp; omega)]
    exact Nat.lt_log2_self
  generalize Builtin.Int.intBits (k : Int) = W at *
  have hal : arr.length = W := by have := congrArg List.length hbits; rwa [List.length_map, bitsOf_len] at this
  obtain ⟨hi1, hi2⟩ := bits_idx W k hk hWp
  have hmem : (1 : Int) ∈ bitsOf W k := List.idxOf_lt_length_iff.mp (by rw [bitsOf_len]; exact hi1)
  k_steps
  rename Fr _ _ _ _ => F4
  rename News _ _ _ _ => N4
  refine Hold.mk (index_list_ints (News.isList N4 (.head _)) (ints_are arr) (by rw [hbits]; exact lay_list bits_01 (by rw [bitsOf_len]; exact hb)) (by rw [hbits]; exact hmem) ?_)
  rw [hbits]
  generalize hj : (bitsOf W k).idxOf 1 = j at *
  k_steps
  refine Hold.mk (slice_list (lo := some (j : Int)) (hi := none) F4 N4 (News.isList N4 (.head _)) (.int _ _) .none (fun h5 F5 N5 => ?_) (hsz := by rw [size_ivals, hal]; exact Nat.le_trans hb (by decide)))
  have e1 : PySem.slicePick (ivals arr) (some (j : Int)) none none = ivals (arr.drop j) := by
    rw [PySem.slicePick_from _ _ (by rw [size_ivals]; omega)]
    simp [ivals]
  dsimp only at N5
  rw [e1] at N5
  have hbits2 : (arr.drop j).map (·.1) = bitsOf (W - j) (k / 2 ^ j) := by
    rw [List.map_drop, hbits, show bitsOf W k = bitsOf (j + (W - j)) k by congr 1; omega, bitsOf_add]
    exact List.drop_left' bitsOf_len
  obtain ⟨o44, ho44⟩ := hT2.mem
  have hlt := Heap.lt_size (N4 (44, o44) (.tail _ (List.mem_append_right _ (List.mem_append_left _ ho44)))).1
  have hD44 : D ≠ 44 := fun q => hDne (44, o44) (List.mem_append_right _ (List.mem_append_left _ ho44)) q.symm
  k_steps
  have N6 := News.sub N5 (l' := t2 ++ ((_, PySem.W.listOf (ivals (arr.drop j)) 0) :: (D, PySem.W.listOf (ivals arr) kk) :: (t1' ++ news))) (fun p hp => by
    rcases List.mem_append.mp hp with hp | hp
    · exact .tail _ (.tail _ (List.mem_append_right _ (List.mem_append_left _ hp)))
    · rcases List.mem_cons.mp hp with rfl | hp
      · exact .head _
      · rcases List.mem_cons.mp hp with rfl | hp
        · exact .tail _ (.head _)
        · rcases List.mem_append.mp hp with hp | hp
          · exact .tail _ (.tail _ (List.mem_append_left _ hp))
          · exact .tail _ (.tail _ (List.mem_append_right _ (List.mem_append_right _ hp))))
  have hdl : (arr.drop j).length = W - j := by rw [List.length_drop, hal]
  have hy : k / 2 ^ j < 2 ^ (W - j) := Nat.div_lt_of_lt_mul (by rw [← Nat.pow_add, show j + (W - j) = W by omega]; exact hWp)
  refine Hold.mk (d2i_spec' (dp := 861) (un := 8903) (s := ⟨h5, s3.gens, s3.drawn, _, s3.os⟩) fill ⟨B2, F5, X2, N6, _, _, _, _, T2⟩ hC2 hT2 ?_ (by decide) (by decide) _ (arr.drop j) 0 (k / 2 ^ j) _ (.head _) (by rw [hdl]; exact hbits2) (by rw [hdl]; exact hy) (by omega) (by omega) ?_)
  · intro p hp
    rcases List.mem_cons.mp hp with rfl | hp
    · exact Nat.ne_of_gt (Nat.lt_succ_of_lt hlt)
    · rcases List.mem_cons.mp hp with rfl | hp
      · exact hD44
      · rcases List.mem_append.mp hp with hp | hp
        · exact hT1'.ne (by decide) (by decide) p hp
        · exact (hne p hp).2
  · intro ty t2' s6 hT2' W6 F7 N7
    clear F5 N5 N6 N4
    k_steps
    rw [hi2]
    rename News _ _ _ _ => N8
    refine hQ ty t1' t2' _ hT1' hT2' ((show Went s s3 from ⟨W3.os, W3.gens⟩).trans ((show Went s3 s6 from ⟨W6.os, W6.gens⟩).go rfl rfl)) (by k_asm) (News.sub N8 fun p hp => ?_)
    rcases List.mem_append.mp hp with hp | hp
    · exact List.mem_append_right _ (.tail _ (.tail _ (List.mem_append_left _ hp)))
    · rcases List.mem_append.mp hp with hp | hp
      · exact List.mem_append_left _ hp
      · exact List.mem_append_right _ (.tail _ (.tail _ (List.mem_append_right _ hp)))

end
section
open PySem PySem.W PySem.W.X PyProof.Rows PySem.Calls Builtin
set_option maxRecDepth 100000
set_option maxHeartbeats 4000000
/-- an object of a class over list -/
abbrev lobj (C dx : Addr) (its : Array Value) (n : Nat) : Obj := { cls := .ref C, dict := some dx, data := .seq its n }
structure MakesL (M : Model) (h : Heap) (C : Addr) : Prop where
  obj : ∃ oc od cd sl, h.get? C = some ⟨oc, od, .cls cd, sl⟩ ∧ cd.abstract = false ∧ cd.hasDel = false ∧ cd.mro.isEmpty = false
  made : Looks M h (Bind.madeBy (.ref C)) (some "list.__new__")
  base : Looks M h (Bind.staticBase (.ref C)) (.ref C)
  self : Looks M h (isSubtype (.ref C) (.ref C)) true
  lst : Looks M h (isSubtype (.ref C) (.type "list")) true
  call : Looks M h (specialOf (.ref C) "__call__") (some (.builtin "type.__call__"))
  typ : Looks M h (isInstance (.ref C) (.type "type")) true
  ist : Looks M h (isType (.ref C)) true
def makesLIn (K : Frag) (C : Addr) : Bool := match K.lookup C with
  | some ⟨_, _, .cls cd, sl⟩ => !cd.abstract && !cd.hasDel && (sl.toList[4]?).join == some (.builtin "list.__new__") && !cd.mro.isEmpty && cd.mro.contains (.ref C) && cd.mro.contains (.type "list") &&
      specialIn K (.ref C) "__call__" == some (some (.builtin "type.__call__")) && instIn K (.ref C) (.type "type") == some true
  | _ => false
theorem makesL_of {K : Frag} {M : Model} {h : Heap} (X : K.In h) {C : Addr} (e : makesLIn K C = true) : MakesL M h C := by
  unfold makesLIn at e
  split at e
  · rename_i oc od cd sl ho
    simp only [Bool.and_eq_true, Bool.not_eq_true', beq_iff_eq] at e
    obtain ⟨⟨⟨⟨⟨⟨⟨e1, e2⟩, e3⟩, e4⟩, e5⟩, e6⟩, e7⟩, e8⟩ := e
    have hc : clsIn K C = some cd := by unfold clsIn; rw [ho]
    have hm : Looks M h (mroOf (.ref C)) cd.mro := (looks_clsIn X hc).andThen .now
    obtain ⟨c, l, hl⟩ : ∃ c l, cd.mro = c :: l := by cases q : cd.mro with | nil => rw [q] at e4; cases e4 | cons c l => exact ⟨c, l, rfl⟩
    have made : Looks M h (Bind.madeBy (.ref C)) (some "list.__new__") := by
      intro A Q E s k q
      unfold Bind.madeBy
      refine wpAny_bind (hm A _ E s k ?_)
      rw [hl, List.forIn_cons]
      refine wpAny_bind (wpAny_bind (wpAny_bind (wpAny_bind (wpAny_loadPart (k _ _ (X _ _ ho)) (wpAny_pure ?_)))))
      dsimp only
      rw [← Array.getElem?_toList, e3]
      exact wpAny_pure (wpAny_pure (wpAny_pure q))
    refine ⟨⟨oc, od, cd, sl, X _ _ ho, e1, e2, e4⟩, made, ?_, looks_mroIn X ?_, looks_mroIn X ?_, looks_specialIn X e7, looks_instIn X e8, ?_⟩
    · intro A Q E s k q
      unfold Bind.staticBase
      refine wpAny_bind (hm A _ E s k ?_)
      rw [hl, List.forIn_cons]
      exact wpAny_bind (wpAny_bind (wpAny_bind (made A _ E s k (wpAny_pure (wpAny_pure (wpAny_pure q))))))
    · unfold mroIn; rw [hc, Option.bind_some, if_neg (by rw [e4]; decide), e5]
    · unfold mroIn; rw [hc, Option.bind_some, if_neg (by rw [e4]; decide), e6]
    · intro A Q E s k q
      obtain ⟨hh, g, d, t, os⟩ := s
      exact ks_wpAny_isType_cls (k _ _ (X _ _ ho)) rfl q
  · cases e
theorem kind_ln : builtinKind "list.__new__" = builtinKind "list.__new__" := rfl
theorem mk129 (p : Params) : makesLIn (hd.heap_39 p) 129 = true := by kernel_rfl
theorem ini129 (p : Params) : findIn (hd.heap_39 p) (.ref 129) "__init__" = some (some (.ref 66)) := by kernel_rfl

end
section
open PySem PySem.W PySem.W.X PyProof.Rows PySem.Calls Builtin
set_option maxRecDepth 100000
set_option maxHeartbeats 4000000
theorem ln_split : splitId "list.__new__" = some ("list", "__new__") := by decide +kernel
theorem ln_kind : builtinKind "list.__new__" = some .builtinFn := by decide +kernel
theorem ln_args (C : Addr) (a : Value) : argsOk "list.__new__" ⟨[.ref C, a], []⟩ := by unfold argsOk; kernel_rfl
theorem ln_some : (Manifest.signature? "list.__new__").isSome = true := by kernel_rfl
section
variable {prog : Program} {w : World} {A : Around} {C : Addr} {R : Result → Shared → Prop} {h : Heap} {g : Array GenState} {d : Drawn} {t : Nat} {os : OsState}
theorem newL {a : Value} (Y : MakesL (model prog w) h C)
    (hq : R (.ok (.ret (.ref (h.objs.size + 1)))) ⟨(h.push emptyDict).push (lobj C h.objs.size #[] 0), g, d, t, os⟩) :
    codeAny (model prog w) A (.call (.builtin "list.__new__") ⟨[.ref C, a], []⟩) R ⟨h, g, d, t, os⟩ := by
  obtain ⟨⟨oc, od, cd, sl, hC, e1, e2, e4⟩, made, base, self, lst, call, typ, ist⟩ := Y
  refine codeAny_call_builtin_code (Code.quiet_builtin _ (by decide +kernel)) ?_
  have here : Looks (model prog w) h (Bind.madeHere "list.__new__" (.ref C)) () := base.andThen (made.andThen (Looks.of_pure (by simp only [Option.map_some, bne_self_eq_false, Bool.false_eq_true, if_false])))
  have ha := ln_args C a
  obtain ⟨sig, hsig⟩ := Option.isSome_iff_exists.mp ln_some
  simp only [argsOk, hsig] at ha
  simp only [checkBuiltinCall, ln_kind, ln_split, hsig]
  have ha' : Bind.checkArgs "list.__new__" sig ⟨[.ref C, a], []⟩ = pure () := ha
  rw [ha']
  repeat (first | simp only [bne_self_eq_false, Bool.false_eq_true, if_false] | lk)
  refine codeAny_builtin_stack F.entry_list_new rfl fun p st => ?_
  have hown := owner_list_new
  simp only [hown]
  repeat (first | simp only [bne_self_eq_false, Bool.false_eq_true, if_false, Bool.not_true] | lk)
  refine wpAny_load (Heap.get?_push_of_some _ (Heap.get?_push_of_some _ hC)) (wpAny_pure ?_)
  rw [e2, if_neg Bool.false_ne_true]
  refine wpAny_pure ?_
  repeat (first | simp only [Bool.false_eq_true, if_false] | lk)
  show R _ _
  rw [Heap.size_push]
  exact hq
theorem makeL {a : Value} {fI : Addr} (Y : MakesL (model prog w) h C) (hi : Looks (model prog w) h (typeLookup (.ref C) "__init__") (some (.ref fI)))
    (hb : ∀ self, Looks (model prog w) h (bindSpecial (.ref fI) self) (.ref fI, [self]))
    (hq : codeAny (model prog w) (A.under (.builtin "type.__call__" ⟨[.ref C, a], []⟩)) (.call (.ref fI) ⟨[.ref (h.objs.size + 1), a], []⟩) (InitBack (h.objs.size + 1) R) ⟨(h.push emptyDict).push (lobj C h.objs.size #[] 0), g, d, t, os⟩) :
    codeAny (model prog w) A (.call (.ref C) ⟨[a], []⟩) R ⟨h, g, d, t, os⟩ := by
  have Y' := Y
  obtain ⟨⟨oc, od, cd, sl, hC, e1, e2, e4⟩, made, base, self, lst, call, typ, ist⟩ := Y
  refine codeAny_of_tree ?_
  show wpAny _ _ (callAny (.ref C) _) _ _ _
  refine nd_load hC ?_
  show wpAny _ _ (callAny.viaDunder (.ref C) _) _ _ _
  unfold callAny.viaDunder
  refine wpAny_bind (call.at ?_)
  dsimp only
  rw [tc_bind]
  refine wpAny_bind (wpAny_pure (wpAny_bind (wpAny_pure ?_)))
  refine wpAny_pure (a := Fin.again (.call (.builtin "type.__call__") ⟨[.ref C, a], []⟩)) (And.intro rfl ?_)
  refine codeAny_call_builtin_at (Code.quiet_builtin _ (by decide +kernel)) entry_typeCall (check_slot tc_kind tc_split typ (tc_args _ _ _) ?_)
  unfold Builtin.«type.__call__»
  have hm : Looks (model prog w) h (mroOf (.ref C)) cd.mro := ((Looks.ld (part := none) hC).andThen .now).andThen .now
  repeat (first | simp only [e4, Bool.false_eq_true, if_false] | with_reducible refine wpAny_call ?_ | lk)
  refine newL Y' ?_
  have k : ∀ b o, h.get? b = some o → ((h.push emptyDict).push (lobj C h.objs.size #[] 0)).get? b = some o := fun b o e => Heap.get?_push_of_some _ (Heap.get?_push_of_some _ e)
  have hx : ((h.push emptyDict).push (lobj C h.objs.size #[] 0)).get? (h.objs.size + 1) = some (lobj C h.objs.size #[] 0) := by heap_get
  have t1 : Looks (model prog w) ((h.push emptyDict).push (lobj C h.objs.size #[] 0)) (typeOf (.ref (h.objs.size + 1))) (.ref C) := (Looks.ld hx).andThen .now
  have s1 := self.keeps k
  have i1 := hi.keeps k
  have b1 := (hb (.ref (h.objs.size + 1))).keeps k
  unfold isInstance callSpecial? specialOf
  repeat (first | with_reducible refine wpAny_call ?_ | lk)
  refine codeAny_mono hq fun r s' z => ?_
  rcases r with e | (v | _ | _ | _) <;> first | exact z | exact z.elim | skip
  obtain ⟨rfl, z⟩ := z
  exact wpAny_pure (wpAny_pure z)
end

end
section
open PySem PySem.W PySem.W.X PyProof.Rows PySem.Calls Builtin
set_option maxRecDepth 100000
set_option maxHeartbeats 4000000
theorem own_pop (p : Params) : alongIn (hd.heap_39 p) "pop" [.type "list", .type "object"] = some (some (.builtin "list.pop")) := by kernel_rfl
theorem own_len (p : Params) : alongIn (hd.heap_39 p) "__len__" [.type "list", .type "object"] = some (some (.builtin "list.__len__")) := by kernel_rfl
theorem own_init (p : Params) : alongIn (hd.heap_39 p) "__init__" [.type "list", .type "object"] = some (some (.builtin "list.__init__")) := by kernel_rfl
theorem typ_pop : typeOf (.builtin "list.pop") = pure (.type "method_descriptor") := by show builtinType _ = _; rw [builtinType_eq_fast]; kernel_rfl
theorem typ_len : typeOf (.builtin "list.__len__") = pure (.type "wrapper_descriptor") := by show builtinType _ = _; rw [builtinType_eq_fast]; kernel_rfl
theorem typ_init : typeOf (.builtin "list.__init__") = pure (.type "wrapper_descriptor") := by show builtinType _ = _; rw [builtinType_eq_fast]; kernel_rfl
theorem get_md : typeLookup (.type "method_descriptor") "__get__" = pure (some (.builtin "method_descriptor.__get__")) := by rw [typeLookup_type, builtinLookup_eq_fast]; kernel_rfl
theorem get_wd : typeLookup (.type "wrapper_descriptor") "__get__" = pure (some (.builtin "wrapper_descriptor.__get__")) := by rw [typeLookup_type, builtinLookup_eq_fast]; kernel_rfl
theorem slot_md : Slot "method_descriptor" "__get__" "method_descriptor.__get__" := .of (owner := "method_descriptor") (n := "__get__") (by rw [typeLookup_type, builtinLookup_eq_fast]; kernel_rfl) (by decide +kernel) (by decide +kernel) (by decide +kernel)
  (by first | exact .inl (by decide +kernel) | exact .inr (by decide +kernel)) (by rw [isSubtype_type]; kernel_rfl)
theorem slot_wd : Slot "wrapper_descriptor" "__get__" "wrapper_descriptor.__get__" := .of (owner := "wrapper_descriptor") (n := "__get__") (by rw [typeLookup_type, builtinLookup_eq_fast]; kernel_rfl) (by decide +kernel) (by decide +kernel) (by decide +kernel)
  (by first | exact .inl (by decide +kernel) | exact .inr (by decide +kernel)) (by rw [isSubtype_type]; kernel_rfl)
theorem entry_md : entryFor table "method_descriptor.__get__" = some Builtin.«method_descriptor.__get__» := entryFor_of_tree (by kernel_rfl)
theorem entry_wd : entryFor table "wrapper_descriptor.__get__" = some Builtin.«wrapper_descriptor.__get__» := entryFor_of_tree (by kernel_rfl)
theorem args_md (a b c : Value) : argsOk "method_descriptor.__get__" ⟨[a, b, c], []⟩ := by unfold argsOk; kernel_rfl
theorem args_wd (a b c : Value) : argsOk "wrapper_descriptor.__get__" ⟨[a, b, c], []⟩ := by unfold argsOk; kernel_rfl
theorem told_pop : Manifest.toldItsClass.contains "list.pop" = false := by decide +kernel

end
section
open PySem PySem.W PySem.W.X PyProof.Rows PySem.Calls Builtin
set_option maxRecDepth 100000
set_option maxHeartbeats 4000000
section
variable {prog : Program} {w : World} {M : Model} {A : Around} {E : Value → Shared → Prop} {h : Heap} {g : Array GenState} {d : Drawn} {t : Nat} {os : OsState}
/-- the bound thing's object -/
abbrev boundObj (T id : String) (x : Addr) : Obj := { cls := .type T, data := .fields #[.builtin id, .ref x] }
theorem superGA_wd {so D x C : Addr} {l₀ l : List Value} {K : Frag} {name : Str} {tk : Tok} {id : String} {Q : Fin → Shared → Prop}
    (hso : h.get? so = some { cls := .type "super", dict := none, data := .fields #[.ref D, .ref x, .ref C], slots := #[] }) (hno : Looks (model prog w) h (opaqueClassAbove (.ref C)) none)
    (hC : Looks (model prog w) h (mroOf (.ref C)) l₀) (hl : (l₀.dropWhile (· != .ref D)).drop 1 = l) (X : K.In h)
    (hf : alongIn K name l = some (some (.builtin id))) (ht : typeOf (.builtin id) = pure (.type "wrapper_descriptor")) (hxC : x ≠ C) (hn : (name == ("__class__" : Str)) = false)
    {dx : Option Addr} {its : Array Value} {n : Nat} (hx : h.get? x = some { cls := .ref C, dict := dx, data := .seq its n }) (hlst : Looks (model prog w) h (isSubtype (.ref C) (.type "list")) true) (how : ".".intercalate (id.cutAt '.').dropLast = "list")
    (hq : Q (.done (.ret (.ref h.objs.size))) ⟨h.push (boundObj "method-wrapper" id x), g, d, t, os⟩) :
    wpAny (model prog w) A (Builtin.«super.__getattribute__» ⟨[.ref so, .str name tk], []⟩) Q E ⟨h, g, d, t, os⟩ := by
  have hlk := get_wd
  have hTd : (⟨h, g, d, t, os⟩ : Shared).TypeIs (.builtin id) "wrapper_descriptor" := ht
  have hne : (Value.ref x == Value.ref C) = false := by simp [hxC]
  have hdt : ({ cls := .type "super", dict := none, data := .fields #[.ref D, .ref x, .ref C], slots := #[] } : Obj).data = .fields #[.ref D, .ref x, .ref C] := rfl
  have f0 : (#[.ref D, .ref x, .ref C] : Array Value)[0]? = some (.ref D) := rfl
  have f1 : (#[.ref D, .ref x, .ref C] : Array Value)[1]? = some (.ref x) := rfl
  have f2 : (#[.ref D, .ref x, .ref C] : Array Value)[2]? = some (.ref C) := rfl
  unfold Builtin.«super.__getattribute__»
  repeat (first
    | (with_reducible refine wpAny_field hso hdt f0 ?_) | (with_reducible refine wpAny_field hso hdt f1 ?_) | (with_reducible refine wpAny_field hso hdt f2 ?_)
    | (with_reducible refine ks_wpAny_notOpaque hno ?_)
    | (with_reducible refine Looks.at hC ?_; rw [hl])
    | (refine ks_forIn_along X (fun _ _ => rfl) rfl ?_ hf)
    | (with_reducible refine wpAny_call_entry slot_wd hTd entry_wd ?_ (args_wd _ _ _))
    | (with_reducible refine wpAny_of_eq ht ?_)
    | (with_reducible refine ⟨_, rfl, ?_⟩)
    | (simp only [hn, hne, Bool.or_false, Bool.false_eq_true, if_false])
    | wp_step
    | dsimp only)
  rw [how]
  refine Looks.at hlst ?_
  repeat (first | (with_reducible refine ⟨_, rfl, ?_⟩) | simp only [Bool.not_true, Bool.false_eq_true, if_false] | lk | wp_step)
  all_goals exact hq
theorem superGA_md {so D x C : Addr} {l₀ l : List Value} {K : Frag} {name : Str} {tk : Tok} {id : String} {Q : Fin → Shared → Prop}
    (hso : h.get? so = some { cls := .type "super", dict := none, data := .fields #[.ref D, .ref x, .ref C], slots := #[] }) (hno : Looks (model prog w) h (opaqueClassAbove (.ref C)) none)
    (hC : Looks (model prog w) h (mroOf (.ref C)) l₀) (hl : (l₀.dropWhile (· != .ref D)).drop 1 = l) (X : K.In h)
    (hf : alongIn K name l = some (some (.builtin id))) (ht : typeOf (.builtin id) = pure (.type "method_descriptor")) (hxC : x ≠ C) (hn : (name == ("__class__" : Str)) = false)
    {dx : Option Addr} {its : Array Value} {n : Nat} (hx : h.get? x = some { cls := .ref C, dict := dx, data := .seq its n }) (hlst : Looks (model prog w) h (isSubtype (.ref C) (.type "list")) true) (htold : Manifest.toldItsClass.contains id = false) (how : ".".intercalate (id.cutAt '.').dropLast = "list")
    (hq : Q (.done (.ret (.ref h.objs.size))) ⟨h.push (boundObj "builtin_function_or_method" id x), g, d, t, os⟩) :
    wpAny (model prog w) A (Builtin.«super.__getattribute__» ⟨[.ref so, .str name tk], []⟩) Q E ⟨h, g, d, t, os⟩ := by
  have hlk := get_md
  have hTd : (⟨h, g, d, t, os⟩ : Shared).TypeIs (.builtin id) "method_descriptor" := ht
  have hne : (Value.ref x == Value.ref C) = false := by simp [hxC]
  have hdt : ({ cls := .type "super", dict := none, data := .fields #[.ref D, .ref x, .ref C], slots := #[] } : Obj).data = .fields #[.ref D, .ref x, .ref C] := rfl
  have f0 : (#[.ref D, .ref x, .ref C] : Array Value)[0]? = some (.ref D) := rfl
  have f1 : (#[.ref D, .ref x, .ref C] : Array Value)[1]? = some (.ref x) := rfl
  have f2 : (#[.ref D, .ref x, .ref C] : Array Value)[2]? = some (.ref C) := rfl
  unfold Builtin.«super.__getattribute__»
  repeat (first
    | (with_reducible refine wpAny_field hso hdt f0 ?_) | (with_reducible refine wpAny_field hso hdt f1 ?_) | (with_reducible refine wpAny_field hso hdt f2 ?_)
    | (with_reducible refine ks_wpAny_notOpaque hno ?_)
    | (with_reducible refine Looks.at hC ?_; rw [hl])
    | (refine ks_forIn_along X (fun _ _ => rfl) rfl ?_ hf)
    | (with_reducible refine wpAny_call_entry slot_md hTd entry_md ?_ (args_md _ _ _))
    | (with_reducible refine wpAny_of_eq ht ?_)
    | (with_reducible refine ⟨_, rfl, ?_⟩)
    | (simp only [hn, hne, Bool.or_false, Bool.false_eq_true, if_false])
    | wp_step
    | dsimp only)
  rw [if_neg (by rw [htold]; exact Bool.false_ne_true)]
  repeat wp_step
  rw [how]
  refine Looks.at hlst ?_
  repeat (first | (with_reducible refine ⟨_, rfl, ?_⟩) | simp only [Bool.not_true, Bool.false_eq_true, if_false] | lk | wp_step)
  all_goals exact hq
end

end
section
open PySem PySem.W PySem.W.X PyProof.Rows PySem.Calls Builtin
set_option maxRecDepth 100000
set_option maxHeartbeats 4000000
section
variable {prog : Program} {w : World} {M : Model} {A : Around} {E : Value → Shared → Prop} {h : Heap} {g : Array GenState} {d : Drawn} {t : Nat} {os : OsState}
theorem getMethod_super {so D x C : Addr} {bo : Obj} {name : Str} {pl : Sem Bool} {Q : Value × List Value → Shared → Prop}
    (hso : h.get? so = some { cls := .type "super", dict := none, data := .fields #[.ref D, .ref x, .ref C], slots := #[] })
    (hga : ∀ {A : Around} {Q : Fin → Shared → Prop} {E : Value → Shared → Prop}, Q (.done (.ret (.ref h.objs.size))) ⟨h.push bo, g, d, t + 1, os⟩ →
      wpAny (model prog w) A (Builtin.«super.__getattribute__» ⟨[.ref so, .str name t], []⟩) Q E ⟨h, g, d, t + 1, os⟩)
    (hq : Q (.ref h.objs.size, []) ⟨h.push bo, g, d, t + 1, os⟩) :
    wpAny (model prog w) A (getMethod (.ref so) name pl) Q E ⟨h, g, d, t, os⟩ := by
  have hlk := F.ks_slot_super_ga.lookup
  have hcan := F.ks_canon_super_ga
  have hT : ∀ t', (⟨h, g, d, t', os⟩ : Shared).TypeIs (.ref so) "super" := fun _ => ⟨_, hso, rfl⟩
  unfold getMethod
  refine wpAny_bind (wpAny_specialOf (hT _) hlk ?_)
  show wpAny _ _ (if (Manifest.canonical "super.__getattribute__" != "object.__getattribute__") = true then _ else _) _ _ _
  rw [if_pos hcan]
  unfold getAttr getAttrBy
  refine wpAny_bind (wpAny_bind (wpAny_mkText (wpAny_holding (wpAny_bind (wpAny_typeOf (hT _) (wpAny_bind (wpAny_of_eq hlk ?_)))))))
  show wpAny _ _ (getAttrByItsOwn (.ref so) (.str name t) (.type "super") (.builtin "super.__getattribute__") true false) _ _ _
  unfold getAttrByItsOwn hookBefore callGetattribute boundAndCalled
  refine wpAny_bind (wpAny_of_eq (show (if onTheHeap (.type "super") then typeLookup (.type "super") "__getattr__" else pure none) = pure none from rfl) ?_)
  refine wpAny_bind (wpAny_attempt (wpAny_holding ?_))
  show wpAny _ _ (bindSpecial (.builtin "super.__getattribute__") (.ref so) >>= _) _ _ _
  refine wpAny_bind (wpAny_of_eq (F.ks_slot_super_ga.bind _) ?_)
  refine wpAny_mono (Q := fun v s' => v = .ref h.objs.size ∧ s' = ⟨h.push bo, g, d, t + 1, os⟩) (E := fun _ _ => False)
    (wpAny_call_entry F.ks_slot_super_ga (hT _) F.ks_entry_super_ga (hga ⟨_, rfl, rfl, rfl⟩) (F.ks_gaArgs_super _ _)) (fun v s' hv => ?_) fun _ _ z => z.elim
  obtain ⟨rfl, rfl⟩ := hv
  exact wpAny_pure (wpAny_pure hq)
end

end
section
open PySem PySem.W PySem.W.X PyProof.Rows PySem.Calls Builtin
set_option maxRecDepth 100000
set_option maxHeartbeats 4000000
section
variable {prog : Program} {w : World} {M : Model} {A : Around} {E : Value → Shared → Prop} {h : Heap} {g : Array GenState} {d : Drawn} {t : Nat} {os : OsState}
theorem bcheck_len (x : Value) : checkBoundCall "list.__len__" ⟨[x], []⟩ = pure () := by kernel_rfl
theorem bcheck_init (x : Value) : checkBoundCall "list.__init__" ⟨[x], []⟩ = pure () := by kernel_rfl
theorem entry_llen : entryFor table "list.__len__" = some Builtin.«list.__len__» := entryFor_of_tree (by kernel_rfl)
theorem entry_linit : entryFor table "list.__init__" = some Builtin.«list.__init__» := entryFor_of_tree (by kernel_rfl)
theorem entry_lpop : entryFor table "list.pop" = some Builtin.«list.pop» := entryFor_of_tree (by kernel_rfl)
theorem bound_wd {b x : Addr} {id : String} {R : Result → Shared → Prop} {bi : Builtin} (hb : h.get? b = some (boundObj "method-wrapper" id x)) (hchk : checkBoundCall id ⟨[.ref x], []⟩ = pure ()) (he : entryFor table id = some bi) (hquiet : (Code.builtin id ⟨[.ref x], []⟩).quiet = true)
    (hq : wpAny (model prog w) (A.under (.builtin id ⟨[.ref x], []⟩)) (bi ⟨[.ref x], []⟩) (fun fin s' => match fin with | .done f => R (.ok f) s' | .again c' => c'.quiet = true ∧ codeAny (model prog w) A c' R s') (fun e s' => R (.error e) s') ⟨h, g, d, t, os⟩) :
    codeAny (model prog w) A (.call (.ref b) ⟨[], []⟩) R ⟨h, g, d, t, os⟩ := by
  refine codeAny_of_tree ?_
  show wpAny _ A.in1 (callAny (.ref b) _) _ _ _
  unfold callAny
  refine wpAny_bind (wpAny_load hb ?_)
  show wpAny _ _ (checkBoundCall id ⟨[.ref x], []⟩ >>= fun _ => pure (Fin.again (.builtin id ⟨[.ref x], []⟩))) _ _ _
  refine wpAny_bind (wpAny_of_eq hchk (wpAny_pure ⟨hquiet, codeAny_builtin he hq⟩))
theorem len_inst {x C : Addr} {dx : Option Addr} {its : Array Value} {n : Nat} {Q : Fin → Shared → Prop} (hx : h.get? x = some { cls := .ref C, dict := dx, data := .seq its n })
    (hq : ∀ t1 t2, Q (.done (.ret (.int its.size t1))) ⟨h, g, d, t2, os⟩) : wpAny (model prog w) A (Builtin.«list.__len__» ⟨[.ref x], []⟩) Q E ⟨h, g, d, t, os⟩ := by
  unfold Builtin.«list.__len__»
  repeat wp_step
  all_goals exact hq _ _
theorem init_inst {x C : Addr} {dx : Option Addr} {n : Nat} {Q : Fin → Shared → Prop} (hx : h.get? x = some { cls := .ref C, dict := dx, data := .seq #[] n })
    (hq : ∀ h' n', h'.get? x = some { cls := .ref C, dict := dx, data := .seq #[] n' } → (∀ y o, y ≠ x → h.get? y = some o → h'.get? y = some o) → Q (.done (.ret .none)) ⟨h', g, d, t, os⟩) : wpAny (model prog w) A (Builtin.«list.__init__» ⟨[.ref x], []⟩) Q E ⟨h, g, d, t, os⟩ := by
  unfold Builtin.«list.__init__»
  repeat wp_step
  exact hq _ _ (Heap.get?_update_self _ hx rfl) fun y o hy e => (Heap.SameBut.update ..).extBut y o hy e
end

end
section
open PySem PySem.W PySem.W.X PyProof.Rows PySem.Calls Builtin
set_option maxRecDepth 100000
set_option maxHeartbeats 4000000
section
variable {prog : Program} {w : World} {M : Model} {A : Around} {E : Value → Shared → Prop} {h : Heap} {g : Array GenState} {d : Drawn} {t : Nat} {os : OsState}
theorem pop_inst {x C : Addr} {dx : Option Addr} {its : Array Value} {v : Value} {n : Nat} {Q : Fin → Shared → Prop} (hx : h.get? x = some { cls := .ref C, dict := dx, data := .seq (its.push v) n }) (hsz : its.size ≤ 4096)
    (hq : ∀ h' n', h'.get? x = some { cls := .ref C, dict := dx, data := .seq its n' } → (∀ y o, y ≠ x → h.get? y = some o → h'.get? y = some o) → Q (.done (.ret v)) ⟨h', g, d, t, os⟩) : wpAny (model prog w) A (Builtin.«list.pop» ⟨[.ref x], []⟩) Q E ⟨h, g, d, t, os⟩ := by
  unfold Builtin.«list.pop»
  repeat wp_step
  have e1 : seqIndex? (-1) (its.push v).size = some its.size := by
    unfold seqIndex?
    rw [Array.size_push]
    simp
    omega
  have e2 : ((seqIndex? (-1) (its.push v).size).bind fun k => Option.map (fun x => (k, x)) (its.push v)[k]?) = some (its.size, v) := by
    rw [e1]
    simp
  rw [e2]
  repeat wp_step
  have e3 : (its.push v).eraseIdxIfInBounds its.size = its := by
    apply Array.toList_inj.mp
    simp only [Array.eraseIdxIfInBounds, Array.size_push, Nat.lt_succ_self, dif_pos, Array.toList_eraseIdx, Array.toList_push, List.eraseIdx_append_of_length_le (Nat.le_of_eq Array.length_toList), Array.length_toList, Nat.sub_self, List.eraseIdx_cons_zero, List.append_nil]
  have e5 : Obj.mapSeq (fun x : Array Value => x.eraseIdxIfInBounds its.size) { cls := .ref C, dict := dx, data := .seq (its.push v) n } = { cls := .ref C, dict := dx, data := .seq its (n + 1) } := by simp [Obj.mapSeq, e3]
  rw [e5]
  have z := Heap.get?_update_self (Obj.mapSeq fun x : Array Value => x.eraseIdxIfInBounds its.size) hx (by rw [e5]; rfl)
  rw [e5] at z
  have hlt : its.size ≤ sizeLine := Nat.le_trans hsz (by decide)
  rw [show ({ cls := .ref C, dict := dx, data := .seq its (n + 1) } : Obj).data.pastItsLine = none from if_neg (by omega)]
  exact wpAny_pure (wpAny_pure (hq _ (n + 1) z fun y o hy e => (Heap.SameBut.update ..).extBut y o hy e))
end

end
section
open PySem PySem.W PySem.W.X PyProof.Rows PySem.Calls Builtin
set_option maxRecDepth 100000
set_option maxHeartbeats 4000000
section
variable {prog : Program} {w : World} {M : Model} {A : Around} {E : Value → Shared → Prop} {h : Heap} {g : Array GenState} {d : Drawn} {t : Nat} {os : OsState}
theorem lp_some : (Manifest.signature? "list.pop").isSome = true := by kernel_rfl
theorem lp_kind : builtinKind "list.pop" = some .method := by decide +kernel
theorem lp_varargs : Manifest.varargsMethods.contains "list.pop" = false := by decide +kernel
abbrev accName : Str := Str.ofString "_Accumulator"
theorem lp_args (x : Value) (sig : Manifest.Signature) (h : Manifest.signature? "list.pop" = some sig) : Bind.checkArgs "list.pop" { sig with full := s!"{accName.toString}.{Bind.lastOf "list.pop"}" } ⟨[x], []⟩ = pure () := by
  have e : (Manifest.signature? "list.pop").elim (pure ()) (fun sig => Bind.checkArgs "list.pop" { sig with full := s!"{accName.toString}.{Bind.lastOf "list.pop"}" } ⟨[x], []⟩) = pure () := by kernel_rfl
  rw [h] at e; exact e
theorem bcheck_pop {x C : Addr} {oC : Option Addr} {oc : Value} {cd : ClassData} {sl : Array (Option Value)} {dx : Option Addr} {its : Array Value} {n : Nat} {Q : Unit → Shared → Prop}
    (hx : h.get? x = some { cls := .ref C, dict := dx, data := .seq its n }) (hC : h.get? C = some ⟨.type "type", oC, .cls cd, sl⟩)
    (hqn : cd.qualname = accName) (hm : Looks M h (isSubtype (.ref C) (.type "module")) false) (hq : Q () ⟨h, g, d, t, os⟩) : wpAny M A (checkBoundCall "list.pop" ⟨[.ref x], []⟩) Q E ⟨h, g, d, t, os⟩ := by
  obtain ⟨sig, hsig⟩ := Option.isSome_iff_exists.mp lp_some
  have ha := lp_args (.ref x) sig hsig
  simp only [checkBoundCall, hsig, lp_kind, lp_varargs]
  unfold isInstance
  have hno : ∀ c, ({ cls := .ref C, dict := dx, data := .seq its n } : Obj).data ≠ .cls c := fun c => by simp
  repeat (first | (with_reducible refine Looks.at hm ?_) | (with_reducible refine ks_wpAny_isType_inst hx hno ?_) | (simp only [hqn, ha, Bool.false_or, Bool.or_false, Bool.false_eq_true, if_false]) | wp_step)
  all_goals exact hq
end

end
section
open PySem PySem.W PySem.W.X PyProof.Rows PySem.Calls Builtin
set_option maxRecDepth 100000
set_option maxHeartbeats 4000000
section
variable {prog : Program} {w : World} {M : Model} {A : Around} {E : Value → Shared → Prop} {h : Heap} {g : Array GenState} {d : Drawn} {t : Nat} {os : OsState}
theorem bound_md {b x C : Addr} {oC : Option Addr} {cd : ClassData} {sl : Array (Option Value)} {dx : Option Addr} {its : Array Value} {n : Nat} {R : Result → Shared → Prop} (hb : h.get? b = some (boundObj "builtin_function_or_method" "list.pop" x))
    (hx : h.get? x = some { cls := .ref C, dict := dx, data := .seq its n }) (hC : h.get? C = some ⟨.type "type", oC, .cls cd, sl⟩) (hqn : cd.qualname = accName) (hm : Looks (model prog w) h (isSubtype (.ref C) (.type "module")) false)
    (hq : wpAny (model prog w) (A.under (.builtin "list.pop" ⟨[.ref x], []⟩)) (Builtin.«list.pop» ⟨[.ref x], []⟩) (fun fin s' => match fin with | .done f => R (.ok f) s' | .again c' => c'.quiet = true ∧ codeAny (model prog w) A c' R s') (fun e s' => R (.error e) s') ⟨h, g, d, t, os⟩) :
    codeAny (model prog w) A (.call (.ref b) ⟨[], []⟩) R ⟨h, g, d, t, os⟩ := by
  refine codeAny_of_tree ?_
  show wpAny _ A.in1 (callAny (.ref b) _) _ _ _
  unfold callAny
  refine wpAny_bind (wpAny_load hb ?_)
  show wpAny _ _ (checkBoundCall "list.pop" ⟨[.ref x], []⟩ >>= fun _ => pure (Fin.again (.builtin "list.pop" ⟨[.ref x], []⟩))) _ _ _
  refine wpAny_bind (bcheck_pop (oc := .none) hx hC hqn hm (wpAny_pure ⟨Code.quiet_builtin _ (by decide +kernel), codeAny_builtin entry_lpop hq⟩))
/-- the class of the rings, as the walk needs it -/
theorem sub_mod (p : Params) : mroIn (hd.heap_39 p) 129 (.type "module") = some false := by kernel_rfl
theorem sub_lst (p : Params) : mroIn (hd.heap_39 p) 129 (.type "list") = some true := by kernel_rfl
theorem sub_self (p : Params) : mroIn (hd.heap_39 p) 129 (.ref 129) = some true := by kernel_rfl
end

end
section
open PySem PySem.W PySem.W.X PyProof.Rows PySem.Calls Builtin
set_option maxRecDepth 100000
set_option maxHeartbeats 4000000
theorem mro129 (p : Params) : (clsIn (hd.heap_39 p) 129).map (·.mro) = some [.ref 129, .type "list", .type "object"] := by kernel_rfl
theorem qn129 (p : Params) : (clsIn (hd.heap_39 p) 129).map (·.qualname) = some accName := by kernel_rfl
theorem op129 (p : Params) : nsIn (hd.heap_39 p) cStatics "thirdparty.any" = some none := by kernel_rfl
theorem cl129 (p : Params) : ((hd.heap_39 p).lookup 129).map (·.cls) = some (.type "type") := by kernel_rfl
theorem c129 {p : Params} {h : Heap} (X : (hd.heap_39 p).In h) : ∃ oC cd sl, h.get? 129 = some ⟨.type "type", oC, .cls cd, sl⟩ ∧ clsIn (hd.heap_39 p) 129 = some cd ∧ cd.qualname = accName ∧ cd.mro = [.ref 129, .type "list", .type "object"] := by
  have h1 := mro129 p
  have h2 := qn129 p
  have h3 := cl129 p
  cases hc : clsIn (hd.heap_39 p) 129 with
  | none => rw [hc] at h1; cases h1
  | some cd =>
    rw [hc] at h1 h2
    have hc' := hc
    unfold clsIn at hc'
    split at hc'
    · rename_i c d cd' sl ho
      cases hc'
      rw [ho] at h3
      refine ⟨d, _, sl, ?_, rfl, Option.some.inj h2, Option.some.inj h1⟩
      have := X _ _ ho
      rw [show c = .type "type" from Option.some.inj h3] at this
      exact this
    · cases hc'
section
variable {w : World} {A : Around} {E : Value → Shared → Prop} {s : Shared} {h₀ : Heap} {L : Addr} {m : Str → Option Value} {news : List (Addr × Obj)} {p : Params} {x dx so : Addr} {its : Array Value} {n : Nat}
theorem ne129 (X : (hd.heap_39 p).In h₀) (N : News h₀ L s.heap news) {o : Obj} (hx : (x, o) ∈ news) : x ≠ 129 := by
  rintro rfl
  obtain ⟨_, _, _, e, _⟩ := c129 X
  have := (N _ hx).2.2
  rw [e] at this; cases this
theorem look_mro (X : (hd.heap_39 p).In h₀) {h : Heap} (k : h₀.StaysIn h) {M : Model} : Looks M h (mroOf (.ref 129)) [.ref 129, .type "list", .type "object"] := by
  obtain ⟨oC, cd, sl, e, hc, _, hm⟩ := c129 (X.keeps k)
  rw [← hm]
  exact fun A Q E s k q => wpAny_bind ((looks_clsIn (X.keeps ‹_›) hc) A _ E s k (wpAny_pure q))
theorem super_wd {id : String} {name : Str} {pl : Sem Bool} {Q : Value × List Value → Shared → Prop} (F : Fr h₀ L s.heap m) (X : (hd.heap_39 p).In h₀) (N : News h₀ L s.heap news) (hso : (so, ks_superObj 129 x 129) ∈ news) (hx : (x, lobj 129 dx its n) ∈ news)
    (hf : alongIn (hd.heap_39 p) name [.type "list", .type "object"] = some (some (.builtin id))) (ht : typeOf (.builtin id) = pure (.type "wrapper_descriptor")) (hn : (name == ("__class__" : Str)) = false) (how : ".".intercalate (id.cutAt '.').dropLast = "list")
    (h : ∀ q h', Fr h₀ L h' m → News h₀ L h' ((q, boundObj "method-wrapper" id x) :: news) → (∀ p ∈ news, p.1 < q) → Q (.ref q, []) { s with heap := h', toks := s.toks + 1 }) : wpAny (model prg w) A (getMethod (.ref so) name pl) Q E s := by
  have X' := X.keeps F.keep
  have hxC := ne129 X N hx
  obtain ⟨hh, g, d, t, os⟩ := s
  refine getMethod_super (N _ hso).1 (fun {A Q E} hq => superGA_wd (N _ hso).1 (looks_opaque X' (op129 p)) (look_mro X F.keep) rfl X' hf ht hxC hn (N _ hx).1 (looks_mroIn X' (sub_lst p)) how hq) ?_
  obtain ⟨F', N', l'⟩ := ks_newsPush (s := ⟨hh, g, d, t, os⟩) (o := boundObj "method-wrapper" id x) F N rfl (Heap.get?_push_at rfl rfl) (fun b o e => Heap.get?_push_of_some _ e)
  exact h _ _ F' N' l'
theorem super_md {id : String} {name : Str} {pl : Sem Bool} {Q : Value × List Value → Shared → Prop} (F : Fr h₀ L s.heap m) (X : (hd.heap_39 p).In h₀) (N : News h₀ L s.heap news) (hso : (so, ks_superObj 129 x 129) ∈ news) (hx : (x, lobj 129 dx its n) ∈ news)
    (hf : alongIn (hd.heap_39 p) name [.type "list", .type "object"] = some (some (.builtin id))) (ht : typeOf (.builtin id) = pure (.type "method_descriptor")) (hn : (name == ("__class__" : Str)) = false) (htold : Manifest.toldItsClass.contains id = false) (how : ".".intercalate (id.cutAt '.').dropLast = "list")
    (h : ∀ q h', Fr h₀ L h' m → News h₀ L h' ((q, boundObj "builtin_function_or_method" id x) :: news) → (∀ p ∈ news, p.1 < q) → Q (.ref q, []) { s with heap := h', toks := s.toks + 1 }) : wpAny (model prg w) A (getMethod (.ref so) name pl) Q E s := by
  have X' := X.keeps F.keep
  have hxC := ne129 X N hx
  obtain ⟨hh, g, d, t, os⟩ := s
  refine getMethod_super (N _ hso).1 (fun {A Q E} hq => superGA_md (N _ hso).1 (looks_opaque X' (op129 p)) (look_mro X F.keep) rfl X' hf ht hxC hn (N _ hx).1 (looks_mroIn X' (sub_lst p)) htold how hq) ?_
  obtain ⟨F', N', l'⟩ := ks_newsPush (s := ⟨hh, g, d, t, os⟩) (o := boundObj "builtin_function_or_method" id x) F N rfl (Heap.get?_push_at rfl rfl) (fun b o e => Heap.get?_push_of_some _ e)
  exact h _ _ F' N' l'
/-- super().__len__() -/
theorem call_blen {b : Addr} {Q : Value → Shared → Prop} (N : News h₀ L s.heap news) (hb : (b, boundObj "method-wrapper" "list.__len__" x) ∈ news) (hx : (x, lobj 129 dx its n) ∈ news)
    (h : ∀ t1 t2, Q (.int its.size t1) { s with toks := t2 }) : wpAny (model prg w) A (call (.ref b) []) Q E s := by
  obtain ⟨hh, g, d, t, os⟩ := s
  exact wpAny_call (bound_wd (N _ hb).1 (bcheck_len _) entry_llen (Code.quiet_builtin _ (by decide +kernel)) (len_inst (N _ hx).1 fun t1 t2 => h t1 t2))
theorem callWith_B {M : Model} {env : Env} {pos : Pos} {T id : String} {b : Addr} {Q : Value → Shared → Prop} (N : News h₀ L s.heap news) (hb : (b, boundObj T id x) ∈ news) (hT : T = "method-wrapper" ∨ T = "builtin_function_or_method")
    (h : wpAny M A (call (.ref b) []) Q E s) : wpAny M A (callWith pos (.ref b) [] (backTo pos (starEach [] env)) []) Q E s := by
  refine callWith_of (P := fun h => h.get? b = some (boundObj T id x)) rfl (fun h e => ⟨.machine, .inr (.inl rfl), (Looks.ld (part := none) e).andThen ?_⟩) (evalArgs_nil3 ⟨(N _ hb).1, h⟩)
  rcases hT with rfl | rfl <;> exact .now
theorem upd_head {h h' : Heap} {o o' : Obj} {rest : List (Addr × Obj)} (F : Fr h₀ L h m) (N : News h₀ L h ((x, o) :: rest)) (hne : ∀ p ∈ rest, p.1 ≠ x) (hx : h'.get? x = some o') (k : ∀ y o, y ≠ x → h.get? y = some o → h'.get? y = some o) :
    Fr h₀ L h' m ∧ News h₀ L h' ((x, o') :: rest) := by
  have Nx := N _ (.head _)
  refine ⟨⟨F.ns.at' fun o q => k _ o (fun z => Nx.2.1 z.symm) q, fun b ob q => k b ob (fun z => by rw [z, Nx.2.2] at q; cases q) (F.keep b ob q), F.above⟩, fun p hp => ?_⟩
  rcases List.mem_cons.mp hp with rfl | hp
  · exact ⟨hx, Nx.2⟩
  · exact ⟨k _ _ (hne p hp) (N p (.tail _ hp)).1, (N p (.tail _ hp)).2⟩
/-- an object of the ledger changed -/
theorem upd_at {h h' : Heap} {o o' : Obj} {g : Obj → List (Addr × Obj)} (F : Fr h₀ L h m) (N : News h₀ L h news) (U : UpdF x o news g) (hx : h'.get? x = some o') (k : ∀ y o, y ≠ x → h.get? y = some o → h'.get? y = some o) :
    Fr h₀ L h' m ∧ News h₀ L h' (g o') := by
  obtain ⟨own, rest, rfl, hg, h1, h2⟩ := U.split
  have Nx := N (x, o) (List.mem_append_right _ (.head _))
  refine ⟨⟨F.ns.at' fun o q => k _ o (fun z => Nx.2.1 z.symm) q, fun b ob q => k b ob (fun z => by rw [z, Nx.2.2] at q; cases q) (F.keep b ob q), F.above⟩, fun p hp => ?_⟩
  rw [hg] at hp
  rcases List.mem_append.mp hp with hp | hp
  · have := N p (List.mem_append_left _ hp)
    exact ⟨k _ _ (h1 p hp) this.1, this.2⟩
  · rcases List.mem_cons.mp hp with rfl | hp
    · exact ⟨hx, Nx.2⟩
    · have := N p (List.mem_append_right _ (.tail _ hp))
      exact ⟨k _ _ (h2 p hp) this.1, this.2⟩
/-- super().pop() -/
theorem call_bpop {b : Addr} {v : Value} {g : Obj → List (Addr × Obj)} {Q : Value → Shared → Prop} (F : Fr h₀ L s.heap m) (X : (hd.heap_39 p).In h₀) (N : News h₀ L s.heap news) (hb : (b, boundObj "builtin_function_or_method" "list.pop" x) ∈ news) (hs : its.size ≤ 4096) (U : UpdF x (lobj 129 dx (its.push v) n) news g)
    (h : ∀ h' n', Fr h₀ L h' m → News h₀ L h' (g (lobj 129 dx its n')) → Q v { s with heap := h' }) : wpAny (model prg w) A (call (.ref b) []) Q E s := by
  obtain ⟨hh, gs, d, t, os⟩ := s
  obtain ⟨oC, cd, sl, hC, _, hqn, _⟩ := c129 (X.keeps F.keep)
  obtain ⟨own, rest, rfl, hg, h1, h2⟩ := U.split
  have Nx := N (x, lobj 129 dx (its.push v) n) (List.mem_append_right _ (.head _))
  refine wpAny_call (bound_md (N _ hb).1 Nx.1 hC hqn (looks_mroIn (X.keeps F.keep) (sub_mod p)) (pop_inst Nx.1 hs fun h' n' hx' k => ?_))
  obtain ⟨F', N'⟩ := upd_at F N U hx' k
  exact h _ _ F' N'
theorem call_binit {b : Addr} {g : Obj → List (Addr × Obj)} {Q : Value → Shared → Prop} (F : Fr h₀ L s.heap m) (N : News h₀ L s.heap news) (hb : (b, boundObj "method-wrapper" "list.__init__" x) ∈ news) (U : UpdF x (lobj 129 dx #[] n) news g)
    (h : ∀ h' n', Fr h₀ L h' m → News h₀ L h' (g (lobj 129 dx #[] n')) → Q .none { s with heap := h' }) : wpAny (model prg w) A (call (.ref b) []) Q E s := by
  obtain ⟨hh, gs, d, t, os⟩ := s
  obtain ⟨own, rest, rfl, hg, h1, h2⟩ := U.split
  have Nx := N (x, lobj 129 dx #[] n) (List.mem_append_right _ (.head _))
  refine wpAny_call (bound_wd (N _ hb).1 (bcheck_init _) entry_linit (Code.quiet_builtin _ (by decide +kernel)) (init_inst Nx.1 fun h' n' hx' k => ?_))
  obtain ⟨F', N'⟩ := upd_at F N U hx' k
  exact h _ _ F' N'
theorem inst_l {h : Heap} {od : Obj} (N : News h₀ L h news) (hx : (x, lobj 129 dx its n) ∈ news) (hd : (dx, od) ∈ news) : InstAt h x (lobj 129 dx its n) 129 (some od) := ⟨(N _ hx).1, rfl, rfl, (N _ hd).1⟩
end

end
local macro_rules | `(tactic| k_inst) => `(tactic| (refine' inst_l ?N ?h1 ?h2; (case N => k_asm); (case h1 => k_mem); (case h2 => k_mem)))
local macro_rules | `(tactic| walk_at "callWith ref") => `(tactic| (k_dflt (refine' callWith_B (by k_asm) (by k_mem) (by decide) ?_)))
section
open PySem PySem.W PySem.W.X PyProof.Rows PySem.Calls
set_option maxRecDepth 100000
local macro_rules | `(tactic| walk_at "getMethod ref") => `(tactic| ((with_reducible show wpAny _ _ (getMethod (Value.ref _) _ _) _ _ _); k_dflt (refine' super_wd (by k_asm) (by k_asm) (by k_asm) (by k_mem) (by k_mem) (own_len _) typ_len (by decide +kernel) (by decide +kernel) ?_; intro q' h' F' N' l1; (try k_lt l1); (try dsimp only))))
local macro_rules | `(tactic| walk_at "call ref") => `(tactic| ((with_reducible show wpAny _ _ (call (Value.ref _) []) _ _ _); k_dflt (refine' call_blen (by k_asm) (by k_mem) (by k_mem) ?_; intro t1 t2)))
set_option maxHeartbeats 8000000 in
theorem pc_spec' : Fill → ∀ {w : World} {A₀ : Around} {base h₀ : Heap} {outer : List Env} {L : Addr} {m : Str → Option Value} {news : List (Addr × Obj)} {s : Shared}
    {dp un : Nat} {gd : Option (List Code)} {cn : Str} {nm : List (Str × NameKind)} {ig ic : Bool} {mr : List (Str × Const)} {a : Addr} {ccd : Value} {cl : List (Str × Addr)} {Q E : Value → Shared → Prop}
    (x dx : Addr) (its : Array Value) (n : Nat) (od : Obj) (_ : Cx w A₀ base outer h₀ L m news s) (_ : (x, lobj 129 dx its n) ∈ news) (_ : (dx, od) ∈ news) (_ : dp ≤ 980) (_ : un ≤ 9500)
    (_ : ∀ t s', Went s s' → Fr h₀ L s'.heap m → News h₀ L s'.heap news → Q (.int its.size t) s'),
    wpAny (model prg w) (ktrTop dp un gd cn (fS nm ig ic mr) L a ccd cl outer) (call (.ref 126) [.ref x]) Q E s := by
  unfold Fill
  k_fill
  intro _ w A₀ base h₀ outer L m news s dp un gd cn nm ig ic mr a ccd cl Q E x dx its n od C hx hd hdp hun hQ
  obtain ⟨B, F, X, N0, _, _, _, _, T⟩ := C
  have N : News h₀ L s.heap ((x, lobj 129 dx its n) :: (dx, od) :: news) := fun p hp => by
    rcases List.mem_cons.mp hp with rfl | hp
    · exact N0 _ hx
    · rcases List.mem_cons.mp hp with rfl | hp
      · exact N0 _ hd
      · exact N0 _ hp
  clear N0
  refine room hdp hun ?_
  k_steps
  rename News _ _ _ _ => N2
  refine hQ _ _ (Went.refl.go rfl rfl) (by k_asm) (fun p hp => N2 p ?_)
  exact .tail _ (.tail _ (.tail _ (.tail _ hp)))

end
section
open PySem PySem.W PySem.W.X PyProof.Rows PySem.Calls Builtin Builtin.ObjectAttr
set_option maxRecDepth 100000
set_option maxHeartbeats 4000000
theorem refuse_list (self : Value) : refuseLoop self "__setattr__" [.ref 129, .type "list", .type "object"] = pure () := by
  rw [refuseLoop_ref]; kernel_rfl
theorem own_none (p : Params) : findIn (hd.heap_39 p) (.ref 129) "_initial_size" = some none := by kernel_rfl
theorem own_setattr (p : Params) : findIn (hd.heap_39 p) (.ref 129) "__setattr__" = some (some (.builtin "object.__setattr__")) := by kernel_rfl
theorem sub_obj (p : Params) : mroIn (hd.heap_39 p) 129 (.type "object") = some true := by kernel_rfl
theorem has129 (p : Params) : hasDictIn (hd.heap_39 p) 129 = true := by kernel_rfl
theorem News.tl {g h : Heap} {L : Addr} {a : Addr × Obj} {l : List (Addr × Obj)} (N : News g L h (a :: l)) : News g L h l := fun p hp => N p (.tail _ hp)
abbrev szName : Str := Str.ofString "_initial_size"
section
variable {w : World} {A : Around} {E : Value → Shared → Prop} {s : Shared} {h₀ : Heap} {L : Addr} {m : Str → Option Value} {news : List (Addr × Obj)} {x dx so : Addr} {its : Array Value} {n : Nat}
theorem set_ring {es es' : List DictEntry} {k k' : Nat} {v : Value} {g : Obj → List (Addr × Obj)} {Q : Unit → Shared → Prop} (F : Fr h₀ L s.heap m) (X₀ : (hd.heap_39 w.params).In h₀) (N : News h₀ L s.heap news)
    (hx : (x, lobj 129 dx its n) ∈ news) (U : UpdF dx (dictOf es k) news g) (hl : (getL szName es).isSome = true)
    (e : (putL szName (PyData.keyHash w.params szName) (.str szName (s.toks + 1)) v es, putN szName es k) = (es', k')) (hz : es'.length ≤ 1000)
    (h : ∀ h', Fr h₀ L h' m → News h₀ L h' (g (dictOf es' k')) → Q () { s with heap := h', toks := s.toks + 2 }) : wpAny (model prg w) A (setAttr (.ref x) szName v) Q E s := by
  obtain ⟨pre, post, rfl, hg, h1, h2⟩ := U.split
  rw [hg] at h
  obtain ⟨hh, gs, dr, tk, os⟩ := s
  dsimp only at e h
  obtain ⟨e1, e2⟩ := Prod.mk.inj e
  have X := X₀.keeps F.keep
  have Ndx : (dx, dictOf es k) ∈ pre ++ (dx, dictOf es k) :: post := by simp
  have I : InstAt hh x (lobj 129 dx its n) 129 (some (dictOf es k)) := inst_l N hx Ndx
  refine set_plain X I (own_setattr _) ?_
  have SF := PySem.F.store_object
  have sub : Looks (model prg w) hh (isInstance (.ref x) (.type "object")) true := I.type.andThen (looks_mroIn X (sub_obj _))
  refine codeAny_call_builtin SF.slot.plain SF.entry (@check_slot (model prg w) _ _ ⟨hh, gs, dr, tk + 1, os⟩ "object.__setattr__" "object" "__setattr__" (.ref x) [.str szName tk, v] [] _ SF.kind SF.split sub (SF.args (.ref x) (.str szName tk) v) ?_)
  rw [osa_eq, refuse_eq]
  refine wpAny_bind (wpAny_bind (Looks.at I.type (wpAny_bind (Looks.at (look_mro X₀ F.keep) ?_))))
  rw [refuse_list]
  refine wpAny_pure (wpAny_bind (Looks.at I.type (wpAny_bind (Looks.at (looks_findIn X (own_none _)) (wpAny_bind (wpAny_pure ?_))))))
  obtain ⟨cd, hc, hd'⟩ := any_some (has129 w.params)
  have e0 : Obj.putName szName (PyData.keyHash w.params szName) (.str szName (tk + 1)) v (dictOf es k) = dictOf es' k' := by rw [putName_dict, e1, e2]
  obtain ⟨U1, U2⟩ := news_upd (f := Obj.putName szName (PyData.keyHash w.params szName) (.str szName (tk + 1)) v) F N h1 h2 e0 rfl
  have D := (N _ Ndx).1
  have D' := (U2 (dx, dictOf es' k') (by simp)).1
  have hx' := (N _ hx).1
  dsimp only
  refine wpAny_bind (wpAny_pure (wpAny_bind (wpAny_bind (wpAny_loadPart hx' (wpAny_bind (Looks.at (looks_clsIn X hc) ?_))))))
  rw [hd']
  refine wpAny_pure (a := some dx) (wpAny_bind (wpAny_pure (wpAny_bind ?_)))
  unfold nsSet
  refine wpAny_bind (wpAny_bind (wpAny_askSetting (wpAny_pure (wpAny_bind (wpAny_mkText (wpAny_bind (wpAny_loadPart D ?_)))))))
  dsimp only
  have c : (!es.toArray.any (·.key.isStr szName) && es.toArray.any (·.refKey)) = false := by
    rw [← Array.any_toList, ← Array.any_toList]
    unfold getL at hl
    split at hl
    · rename_i en he
      rw [List.any_eq_true.mpr ⟨en, List.mem_of_find?_eq_some he, List.find?_some he⟩]; rfl
    · split at hl
      · cases hl
      · rename_i z
        rw [Bool.not_eq_true] at z
        rw [show es.toArray.toList = es from rfl, z, Bool.and_false]
  rw [aRefKeyMayBeTheName_at, c]
  refine wpAny_updatePart D ?_
  refine wpAny_bind (wpAny_lookBehind D' (pastItsLine_dict (by rw [List.size_toArray, sizeLine_eq]; omega)) ?_)
  exact wpAny_pure (h _ U1 U2)
end

end
local macro_rules | `(tactic| walk_at "setAttr ref") => `(tactic| (k_here; k_dflt (refine' set_ring ?k1 ?k2 ?k3 ?k4 ?k5 ?k10 ?k11 ?k13 ?_; (case k1 => k_asm); (case k2 => k_asm); (case k3 => k_asm); (case k4 => k_mem); (case k5 => k_updF); (case k10 => k_get); (case k11 => k_put); (case k13 => exact Nat.le_of_ble_eq_true rfl); k_whole; intro h' F' N'; (try k_sweep))))
local macro_rules | `(tactic| walk_at "wpAt") => `(tactic| (dsimp only; ks_step "execs cons"; refine ks_wpAt_execs_cons ?_))
local macro_rules | `(tactic| walk_at "wpAt") => `(tactic| (ks_step "eval Call"; k_dflt (refine ks_wpAt_MethodCall ?_)))
section
open PySem PySem.W PySem.W.X PyProof.Rows PySem.Calls
set_option maxRecDepth 100000
local macro_rules | `(tactic| walk_at "getMethod ref") => `(tactic| ((with_reducible show wpAny _ _ (getMethod (Value.ref _) _ _) _ _ _); k_dflt (refine' super_wd (by k_asm) (by k_asm) (by k_asm) (by k_mem) (by k_mem) (own_init _) typ_init (by decide +kernel) (by decide +kernel) ?_; intro q' h' F' N' l1; (try k_lt l1); (try dsimp only))))
local macro_rules | `(tactic| walk_at "call ref") => `(tactic| ((with_reducible show wpAny _ _ (call (Value.ref _) []) _ _ _); k_dflt (refine' call_binit ?k1 ?k2 ?k3 ?k4 ?_; (case k1 => k_asm); (case k2 => k_asm); (case k3 => k_mem); (case k4 => k_updF); intro h' n' F' N'; (try dsimp only at N'))))
local macro_rules | `(tactic| walk_at "call ref") => `(tactic| (k_here; k_dflt (refine wpAny_call ?_; (refine' ks_code_super ?k1 ?k2 ?k3 ?k4 ?k5 ?kA ?kF ?kK ?k6 ?k7 ?k8 ?k9 ?kB ?_ ?c1 ?c2 ?c3 ?c4; (case kA => exact rfl); (case kF => exact rfl); (case kK => exact rfl); (case k1 => k_asm); (case k2 => k_asm); (case k3 => k_asm); (case k4 => k_asm); (case k5 => k_asm); (case k6 => k_is); (case k7 => k_is); (case k8 => k_room); (case k9 => exact binds_K (by k_in) rfl (by k_is) rfl rfl rfl); (case kB => exact locs rfl); (case c1 => decide); (case c2 => exact rfl); (case c3 => exact rfl); (case c4 => exact rfl); intro g' L' h' FG' F' N' B' X' T' l1; (try k_lt l1); (try dsimp only); (try k_lift B')))))
local macro_rules | `(tactic| walk_at "wpAt") => `(tactic| (ks_step "exec Expr"; k_dflt (refine ks_wpAt_Expr_any ?_)))
/-- the own dict of a ring: its first size -/
abbrev rdict (w : World) (k : Int) (t tk : Tok) : Obj := dictOf [⟨PyData.keyHash w.params szName, .str szName tk, .int k t⟩] 1
section
variable {w : World} {A : Around} {E : Value → Shared → Prop} {s : Shared} {h₀ : Heap} {L : Addr} {m : Str → Option Value} {news : List (Addr × Obj)} {p : Params}
theorem fn66 (p : Params) : typeIn (hd.heap_39 p) (.ref 66) = some (.type "function") := by kernel_rfl
theorem make_ring {a : Value} {Q : Value → Shared → Prop} (F : Fr h₀ L s.heap m) (X₀ : (hd.heap_39 p).In h₀) (N : News h₀ L s.heap news)
    (h : ∀ x dx h', Fr h₀ L h' m → News h₀ L h' ((x, lobj 129 dx #[] 0) :: (dx, dictOf [] 0) :: news) → (∀ p ∈ news, p.1 < dx) → @LT.lt Nat _ dx x →
      codeAny (model prg w) (A.under (.builtin "type.__call__" ⟨[.ref 129, a], []⟩)) (.call (.ref 66) ⟨[.ref x, a], []⟩) (InitBack x fun r s' => match r with | .ok (.ret v) => Q v s' | .ok _ => False | .error e => E e s') { s with heap := h' }) :
    wpAny (model prg w) A (call (.ref 129) [a]) Q E s := by
  have X := X₀.keeps F.keep
  obtain ⟨hh, g, d, t, os⟩ := s
  have N' := (N.push F emptyDict).push (F.push _) (lobj 129 hh.objs.size #[] 0)
  rw [Heap.size_push] at N'
  exact wpAny_call (makeL (makesL_of X (mk129 p)) (looks_findIn X (ini129 p)) (fun self => bind_fn X self (fn66 p)) (h _ hh.objs.size _ ((F.push _).push _) N' (fun p hp => Heap.lt_size (N p hp).1) (Nat.lt_succ_self _)))
end
set_option maxHeartbeats 8000000 in
theorem make_spec' : Fill → ∀ {w : World} {A₀ : Around} {base h₀ : Heap} {outer : List Env} {L : Addr} {m : Str → Option Value} {news : List (Addr × Obj)} {s : Shared}
    {dp un : Nat} {gd : Option (List Code)} {cn : Str} {nm : List (Str × NameKind)} {ig ic : Bool} {mr : List (Str × Const)} {a : Addr} {ccd : Value} {cl : List (Str × Addr)} {Q E : Value → Shared → Prop}
    (_ : Cx w A₀ base outer h₀ L m news s) (_ : dp ≤ 970) (_ : un ≤ 9400) (k : Int) (t : Tok)
    (_ : ∀ x dx tk n' s', (∀ p ∈ news, p.1 < dx) → @LT.lt Nat _ dx x → Went s s' → Fr h₀ L s'.heap m → News h₀ L s'.heap ((x, lobj 129 dx #[] n') :: (dx, rdict w k t tk) :: news) → Q (.ref x) s'),
    wpAny (model prg w) (ktrTop dp un gd cn (fS nm ig ic mr) L a ccd cl outer) (call (.ref 129) [.int k t]) Q E s := by
  unfold Fill
  k_fill
  intro _ w A₀ base h₀ outer L m news s dp un gd cn nm ig ic mr a ccd cl Q E C hdp hun k t hQ1
  obtain ⟨B, F, X, N, _, _, _, _, T⟩ := C
  refine room hdp hun ?_
  refine make_ring F X N fun x dx h2 F2 N2 l1 hxd => ?_
  have hnd : ∀ p ∈ news, p.1 ≠ dx := fun p hp => Nat.ne_of_lt (l1 p hp)
  have hnx : ∀ p ∈ news, p.1 ≠ x := fun p hp => Nat.ne_of_lt (Nat.lt_trans (l1 p hp) hxd)
  (refine' ks_code_super ?k1 ?k2 ?k3 ?k4 ?k5 ?kA ?kF ?kK ?k6 ?k7 ?k8 ?k9 ?kB ?_ ?c1 ?c2 ?c3 ?c4; (case kA => exact rfl); (case kF => exact rfl); (case kK => exact rfl); (case k1 => k_asm); (case k2 => k_asm); (case k3 => k_asm); (case k4 => k_asm); (case k5 => k_asm); (case k6 => k_is); (case k7 => k_is); (case k8 => k_room); (case k9 => exact binds_K (by k_in) rfl (by k_is) rfl rfl rfl); (case kB => exact locs rfl); (case c1 => decide); (case c2 => exact rfl); (case c3 => exact rfl); (case c4 => exact rfl); intro g' L' h' FG' F' N' B' X' T' l1; (try k_lt l1); (try dsimp only); (try k_lift B'))
  k_steps
  rename News _ _ _ _ => N3
  exact hQ1 _ _ _ _ _ (by assumption) hxd (Went.refl.go rfl rfl) (by k_asm) (News.tl (News.tl N3))

end
section
open PySem PySem.W PySem.W.X PyProof.Rows PySem.Calls Builtin Builtin.ObjectAttr
set_option maxRecDepth 100000
set_option maxHeartbeats 4000000
theorem ga129 (p : Params) : findIn (hd.heap_39 p) (.ref 129) "__getattribute__" = some (some (.builtin "list.__getattribute__")) := by kernel_rfl
theorem ka129 (p : Params) : findIn (hd.heap_39 p) (.ref 129) "__getattr__" = some none := by kernel_rfl
theorem lga_canon : Manifest.canonical "list.__getattribute__" = "object.__getattribute__" := by decide +kernel
section
variable {w : World} {A : Around} {E : Value → Shared → Prop} {s : Shared} {h₀ : Heap} {L : Addr} {m : Str → Option Value} {news : List (Addr × Obj)} {x dx so : Addr} {its : Array Value} {n k : Nat} {es : List DictEntry} {p : Params}
theorem method_ring {name : Str} {f : Addr} {pl : Sem Bool} {Q : Value × List Value → Shared → Prop} (F : Fr h₀ L s.heap m) (X₀ : (hd.heap_39 p).In h₀) (N : News h₀ L s.heap news) (hx : (x, lobj 129 dx its n) ∈ news) (hd' : (dx, dictOf es k) ∈ news)
    (hf : findIn (hd.heap_39 p) (.ref 129) name = some (some (.ref f))) (ht : isFn (hd.heap_39 p) (.ref f) = true) (hl : getL name es = some none) (h : Q (.ref f, [.ref x]) s) : wpAny (model prg w) A (getMethod (.ref x) name pl) Q E s := by
  have X := X₀.keeps F.keep
  have I := inst_l N hx hd'
  unfold getMethod specialOf
  refine wpAny_bind (wpAny_bind (I.type.here ((looks_findIn X (ga129 p)).here ?_)))
  dsimp only
  rw [lga_canon, if_neg (by decide)]
  refine wpAny_bind (wpAny_bind (I.type.here ((looks_findIn X (ka129 p)).here ?_)))
  refine wpAny_bind (wpAny_bind (I.type.here ((looks_findIn X hf).here (wpAny_bind ((looks_typeIn X (beq_iff_eq.mp ht)).here ?_)))))
  rw [if_neg (by decide +kernel)]
  refine wpAny_bind (wpAny_loadPart I.at_ (wpAny_bind (wpAny_bind (wpAny_loadPart (N _ hd').1 ?_))))
  rw [nsLook_of (show lookIn name (dictOf es k) = some none from hl)]
  exact wpAny_pure (wpAny_bind (wpAny_rule (wpAny_pure h)))
end

end
section
open PySem PySem.W PySem.W.X PyProof.Rows PySem.Calls
set_option maxRecDepth 100000
local macro_rules | `(tactic| walk_at "getMethod ref") => `(tactic| ((with_reducible show wpAny _ _ (getMethod (Value.ref _) _ _) _ _ _); k_dflt (refine' super_md (by k_asm) (by k_asm) (by k_asm) (by k_mem) (by k_mem) (own_pop _) typ_pop (by decide +kernel) told_pop (by decide +kernel) ?_; intro q' h' F' N' l1; (try k_lt l1); (try dsimp only))))
local macro_rules | `(tactic| walk_at "call ref") => `(tactic| ((with_reducible show wpAny _ _ (call (Value.ref _) []) _ _ _); k_dflt (refine' call_bpop ?k1 ?k0 ?k2 ?k3 ?k5 ?k4 ?_; (case k1 => k_asm); (case k0 => k_asm); (case k2 => k_asm); (case k3 => k_mem); (case k5 => assumption); (case k4 => k_updF); intro h' n' F' N'; (try dsimp only at N'))))
theorem arr_cases (a : Array Value) : a = #[] ∨ ∃ b v, a = Array.push b v := by
  obtain ⟨l⟩ := a
  rcases List.eq_nil_or_concat l with rfl | ⟨r, v, rfl⟩
  · exact .inl rfl
  · exact .inr ⟨r.toArray, v, by simp⟩
/-- a pair of texts -/
abbrev tup2 (a b : Str) (ta tb : Tok) : Obj := { cls := .type "tuple", data := .seq #[.str a ta, .str b tb] }
end
local macro_rules | `(tactic| walk_at "getMethod ref") => `(tactic| (k_here; k_dflt (refine' method_ring ?k1 ?k2 ?k3 ?k4 ?k5 ?k6 ?k7 ?k8 ?_; (case k1 => k_asm); (case k2 => k_asm); (case k3 => k_asm); (case k4 => k_mem); (case k5 => k_mem); (case k6 => k_is); (case k7 => k_is); (case k8 => k_get); k_whole)))
local macro_rules | `(tactic| walk_at "pad 2") => `(tactic| skip)
section
open PySem PySem.W PySem.W.X PyProof.Rows PySem.Calls
set_option maxRecDepth 100000
local macro_rules | `(tactic| walk_at "getMethod ref") => `(tactic| ((with_reducible show wpAny _ _ (getMethod (Value.ref _) _ _) _ _ _); k_dflt (refine' super_md (by k_asm) (by k_asm) (by k_asm) (by k_mem) (by k_mem) (own_pop _) typ_pop (by decide +kernel) told_pop (by decide +kernel) ?_; intro q' h' F' N' l1; (try k_lt l1); (try dsimp only))))
local macro_rules | `(tactic| walk_at "call ref") => `(tactic| ((with_reducible show wpAny _ _ (call (Value.ref _) []) _ _ _); k_dflt (refine' call_bpop ?k1 ?k0 ?k2 ?k3 ?k5 ?k4 ?_; (case k1 => k_asm); (case k0 => k_asm); (case k2 => k_asm); (case k3 => k_mem); (case k5 => assumption); (case k4 => k_updF); intro h' n' F' N'; (try dsimp only at N'))))
local macro_rules | `(tactic| walk_at "wpAt") => `(tactic| (ks_step "exec Return"; k_dflt (refine ks_wpAt_Return_some ?_)))
set_option maxHeartbeats 8000000 in
theorem pop_spec' : Fill → ∀ {w : World} {A₀ : Around} {base h₀ : Heap} {outer : List Env} {L : Addr} {m : Str → Option Value} {news : List (Addr × Obj)} {s : Shared}
    {dp un : Nat} {gd : Option (List Code)} {cn : Str} {nm : List (Str × NameKind)} {ig ic : Bool} {mr : List (Str × Const)} {a : Addr} {ccd : Value} {cl : List (Str × Addr)} {Q E : Value → Shared → Prop}
    (x dx : Addr) (its : Array Value) (n : Nat) (k : Int) (t tk : Tok) (_ : Cx w A₀ base outer h₀ L m ((x, lobj 129 dx its n) :: (dx, rdict w k t tk) :: news) s) (_ : @LT.lt Nat _ dx x) (_ : ∀ p ∈ news, p.1 ≠ x) (_ : dp ≤ 960) (_ : un ≤ 9300) (_ : its.size ≤ 4096)
    (_ : its = #[] → ∀ D ta tb s', @LT.lt Nat _ x D → Went s s' → Fr h₀ L s'.heap m → News h₀ L s'.heap ((D, tup2 (Str.ofString "") (Str.ofString "") ta tb) :: (x, lobj 129 dx its n) :: (dx, rdict w k t tk) :: news) → Q (.ref D) s')
    (_ : ∀ v its', its = its'.push v → ∀ n' s', Went s s' → Fr h₀ L s'.heap m → News h₀ L s'.heap ((x, lobj 129 dx its' n') :: (dx, rdict w k t tk) :: news) → Q v s'),
    wpAny (model prg w) (ktrTop dp un gd cn (fS nm ig ic mr) L a ccd cl outer) (call (.ref 89) [.ref x]) Q E s := by
  unfold Fill
  k_fill
  intro _ w A₀ base h₀ outer L m news s dp un gd cn nm ig ic mr a ccd cl Q E x dx its n k t tk C hxd hnx hdp hun hsz hQ1 hQ2
  have hq1 := HeldCall.mk 126
  obtain ⟨B, F, X, N, _, _, _, _, T⟩ := C
  refine room hdp hun ?_
  k_steps
  rename Fr _ _ _ _ => F'
  rename News _ _ _ _ => N'
  rename Below _ _ _ _ => B'
  rename Frag.In _ _ => X'
  rename Top _ _ _ _ _ _ => T'
  refine Hold.mk (pc_spec' (dp := 961) (un := 9303) (s := ⟨_, s.gens, s.drawn, _, s.os⟩) fill x dx its n _ ⟨B', F', X', N', _, _, _, _, T'⟩ (.head _) (.tail _ (.head _)) (by decide) (by decide) ?_)
  intro t1 s2 W2 F2 N2
  clear F' N'
  obtain rfl | ⟨its', v, rfl⟩ : its = #[] ∨ ∃ its' v, its = Array.push its' v := by
    exact arr_cases its
  · k_steps
    rename News _ _ _ _ => N3
    rename x < _ ∧ _ => l3
    exact hQ1 rfl _ _ _ _ l3.1 ((show Went s s2 from ⟨W2.os, W2.gens⟩).go rfl rfl) (by k_asm) N3
  · have hsz' : its'.size ≤ 4096 := by rw [Array.size_push] at hsz; exact Nat.le_of_succ_le hsz
    k_steps
    · rename _ = _ => q
      rw [Array.size_push] at q
      omega
    · rename News _ _ _ _ => N3
      exact hQ2 v its' rfl _ _ ((show Went s s2 from ⟨W2.os, W2.gens⟩).go rfl rfl) (by k_asm) (News.tl (News.tl N3))

end
section
open PySem PySem.W PySem.W.X PyProof.Rows PySem.Calls Builtin Builtin.ObjectAttr
set_option maxRecDepth 100000
set_option maxHeartbeats 4000000
theorem gi129 (p : Params) : findIn (hd.heap_39 p) (.ref 129) "__getitem__" = some (some (.builtin "list.__getitem__")) := by kernel_rfl
theorem si129 (p : Params) : findIn (hd.heap_39 p) (.ref 129) "__setitem__" = some (some (.builtin "list.__setitem__")) := by kernel_rfl
theorem it129 (p : Params) : findIn (hd.heap_39 p) (.ref 129) "__iter__" = some (some (.builtin "list.__iter__")) := by kernel_rfl
theorem ns129 (p : Params) : noSeq (hd.heap_39 p) 129 = true := by kernel_rfl
theorem gi_kind : builtinKind "list.__getitem__" = some .slot ∨ builtinKind "list.__getitem__" = some .method := .inr (by decide +kernel)
theorem si_kind : builtinKind "list.__setitem__" = some .slot ∨ builtinKind "list.__setitem__" = some .method := .inl (by decide +kernel)
theorem check_ring {M : Model} {A : Around} {E : Value → Shared → Prop} {h : Heap} {g : Array GenState} {d : Drawn} {t : Nat} {os : OsState} {i nm : String} {self : Value} {rest : List Value} {Q : Unit → Shared → Prop}
    (hk : builtinKind i = some .slot ∨ builtinKind i = some .method) (hs : splitId i = some ("list", nm)) (hi : Looks M h (isInstance self (.type "list")) true) (ha : argsOk i ⟨self :: rest, []⟩) (q : Q () ⟨h, g, d, t, os⟩) :
    wpAny M A (checkBuiltinCall i ⟨self :: rest, []⟩) Q E ⟨h, g, d, t, os⟩ := by
  rcases hk with hk | hk
  all_goals
    simp only [checkBuiltinCall, hk, hs]
    refine wpAny_bind (Looks.at hi ?_)
    simp only [Bool.not_true, Bool.false_eq_true, if_false]
    cases hsig : Manifest.signature? i with
    | none => exact wpAny_pure q
    | some sig =>
      simp only [argsOk, hsig] at ha
      have h2 : Bind.checkArgs i sig ⟨self :: rest, []⟩ = pure () := ha
      show wpAny M A (Bind.checkArgs i sig ⟨self :: rest, []⟩) Q E _
      rw [h2]; exact wpAny_pure q
section
variable {w : World} {A : Around} {E : Value → Shared → Prop} {h : Heap} {g : Array GenState} {d : Drawn} {t : Nat} {os : OsState} {x dx : Addr} {its : Array Value} {n : Nat} {p : Params}
theorem ring_type {M : Model} (hx : h.get? x = some (lobj 129 dx its n)) : Looks M h (typeOf (.ref x)) (.ref 129) := (Looks.ld hx).andThen .now
theorem ring_call {id nm : String} {b : Builtin} {args : List Value} {Q : Value → Shared → Prop} (X : (hd.heap_39 p).In h) (hx : h.get? x = some (lobj 129 dx its n))
    (hk : builtinKind id = some .slot ∨ builtinKind id = some .method) (hs : splitId id = some ("list", nm)) (hp : plainId id = true) (he : entryFor table id = some b) (ha : argsOk id ⟨.ref x :: args, []⟩)
    (hq : wpAny (model prg w) A.in1 (b ⟨.ref x :: args, []⟩) (fun fin s' => ∃ v, fin = .done (.ret v) ∧ Q v s') E ⟨h, g, d, t, os⟩) : wpAny (model prg w) A (call (.builtin id) (.ref x :: args)) Q E ⟨h, g, d, t, os⟩ := by
  refine wpAny_call (codeAny_call_builtin hp he (check_ring hk hs ((ring_type hx).andThen (looks_mroIn X (sub_lst p))) ha (wpAny_mono hq (fun fin s' h' => ?_) fun _ _ h' => h')))
  obtain ⟨v, rfl, hv⟩ := h'; exact hv
theorem ring_slot {id nm : String} {name : Str} {b : Builtin} {args : List Value} {Q : Option Value → Shared → Prop} (X : (hd.heap_39 p).In h) (hx : h.get? x = some (lobj 129 dx its n))
    (hf : findIn (hd.heap_39 p) (.ref 129) name = some (some (.builtin id))) (S : Slot "list" name id) (hk : builtinKind id = some .slot ∨ builtinKind id = some .method) (hs : splitId id = some ("list", nm)) (he : entryFor table id = some b) (ha : argsOk id ⟨.ref x :: args, []⟩)
    (hq : wpAny (model prg w) A.in1 (b ⟨.ref x :: args, []⟩) (fun fin s' => ∃ v, fin = .done (.ret v) ∧ Q (some v) s') E ⟨h, g, d, t, os⟩) : wpAny (model prg w) A (callSpecial? (.ref x) name args) Q E ⟨h, g, d, t, os⟩ := by
  unfold callSpecial? specialOf
  refine wpAny_bind (wpAny_bind (Looks.at (ring_type hx) (Looks.at (looks_findIn X hf) (wpAny_holding ?_))))
  rw [S.bind]
  exact wpAny_bind (wpAny_pure (wpAny_bind (wpAny_mono (ring_call (Q := fun v => Q (some v)) X hx hk hs S.plain he ha hq) (fun _ _ z => wpAny_pure z) fun _ _ z => z)))
theorem list_items {M : Model} {b : Addr} {o : Obj} {xs : Array Value} {k : Nat} {Q : Array Value → Shared → Prop} (hb : h.get? b = some o) (hd : o.data = .seq xs k) (hq : Q xs ⟨h, g, d, t, os⟩) : wpAny M A (Builtin.List.listItems (.ref b)) Q E ⟨h, g, d, t, os⟩ := by
  unfold Builtin.List.listItems
  exact wpAny_bind (wpAny_seqItems hb hd (wpAny_pure hq))
theorem ring_key {name : Str} {v : Value} {Q : Value → Shared → Prop} (X : (hd.heap_39 p).In h) (hx : h.get? x = some (lobj 129 dx its n)) (hq : Q v ⟨h, g, d, t, os⟩) : wpAny (model prg w) A (sequenceKey (.ref x) v name) Q E ⟨h, g, d, t, os⟩ := by
  unfold sequenceKey
  refine wpAny_bind (Looks.at (ring_type hx) ?_)
  refine wpAny_bind (Looks.at (anyM_none X (ns129 p)) ?_)
  rw [if_pos (show (!false) = true from rfl)]
  exact wpAny_pure hq
theorem ring_parts {sl : Addr} {vl vu : Value} {lo hi : Option Int} (hsl : h.IsSliceOf sl vl vu .none) {Q : Value × Value × Value → Shared → Prop} (pl : IsPart vl lo) (pu : IsPart vu hi)
    (hq : Q (rawPart lo, rawPart hi, rawPart none) ⟨h, g, d, t, os⟩) : wpAny (model prg w) A (Builtin.List.listSliceParts (.ref sl)) Q E ⟨h, g, d, t, os⟩ := by
  obtain ⟨o, hos, hcs, hds⟩ := hsl
  rw [listSliceParts_eq]
  refine wpAny_bind (wpAny_field hos hds (x := .none) rfl (wpAny_bind (wpAny_listPart .none ?_)))
  rw [if_neg (show ¬ ((rawPart none == rawInt 0) = true) from Bool.false_ne_true)]
  refine wpAny_bind (wpAny_field hos hds (x := vl) rfl (wpAny_bind (wpAny_listPart pl ?_)))
  exact wpAny_bind (wpAny_field hos hds (x := vu) rfl (wpAny_bind (wpAny_listPart pu (wpAny_pure hq))))
theorem getItem_ring {sl : Addr} {vl vu : Value} {lo hi : Option Int} {Q : Value → Shared → Prop} (X : (hd.heap_39 p).In h) (hx : h.get? x = some (lobj 129 dx its n)) (hsl : h.IsSliceOf sl vl vu .none) (pl : IsPart vl lo) (pu : IsPart vu hi) (hsz : its.size ≤ sizeLine)
    (hq : Q (.ref h.objs.size) ⟨h.push { cls := .type "list", data := .seq (PySem.slicePick its lo hi none) }, g, d, t, os⟩) : wpAny (model prg w) A (getItem (.ref x) (.ref sl)) Q E ⟨h, g, d, t, os⟩ := by
  have hsl' := hsl
  obtain ⟨o, hos, hcs, hds⟩ := hsl
  have hTs : (⟨h, g, d, t, os⟩ : Shared).TypeIs (.ref sl) "slice" := ⟨o, hos, hcs⟩
  unfold getItem
  refine wpAny_holding (wpAny_bind (ring_key X hx (wpAny_bind (ring_slot X hx (gi129 p) slot_list_getitem gi_kind (nm := "__getitem__") (by decide +kernel) entry_list_getitem (args_list_getitem _ _) ?_))))
  show wpAny _ _ (Builtin.List.listSubscript? (.ref sl) >>= _) _ _ _
  refine wpAny_bind ?_
  unfold Builtin.List.listSubscript?
  refine wpAny_bind (wpAny_specialOf hTs slice_no_index ?_)
  simp only [Option.isNone_none, if_true]
  refine wpAny_pure ?_
  show wpAny _ _ (typeOf (.ref sl) >>= _) _ _ _
  refine wpAny_bind (wpAny_typeOf hTs ?_)
  rw [if_neg (by decide)]
  refine wpAny_bind (ring_parts hsl' pl pu ?_)
  refine wpAny_bind (m := Builtin.List.listItems (.ref x)) ?_
  unfold Builtin.List.listItems
  refine wpAny_bind (wpAny_seqItems hx rfl (wpAny_pure ?_))
  refine wpAny_bind (wpAny_of_eq (sliceIndices_raw lo hi none its.size nofun) ?_)
  exact wpAny_bind (wpAny_newObj_type (wpAny_pure ⟨_, rfl, wpAny_pure hq⟩) (Nat.le_trans (slicePick_size_le its lo hi none) hsz))
theorem setItem_ring {sl D : Addr} {vl : Value} {lo : Option Int} {new : Array Value} {nD : Nat} {Q : Unit → Shared → Prop} (X : (hd.heap_39 p).In h) (hx : h.get? x = some (lobj 129 dx its n)) (hsl : h.IsSliceOf sl vl .none .none) (pl : IsPart vl lo) (hlo : lo = none ∨ lo = some 0)
    (hD : h.get? D = some (PySem.W.listOf new nD)) (hsz : its.size ≤ 4096) (hsz' : new.size ≤ 4096) (hDx : D ≠ x)
    (hq : ∀ h' n', h'.get? x = some (lobj 129 dx new n') → (∀ y o, y ≠ x → h.get? y = some o → h'.get? y = some o) → Q () ⟨h', g, d, t, os⟩) : wpAny (model prg w) A (setItem (.ref x) (.ref sl) (.ref D)) Q E ⟨h, g, d, t, os⟩ := by
  have hsl' := hsl
  obtain ⟨o, hos, hcs, hds⟩ := hsl
  have hTs : (⟨h, g, d, t, os⟩ : Shared).TypeIs (.ref sl) "slice" := ⟨o, hos, hcs⟩
  have hTD : (⟨h, g, d, t, os⟩ : Shared).TypeIs (.ref D) "list" := ⟨_, hD, rfl⟩
  unfold setItem
  refine wpAny_holding (wpAny_bind (ring_key X hx (wpAny_bind (ring_slot X hx (si129 p) slot_list_setitem si_kind (nm := "__setitem__") (by decide +kernel) entry_list_setitem (args_list_setitem _ _ _) ?_))))
  show wpAny _ _ (Builtin.List.listSubscript? (.ref sl) >>= _) _ _ _
  refine wpAny_bind ?_
  unfold Builtin.List.listSubscript?
  refine wpAny_bind (wpAny_specialOf hTs slice_no_index ?_)
  simp only [Option.isNone_none, if_true]
  refine wpAny_pure ?_
  show wpAny _ _ (typeOf (.ref sl) >>= _) _ _ _
  refine wpAny_bind (wpAny_typeOf hTs ?_)
  rw [if_neg (by decide)]
  refine wpAny_bind (ring_parts hsl' pl .none ?_)
  have hsame : Builtin.List.listSameRef (.ref x) (.ref D) = false := by simp [Builtin.List.listSameRef, hDx.symm]
  simp only [hsame]
  rw [if_neg Bool.false_ne_true]
  refine wpAny_bind (m := Builtin.List.listAllItems _ _) ?_
  unfold Builtin.List.listAllItems
  refine wpAny_bind (wpAny_typeOf hTD ?_)
  rw [if_pos (by decide)]
  first | refine list_items hD rfl ?_ | refine wpAny_bind (list_items hD rfl (wpAny_pure ?_))
  refine wpAny_bind (list_items hx rfl ?_)
  refine wpAny_bind (wpAny_of_eq (sliceIndices_raw lo none none its.size nofun) ?_)
  have hb : sliceBounds lo none none its.size = (0, (its.size : Int), 1) := by rcases hlo with rfl | rfl <;> simp [sliceBounds] <;> omega
  rw [hb]
  dsimp only
  rw [if_pos (show (1 == (1 : Int)) = true from rfl)]
  have hmx : (Max.max 0 (its.size : Int)).toNat = its.size := by omega
  rw [hmx]
  refine wpAny_bind (wpAny_rule ?_)
  have hlong : Builtin.List.listTooLong (its.size + new.size) = false := by
    unfold Builtin.List.listTooLong
    rw [decide_eq_false_iff_not, sizeLine_eq]; omega
  rw [hlong, if_neg Bool.false_ne_true]
  have e1 : its.extract 0 (Int.toNat 0) ++ new ++ its.extract its.size its.size = new := by simp
  have e5 : Obj.mapSeq (fun xs : Array Value => xs.extract 0 (Int.toNat 0) ++ new ++ xs.extract its.size xs.size) (lobj 129 dx its n) = lobj 129 dx new (if new.size = its.size then n else n + 1) := by simp [Obj.mapSeq, lobj]
  have z := Heap.get?_update_self (Obj.mapSeq fun xs : Array Value => xs.extract 0 (Int.toNat 0) ++ new ++ xs.extract its.size xs.size) hx (by rw [e5]; rfl)
  rw [e5] at z
  refine wpAny_bind (m := Builtin.List.listUpdate _ _) (wpAny_updateSeq hx rfl ?_ (by rw [sizeLine_eq]; omega) (by rw [e1, sizeLine_eq]; omega))
  refine wpAny_bind (wpAny_letGo ?_)
  exact wpAny_pure ⟨_, rfl, wpAny_pure (hq _ _ z fun y o hy e => (Heap.SameBut.update ..).extBut y o hy e)⟩
end

end
section
open PySem PySem.W PySem.W.X PyProof.Rows PySem.Calls
set_option maxRecDepth 100000
section
variable {w : World} {A : Around} {E : Value → Shared → Prop} {s : Shared} {h₀ : Heap} {L : Addr} {m : Str → Option Value} {news : List (Addr × Obj)} {x dx so : Addr} {its : Array Value} {n k : Nat} {p : Params}
theorem slice_ring {value slice : Expr} {vl vu : Value} {lo hi : Option Int} {Q : Value → Shared → Prop} (F : Fr h₀ L s.heap m) (X₀ : (hd.heap_39 p).In h₀) (N : News h₀ L s.heap news) (hx : (x, lobj 129 dx its n) ∈ news) (pl : IsPart vl lo) (pu : IsPart vu hi) (hsz : its.size ≤ 4096)
    (hq : ∀ D h', Fr h₀ L h' m → News h₀ L h' ((D, { cls := .type "list", data := .seq (PySem.slicePick its lo hi none) }) :: news) → (∀ p ∈ news, p.1 < D) → Q (.ref D) { s with heap := h' })
    (hs : subscripted slice false (.ref x) (.ref s.heap.objs.size) = operate [.ref s.heap.objs.size, .ref x] (getItem (.ref x) (.ref s.heap.objs.size)) := by with_unfolding_all rfl)
    (ht : ∀ r, letTemporaryGo value (.ref x) r = pure () := by intro _; with_unfolding_all rfl) :
    wpAny (model prg w) A (subscriptTail value slice (.ref x) (.ref s.heap.objs.size)) Q E { s with heap := s.heap.push { cls := .type "slice", data := .fields #[vl, vu, .none] } } := by
  obtain ⟨hh, g, d, t, os⟩ := s
  have F1 := F.push { cls := .type "slice", data := .fields #[vl, vu, .none] }
  have N1 : News h₀ L _ news := N.grown fun _ _ e => Heap.get?_push_of_some { cls := .type "slice", data := .fields #[vl, vu, .none] } e
  have X := X₀.keeps F1.keep
  have hx1 := (N1 _ hx).1
  unfold subscriptTail getitemInPython specialOf
  dsimp only at hs ⊢
  refine wpAny_bind (wpAny_bind (wpAny_bind (Looks.at (ring_type hx1) (Looks.at (looks_findIn X (gi129 p)) (wpAny_pure ?_)))))
  rw [hs]
  refine wpAny_bind (wpAny_operating (getItem_ring X hx1 (Heap.IsSliceOf.new ..) pl pu (Nat.le_trans hsz (by decide)) (wpAny_bind (wpAny_of_eq (ht _) (wpAny_pure ?_)))))
  exact hq _ _ (F1.push _) (News.push F1 N1 _) (fun p hp => Heap.lt_size (N1 p hp).1)
theorem store_ring {D : Addr} {vl : Value} {lo : Option Int} {new : Array Value} {nD : Nat} {g : Obj → List (Addr × Obj)} {Q : Unit → Shared → Prop} (F : Fr h₀ L s.heap m) (X₀ : (hd.heap_39 p).In h₀) (N : News h₀ L s.heap news) (hD : (D, PySem.W.listOf new nD) ∈ news) (U : UpdF x (lobj 129 dx its n) news g)
    (pl : IsPart vl lo) (hlo : lo = none ∨ lo = some 0) (hsz : its.size ≤ 4096) (hsz' : new.size ≤ 4096)
    (hq : ∀ h' n', Fr h₀ L h' m → News h₀ L h' (g (lobj 129 dx new n')) → Q () { s with heap := h' }) :
    wpAny (model prg w) A (setItem (.ref x) (.ref s.heap.objs.size) (.ref D)) Q E { s with heap := s.heap.push { cls := .type "slice", data := .fields #[vl, .none, .none] } } := by
  obtain ⟨hh, gs, d, t, os⟩ := s
  have F1 := F.push { cls := .type "slice", data := .fields #[vl, .none, .none] }
  have N1 : News h₀ L _ news := N.grown fun _ _ e => Heap.get?_push_of_some { cls := .type "slice", data := .fields #[vl, .none, .none] } e
  have X := X₀.keeps F1.keep
  have U' := U
  obtain ⟨own, rest, rfl, hg, h1, h2⟩ := U.split
  have hx1 := (N1 (x, lobj 129 dx its n) (by simp)).1
  have hDx : D ≠ x := by
    rintro rfl
    have h3 := (N1 _ hD).1
    rw [hx1] at h3
    have := congrArg Obj.cls (Option.some.inj h3)
    exact absurd this (by simp)
  refine setItem_ring X hx1 (Heap.IsSliceOf.new ..) pl hlo (N1 _ hD).1 hsz hsz' hDx fun h' n' e k => ?_
  obtain ⟨F', N'⟩ := upd_at F1 N1 U' e k
  exact hq _ _ F' N'
end
set_option maxHeartbeats 8000000 in
theorem from_spec' : Fill → ∀ {w : World} {A₀ : Around} {base h₀ : Heap} {outer : List Env} {L : Addr} {m : Str → Option Value} {news : List (Addr × Obj)} {s : Shared}
    {dp un : Nat} {gd : Option (List Code)} {cn : Str} {nm : List (Str × NameKind)} {ig ic : Bool} {mr : List (Str × Const)} {a : Addr} {ccd : Value} {cl : List (Str × Addr)} {Q E : Value → Shared → Prop}
    (x dx : Addr) (its : Array Value) (n : Nat) (k : Int) (t tk : Tok) (_ : Cx w A₀ base outer h₀ L m ((x, lobj 129 dx its n) :: (dx, rdict w k t tk) :: news) s) (_ : @LT.lt Nat _ dx x) (_ : ∀ p ∈ news, p.1 ≠ x) (_ : dp ≤ 960) (_ : un ≤ 9300) (_ : its.size ≤ 4096)
    (_ : ∀ D n' s', @LT.lt Nat _ x D → Went s s' → Fr h₀ L s'.heap m → News h₀ L s'.heap ((D, W.listOf its 0) :: (x, lobj 129 dx #[] n') :: (dx, rdict w k t tk) :: news) → Q (.ref D) s'),
    wpAny (model prg w) (ktrTop dp un gd cn (fS nm ig ic mr) L a ccd cl outer) (call (.ref 81) [.ref x]) Q E s := by
  unfold Fill
  k_fill
  intro _ w A₀ base h₀ outer L m news s dp un gd cn nm ig ic mr a ccd cl Q E x dx its n k t tk C hxd hnx hdp hun hsz hQ
  have hq1 := Held.mk "setItem ref"
  have hq2 := Held.mk "setItem ref ref"
  have hq3 := Held.mk "subscriptTail Name Slice ref ref"
  obtain ⟨B, F, X, N, _, _, _, _, T⟩ := C
  refine room hdp hun ?_
  k_steps
  rename Fr _ _ _ _ => F'
  rename News _ _ _ _ => N'
  rename Frag.In _ _ => X'
  refine Hold.mk (slice_ring (lo := some 0) (hi := none) F' X' N' (.head _) (.int _ _) .none hsz (fun D h5 F5 N5 l5 => ?_))
  have e1 : PySem.slicePick its (some (0 : Int)) none none = its := by
    have := PySem.slicePick_from its 0 (Nat.zero_le _)
    simpa using this
  rw [e1] at N5
  have hxD : @LT.lt Nat _ x D := l5 _ (.head _)
  clear N' F'
  k_steps
  rename Fr _ _ _ _ => F'
  rename News _ _ _ _ => N'
  refine Hold.mk (store_ring (lo := some 0) (new := #[]) F' X' N' (.head _) (by k_updF) (.int _ _) (.inr rfl) hsz (Nat.zero_le _) (fun h6 n6 F6 N6 => ?_))
  clear N' F'
  try dsimp only at N6
  k_steps
  rename News _ _ _ _ => N'
  exact hQ _ _ _ hxD (Went.refl.go rfl rfl) (by k_asm) (News.tl N')

end
section
open PySem PySem.W PySem.W.X PyProof.Rows PySem.Calls
set_option maxRecDepth 100000
set_option maxHeartbeats 8000000 in
theorem reset_spec' : Fill → ∀ {w : World} {A₀ : Around} {base h₀ : Heap} {outer : List Env} {L : Addr} {m : Str → Option Value} {news : List (Addr × Obj)} {s : Shared}
    {dp un : Nat} {gd : Option (List Code)} {cn : Str} {nm : List (Str × NameKind)} {ig ic : Bool} {mr : List (Str × Const)} {a : Addr} {ccd : Value} {cl : List (Str × Addr)} {Q E : Value → Shared → Prop}
    (x dx D : Addr) (its new : Array Value) (n nD : Nat) (k : Int) (t tk : Tok) (_ : Cx w A₀ base outer h₀ L m ((x, lobj 129 dx its n) :: (dx, rdict w k t tk) :: news) s) (_ : (D, W.listOf new nD) ∈ news) (_ : @LT.lt Nat _ dx x) (_ : ∀ p ∈ news, p.1 ≠ x) (_ : ∀ p ∈ news, p.1 ≠ dx) (_ : dp ≤ 960) (_ : un ≤ 9300) (_ : its.size ≤ 4096) (_ : new.size ≤ 4096)
    (_ : ∀ n' t' s', Went s s' → Fr h₀ L s'.heap m → News h₀ L s'.heap ((x, lobj 129 dx new n') :: (dx, rdict w 0 t' tk) :: news) → Q .none s'),
    wpAny (model prg w) (ktrTop dp un gd cn (fS nm ig ic mr) L a ccd cl outer) (call (.ref 111) [.ref x, .ref D]) Q E s := by
  unfold Fill
  k_fill
  intro _ w A₀ base h₀ outer L m news s dp un gd cn nm ig ic mr a ccd cl Q E x dx D its new n nD k t tk C hD hxd hnx hnd hdp hun hsz hsz' hQ
  have hq1 := Held.mk "setItem ref"
  have hq2 := Held.mk "setItem ref ref"
  obtain ⟨B, F, X, N, _, _, _, _, T⟩ := C
  refine room hdp hun ?_
  k_steps
  rename Fr _ _ _ _ => F'
  rename News _ _ _ _ => N'
  rename Frag.In _ _ => X'
  refine Hold.mk (store_ring (lo := none) (new := new) F' X' N' (.tail _ (.tail _ hD)) (by k_updF) .none (.inl rfl) hsz hsz' (fun h6 n6 F6 N6 => ?_))
  clear N' F'
  k_steps
  rename News _ _ _ _ => N'
  exact hQ _ _ _ (Went.refl.go rfl rfl) (by k_asm) N'

end
section
open PySem PySem.W PySem.W.X PyProof.Rows PySem.Calls Builtin
set_option maxRecDepth 100000
set_option maxHeartbeats 4000000
section
variable {prog : Program} {w : World} {A : Around} {E : Value → Shared → Prop} {s : Shared}
theorem next_item {it l : Addr} {i : Nat} {ol : Obj} {items : Array Value} {nl : Nat} {x : Value} {Q : Option Value → Shared → Prop} (hit : s.heap.IsListIter it l i)
    (hol : s.heap.get? l = some ol) (hdl : ol.data = .seq items nl) (hx : items[i]? = some x)
    (hQ : ∀ h', h'.IsListIter it l (i + 1) → Heap.SameBut it s.heap h' → Q (some x) { s with heap := h' }) :
    wpAny (model prog w) A (pyNext (.ref it)) Q E s := by
  obtain ⟨o, ho, hc, hd⟩ := id hit
  unfold pyNext
  refine wpAny_bind (wpAny_attempt (wpAny_callSpecial?_slot (name := Str.ofString "__next__") hit.typeIs slot_listiter_next
    (wpAny_call_entry slot_listiter_next hit.typeIs entry_listiter_next ?_ (args_listiter_next _))))
  show wpAny _ _ (field (.ref it) 0 >>= _) _ _ s
  refine wpAny_bind (wpAny_field ho hd (x := .ref l) rfl ?_)
  show wpAny _ _ (if (Value.ref l == Value.none) = true then _ else _) _ _ s
  rw [if_neg (show ¬ ((Value.ref l == Value.none) = true) from Bool.false_ne_true)]
  show wpAny _ _ (field (.ref it) 1 >>= _) _ _ s
  refine wpAny_bind (wpAny_field ho hd (x := .int i 0) rfl ?_)
  show wpAny _ _ (seqItems? (.ref l) >>= _) _ _ s
  refine wpAny_bind (wpAny_seqItems hol hdl ?_)
  simp only [Int.toNat_natCast, hx]
  refine wpAny_bind (wpAny_setField ho hd (by simp) (wpAny_pure ⟨x, rfl, wpAny_pure (hQ _ ?_ (Heap.SameBut.update ..))⟩))
  exact ⟨_, Heap.get?_update_self _ ho (Obj.isFreed_of_fields (Obj.data_mapFields hd _)), (Obj.cls_mapFields ..).trans hc, by
    rw [Obj.data_mapFields hd]; simp [rawInt]⟩
theorem next_end {it l : Addr} {i : Nat} {ol : Obj} {items : Array Value} {nl : Nat} {Q : Option Value → Shared → Prop} (hh : A.handled = none)
    (hit : s.heap.IsListIter it l i) (hol : s.heap.get? l = some ol) (hdl : ol.data = .seq items nl) (hx : items[i]? = none)
    (hQ : ∀ h', Heap.ExtBut it s.heap h' → Q none { s with heap := h' }) : wpAny (model prog w) A (pyNext (.ref it)) Q E s := by
  obtain ⟨o, ho, hc, hd⟩ := id hit
  unfold pyNext
  refine wpAny_bind (wpAny_attempt (wpAny_callSpecial?_slot (name := Str.ofString "__next__") hit.typeIs slot_listiter_next
    (wpAny_call_entry slot_listiter_next hit.typeIs entry_listiter_next ?_ (args_listiter_next _))))
  show wpAny _ _ (field (.ref it) 0 >>= _) _ _ s
  refine wpAny_bind (wpAny_field ho hd (x := .ref l) rfl ?_)
  show wpAny _ _ (if (Value.ref l == Value.none) = true then _ else _) _ _ s
  rw [if_neg (show ¬ ((Value.ref l == Value.none) = true) from Bool.false_ne_true)]
  show wpAny _ _ (field (.ref it) 1 >>= _) _ _ s
  refine wpAny_bind (wpAny_field ho hd (x := .int i 0) rfl ?_)
  show wpAny _ _ (seqItems? (.ref l) >>= _) _ _ s
  refine wpAny_bind (wpAny_seqItems hol hdl ?_)
  simp only [Int.toNat_natCast, hx]
  refine wpAny_bind (wpAny_rule (wpAny_bind (wpAny_setField ho hd (by simp) ?_)))
  show wpAny _ _ (newExc (.type "StopIteration") [] >>= _) _ _ _
  refine wpAny_bind ?_
  simp only [newExc, newTuple]
  refine wpAny_bind (wpAny_newObj_type ?_ (by size_fits))
  refine wpAny_bind (m := firstArgMember _ _) (wpAny_of_eq (a := Value.none) (by first | rfl | (simp only [firstArgMember]; rfl)) ?_)
  refine wpAny_newObj_type ?_ (by size_fits)
  simp only [raiseNew]
  refine wpAny_bind (wpAny_handled ?_)
  rw [show A.in1.handled = none from hh]
  refine wpAny_bind (wpAny_pure (wpAny_throw ?_))
  refine wpAny_bind (wpAny_isInstance (T := "StopIteration") (b := true) ⟨_, Heap.get?_push_size _ rfl, rfl⟩ isSubtype_stop ?_)
  exact wpAny_pure (hQ _ (((Heap.SameBut.update ..).extBut.push _).push _))
end
theorem ringWalks {prog : Program} {w : World} {A : Around} (hh : A.handled = none) (I x dx : Addr) (n : Nat) (hne : x ≠ I) (items : Array Value) (Ts : Nat → Addr) (vals : Nat → Array Value)
    (hit : ∀ j, j < items.size → items[j]? = some (.ref (Ts j))) (hTI : ∀ j, j < items.size → Ts j ≠ I) :
    WalksU prog w A I (I :: x :: (List.range items.size).map Ts) [I] items.size (fun j v => v = vals j)
      (fun j h => h.IsListIter I x j ∧ h.get? x = some (lobj 129 dx items n) ∧ ∀ k, k < items.size → h.IsTuple (Ts k) (vals k))
      (fun j T h => (j < items.size ∧ T = Ts j) ∧ h.IsListIter I x (j + 1) ∧ h.get? x = some (lobj 129 dx items n) ∧ ∀ k, k < items.size → h.IsTuple (Ts k) (vals k)) where
  sub := fun b hb => by simp at hb; simp [hb]
  frame := fun _ _ _ st hk => ⟨st.1.at fun o e => hk I (by simp) o e, hk x (by simp) _ st.2.1,
    fun k hk' => (st.2.2 k hk').at fun o e => hk (Ts k) (List.mem_cons_of_mem _ (List.mem_cons_of_mem _ (List.mem_map.mpr ⟨k, List.mem_range.mpr hk', rfl⟩))) o e⟩
  item := fun i s Q E hi st hQ => by
    refine next_item st.1 st.2.1 rfl (x := .ref (Ts i)) (hit i hi) fun h' hit' hs' => ?_
    have tup : ∀ k, k < items.size → h'.IsTuple (Ts k) (vals k) := fun k hk' => (st.2.2 k hk').extBut hs'.extBut (hTI k hk')
    exact hQ (Ts i) (vals i) h' s.toks rfl (tup i hi) ⟨⟨hi, rfl⟩, hit', hs'.extBut _ _ hne st.2.1, tup⟩ fun b o hb e => hs'.extBut b o (fun h => hb (by simp [h])) e
  go := fun _ _ _ _ _ s Q _ hm hQ => wpAny_letOwnedTupleGo_listiter hm.2.1 (hQ s.heap hm.2 fun _ _ _ e => e)
  apart := fun j T _ hm hmem => by
    rcases List.mem_cons.mp hmem with e | e
    · exact hTI j hm.1.1 (hm.1.2 ▸ e)
    · cases e
  done := fun s Q E st hQ => next_end hh st.1 st.2.1 rfl (by simp) fun h' he' => hQ h' s.toks fun b o hb e => he' b o (fun h => hb (by simp [h])) e
  self := fun _ _ _ _ st hQ => wpAny_pyIter_listiter st.1 hQ
section
variable {w : World} {A : Around} {E : Value → Shared → Prop} {h : Heap} {g : Array GenState} {d : Drawn} {t : Nat} {os : OsState} {x dx : Addr} {its : Array Value} {n : Nat} {p : Params}
theorem li_kind : builtinKind "list.__iter__" = some .slot ∨ builtinKind "list.__iter__" = some .method := by first | exact .inl (by decide +kernel) | exact .inr (by decide +kernel)
theorem iter_ring {Q : Value → Shared → Prop} (X : (hd.heap_39 p).In h) (hx : h.get? x = some (lobj 129 dx its n))
    (hq : Q (.ref h.objs.size) ⟨h.push { cls := .type "list_iterator", data := .fields #[.ref x, .int 0 0] }, g, d, t, os⟩) : wpAny (model prg w) A (pyIter (.ref x)) Q E ⟨h, g, d, t, os⟩ := by
  unfold pyIter
  have cc : wpAny (model prg w) A (call (.builtin "list.__iter__") [.ref x]) (fun v s' => v = .ref h.objs.size ∧ s' = ⟨h.push { cls := .type "list_iterator", data := .fields #[.ref x, .int 0 0] }, g, d, t, os⟩) E ⟨h, g, d, t, os⟩ := by
    refine ring_call X hx li_kind (nm := "__iter__") (by decide +kernel) slot_list_iter.plain entry_list_iter (args_list_iter _) ?_
    show wpAny _ _ (do ret (← newFields "list_iterator" [.ref x, rawInt 0])) _ _ _
    exact wpAny_bind (wpAny_newObj_type (wpAny_pure ⟨_, rfl, rfl, rfl⟩))
  have sp : ∀ {Q : Option Value → Shared → Prop}, Q (some (.builtin "list.__iter__")) ⟨h, g, d, t, os⟩ → wpAny (model prg w) A (specialOf (.ref x) "__iter__") Q E ⟨h, g, d, t, os⟩ := fun hq => by
    unfold specialOf
    exact wpAny_bind (Looks.at (ring_type hx) (Looks.at (looks_findIn X (it129 p)) hq))
  refine wpAny_bind (sp ?_)
  show wpAny (model prg w) A (callSpecialIfBoundUnlessNone? (.ref x) "__iter__" _ >>= _) Q E _
  refine wpAny_bind ?_
  simp only [callSpecialIfBoundUnlessNone?, bindSpecialIfBound?]
  refine wpAny_holding (wpAny_bind (wpAny_bind (sp ?_)))
  simp only [slot_list_iter.bind]
  refine wpAny_bind (wpAny_askSetting (wpAny_ite ?_))
  have fin : ∀ {refuse : Sem Value}, wpAny (model prg w) A (if (Value.builtin "list.__iter__" == Value.none) = true then (refuse >>= fun v => pure (some v)) else (call (.builtin "list.__iter__") [.ref x] >>= fun v => pure (some v))) (fun r s' => r = some (.ref h.objs.size) ∧ s' = ⟨h.push { cls := .type "list_iterator", data := .fields #[.ref x, .int 0 0] }, g, d, t, os⟩) E ⟨h, g, d, t, os⟩ := by
    intro refuse
    simp only [builtin_beq_none, Bool.false_eq_true, if_false]
    exact wpAny_bind (wpAny_mono cc (fun v s' h' => wpAny_pure ⟨by rw [h'.1], h'.2⟩) fun _ _ h' => h')
  split
  · refine wpAny_bind (wpAny_pure (wpAny_pure (wpAny_mono fin (fun r s' h' => ?_) fun _ _ e => e)))
    obtain ⟨rfl, rfl⟩ := h'
    exact wpAny_bind (wpAny_specialOf (T := "list_iterator") ⟨_, Heap.get?_push_size _ rfl, rfl⟩ slot_listiter_next.lookup (wpAny_pure hq))
  · refine wpAny_tryCatch (wpAny_bind (wpAny_pure (wpAny_pure (wpAny_mono fin (fun r s' h' => ?_) fun _ _ e => e))))
    obtain ⟨rfl, rfl⟩ := h'
    exact wpAny_bind (wpAny_specialOf (T := "list_iterator") ⟨_, Heap.get?_push_size _ rfl, rfl⟩ slot_listiter_next.lookup (wpAny_pure hq))
end

end
section
open PySem PySem.W PySem.W.X PyProof.Rows PySem.Calls Builtin
set_option maxRecDepth 100000
set_option maxHeartbeats 4000000
theorem args_sum2 (a b : Value) : argsOk "sum" ⟨[a, b], []⟩ := by unfold argsOk; kernel_rfl
section
variable {prog : Program} {w : World} {A : Around} {R : Result → Shared → Prop} {I : Addr} {fp wr : List Addr} {G : Array GenState → Array GenState → Prop} {n : Nat} {P : Nat → Value → Prop} {St : Nat → Shared → Prop}
theorem sum_loop (W : WalksS prog w A.in1 I fp wr G n P St) (b0 : Int) (val : Nat → Int) (hval : ∀ i v, P i v → ∃ t, v = .int (val i) t) (hfit : ∀ j, j < n → InLong (val j) ∧ InLong (b0 + preSum val (j + 1))) (S : Addr) (hSf : S ∉ fp) :
    ∀ (k i : Nat) (s : Shared) (tA : Tok) (c : Nat), n - i = k → i ≤ n → St i s → s.heap.get? S = some { cls := .type "list", dict := none, data := .seq #[.int (b0 + preSum val i) tA] c, slots := #[] } →
    (∀ s' t', Moved (S :: wr) G s s' → R (.ok (.ret (.int (b0 + preSum val n) t'))) s') → codeAny (model prog w) A (.builtin "sum.loop" ⟨[.ref I, .ref S, rawInt 0, rawInt 0], []⟩) R s := by
  have hSw : S ∉ wr := fun h => hSf (W.sub _ h)
  have hsub : ∀ b ∈ wr, b ∈ S :: wr := fun b hb => List.mem_cons_of_mem _ hb
  intro k
  induction k with
  | zero =>
    intro i s tA c hk hi hst hS hR
    have hin : i = n := by omega
    subst hin
    refine codeAny_builtin F.entry_sum_loop ?_
    rw [Around.under_plainId F.plain_sum_loop _]
    show wpAny _ A.in1 (seqItems? (.ref S) >>= _) _ _ s
    refine wpAny_bind (wpAny_seqItems hS rfl ?_)
    show wpAny _ A.in1 (tryCatch (pyNext (.ref I)) _ >>= _) _ _ s
    refine wpAny_bind (wpAny_tryCatch (W.done s _ _ hst fun s' hm => ?_))
    exact wpAny_pure (hR s' tA (hm.mono hsub))
  | succ k ih =>
    intro i s tA c hk hi hst hS hR
    have hlt : i < n := by omega
    refine codeAny_builtin F.entry_sum_loop ?_
    rw [Around.under_plainId F.plain_sum_loop _]
    show wpAny _ A.in1 (seqItems? (.ref S) >>= _) _ _ s
    refine wpAny_bind (wpAny_seqItems hS rfl ?_)
    show wpAny _ A.in1 (tryCatch (pyNext (.ref I)) _ >>= _) _ _ s
    refine wpAny_bind (wpAny_tryCatch (W.item i s _ _ hlt hst fun v s' hP hst' hm => ?_))
    obtain ⟨t, rfl⟩ := hval i v hP
    have hS' := hm.heap S _ hSw hS
    obtain ⟨⟨f1, f2⟩, f3, f4⟩ := hfit i hlt
    have hc : ((decide (-(2 ^ 63) ≤ val i) && decide (val i < 2 ^ 63)) && (decide (-(2 ^ 63) ≤ b0 + preSum val i + val i) && decide (b0 + preSum val i + val i < 2 ^ 63))) = true := by
      simp only [preSum] at f3 f4
      simp only [Bool.and_eq_true, decide_eq_true_eq]
      exact ⟨⟨f1, f2⟩, by omega, by omega⟩
    show wpAny _ A.in1 (if (_ : Bool) = true then (mkInt (b0 + preSum val i + val i) >>= _) else _) _ _ _
    split
    · refine wpAny_bind (wpAny_mkInt ?_)
      show wpAny _ A.in1 (updateSeq S (fun _ => #[.int (b0 + preSum val i + val i) s'.toks]) >>= _) _ _ _
      refine wpAny_bind ?_
      have e : b0 + preSum val i + val i = b0 + preSum val (i + 1) := by rw [preSum]; omega
      rw [e]
      refine wpAny_updateSeq hS' rfl (wpAny_pure ⟨plainId_quiet F.plain_sum_loop _, ih (i + 1) _ s'.toks _ (by omega) hlt (W.frame _ s' _ _ hst' (by first | exact Nat.le_refl _ | exact Nat.le_succ _ | omega) fun b hb o e => ?_) (Heap.get?_update_self _ hS' rfl) fun s'' t'' hm'' => ?_⟩)
      · exact (Heap.get?_update_other _ _ (fun h : S = b => hSf (by rw [h]; exact hb))).trans e
      · refine hR s'' t'' (Moved.trans W.gtrans ((hm.mono hsub).then_heap (by first | exact Nat.le_refl _ | exact Nat.le_succ _ | omega) fun b o hb e => ?_) hm'')
        exact (Heap.get?_update_other _ _ (fun h : S = b => hb (by rw [h]; exact List.mem_cons_self))).trans e
    · rename_i hneg
      exact absurd hc hneg
end
section
variable {prog : Program} {w : World} {A : Around} {E : Value → Shared → Prop} {s : Shared}
theorem sum_start {x : Value} {b0 : Int} {u : Tok} {Q : Value → Shared → Prop} (hb : InLong b0)
    (h : wpAny (model prog w) A.in1 (pyIter x) (fun it s₂ => ∃ I fp wr G n P St val, it = .ref I ∧ WalksS prog w A.in1 I fp wr G n P St ∧ St 0 s₂ ∧ (∀ b ∈ fp, b < s₂.heap.objs.size) ∧
      (∀ i v, P i v → ∃ t, v = .int (val i) t) ∧ (∀ j, j < n → InLong (val j) ∧ InLong (b0 + preSum val (j + 1))) ∧
      ∀ s' t', Moved wr G s₂ s' → Q (.int (b0 + preSum val n) t') s') E s) :
    wpAny (model prog w) A (call (.builtin "sum") [x, .int b0 u]) Q E s := by
  refine call_function_tree F.kind_sum F.plain_sum F.entry_sum (args_sum2 _ _) ?_
  unfold Builtin.«sum»
  simp only [List.length_cons, List.length_nil]
  rw [if_neg (by decide)]
  refine wpAny_bind (wpAny_of_eq (show Builtin.Builtins.bindParams "sum" ["start"] 0 ⟨[.int b0 u], []⟩ = pure [some (.int b0 u)] from rfl) ?_)
  refine wpAny_bind (wpAny_mono h (fun it s₂ h₂ => ?_) fun _ _ e => e)
  obtain ⟨I, fp, wr, G, n, P, St, val, rfl, W, hst, hfp, hval, hfit, hQ⟩ := h₂
  have hfl : (decide (-(2 ^ 63) ≤ b0) && decide (b0 < 2 ^ 63)) = true := by simp only [Bool.and_eq_true, decide_eq_true_eq]; exact hb
  dsimp only
  split
  · refine wpAny_bind (wpAny_rule (wpAny_bind (wpAny_mkInt (wpAny_bind (wpAny_pure ?_)))))
    simp only [List.forIn_cons, List.forIn_nil]
    refine wpAny_bind (wpAny_bind (wpAny_bind (wpAny_isInstance (T := "int") (b := false) (typeIs_int _ _ _) PySem.sub_int_str ?_)))
    simp only [Bool.false_eq_true, if_false]
    refine wpAny_pure (wpAny_bind (wpAny_bind (wpAny_isInstance (T := "int") (b := false) (typeIs_int _ _ _) PySem.sub_int_bytes ?_)))
    simp only [Bool.false_eq_true, if_false]
    refine wpAny_pure (wpAny_bind (wpAny_bind (wpAny_isInstance (T := "int") (b := false) (typeIs_int _ _ _) PySem.sub_int_bytearray ?_)))
    simp only [Bool.false_eq_true, if_false]
    refine wpAny_pure (wpAny_pure ?_)
    refine wpAny_bind (wpAny_newObj_type ?_)
    have hSf : s₂.heap.objs.size ∉ fp := fun hm => Nat.lt_irrefl _ (hfp _ hm)
    refine wpAny_pure ⟨plainId_quiet F.plain_sum_loop _, sum_loop W b0 val hval hfit s₂.heap.objs.size hSf n 0 _ s₂.toks 0 rfl (Nat.zero_le _)
      (W.frame 0 s₂ _ _ hst (by first | exact Nat.le_refl _ | exact Nat.le_succ _ | omega) fun b _ o e => Heap.get?_push_of_some _ e) ?_ fun s' t' hm => ?_⟩
    · rw [show b0 + preSum val 0 = b0 by simp [preSum]]
      exact Heap.get?_push_size _ rfl
    · exact hQ s' t' (hm.drop_new (by first | exact Nat.le_refl _ | exact Nat.le_succ _ | omega))
  · rename_i hneg
    exact absurd hfl hneg
end

end
section
open PySem PySem.W PySem.W.X PyProof.Rows PySem.Calls Builtin
set_option maxRecDepth 100000
set_option maxHeartbeats 4000000
theorem passing_all (n : Nat) : passing (fun _ => true) n 0 = List.range n := by
  unfold passing; rw [List.drop_zero]; exact List.filter_eq_self.mpr fun _ _ => rfl
/-- a made generator: its walk -/
def GenIs (w : World) (A : Around) (s s₅ : Shared) (a n : Nat) (F : Nat → Value → Prop) : Prop :=
  ∃ fp wr St, WalksS prg w A.in4 a fp wr (GenOnlyQ s.gens.size) n F St ∧ St 0 s₅ ∧ (∀ i s', St i s' → s'.TypeIs (.ref a) "generator") ∧ a ∈ fp ∧ (∀ b ∈ fp, b < s₅.heap.objs.size) ∧ ∀ b ∈ wr, s.heap.get? b = none
theorem walks_mono {prog : Program} {w : World} {A : Around} {I : Addr} {fp wr : List Addr} {G : Array GenState → Array GenState → Prop} {n : Nat} {P P' : Nat → Value → Prop} {St : Nat → Shared → Prop} (W : WalksS prog w A I fp wr G n P St) (h : ∀ i v, i < n → P i v → P' i v) :
    WalksS prog w A I fp wr G n P' St where
  sub := W.sub
  grefl := W.grefl
  gtrans := W.gtrans
  frame := W.frame
  item := fun i s Q E hi st hQ => W.item i s Q E hi st fun v s' hp => hQ v s' (h i v hi hp)
  done := W.done
  self := W.self
theorem push_none {h : Heap} : h.get? h.objs.size = none := by
  cases e : h.get? h.objs.size with
  | none => rfl
  | some o => exact absurd (Heap.lt_size e) (Nat.lt_irrefl _)
theorem genexpr_tab {M : Model} {A : Around} {E : Value → Shared → Prop} {s : Shared} {env : Env} {c P : Addr} {ps : Array Value} {pos : Pos} {qualname : Str} {scope : Scope} {Q : Value → Shared → Prop} (hc : env.code = .ref c) (hok : s.heap.IsCode c P ps) (htab : s.heap.TableAt c P ps)
    (hQ : ∀ code h' tk ps', Heap.ExtBut P s.heap h' → h'.IsCode c P ps' → h'.get? P = some (tabObj ps') → Q code { s with heap := h', toks := tk }) :
    wpAny M A (genexprCode env pos qualname scope) Q E s := by
  cases hnf : codeAmong pos ps.toList with
  | some cv => exact wpAny_genexprCode_hit hc hok hnf (hQ cv s.heap s.toks ps (Heap.ExtBut.refl _ _) hok htab.2)
  | none => exact wpAny_genexprCodeX hc hok htab hnf fun c' h' tk hx _ _ hk _ ht _ => hQ _ h' tk _ hx hk ht.2
section
variable {w : World} {A : Around} {E : Value → Shared → Prop} {s : Shared} {h₀ : Heap} {L a c P : Addr} {m mg mb : Str → Option Value} {news : List (Addr × Obj)} {cn : Str} {cs : Scope} {cl : List (Str × Addr)}
  {pr : Program} {loose : List Str} {mean : ExcName → Option Value} {x dx : Addr} {its : Array Value} {n : Nat} {p : Params} {oP : Obj} {ps : Array Value} {gP : Obj → List (Addr × Obj)}
theorem ring_genexp {elt iter : Expr} {xa xb : Str} {pa pb pt pos : Pos} {kt : Nat} {scope : Scope} {Q : Value → Shared → Prop} {va vb : Nat → Value} {Ts : Nat → Addr} {Fe : Nat → Value → Prop}
    (F : Fr h₀ L s.heap m) (X₀ : (hd.heap_39 p).In h₀) (N : News h₀ L s.heap news) (T : Top pr loose mean mg mb h₀) (CH : CodeHd h₀ c P) (U : UpdF P oP news gP) (hoPe : oP = tabObj ps) (htr : TriplesOk ps.toList)
    (hx : (x, lobj 129 dx its n) ∈ news) (hits : ∀ j, j < its.size → its[j]? = some (.ref (Ts j))) (htup : ∀ j, j < its.size → s.heap.IsTuple (Ts j) #[va j, vb j])
    (hh : A.handled = none) (hco : scope.isCoroutine = false) (hclos : closureFor scope (envX cn cs L a (.ref c) cl) = pure []) (hcell : ∀ y ∈ scope.names, y.2 ≠ .cell) (h0 : scope.names.lookup (".0" : Str) = some NameKind.local)
    (hxa : scope.names.lookup xa = some .local) (hxb : scope.names.lookup xb = some .local) (hab : xa ≠ xb) (hkind : scope.kind = .function) (hroom : A.depth < recursionLimit)
    (hiter : ∀ {Q : Value → Shared → Prop}, Q (.ref x) s → wpAny (model prg w) A (eval iter (envX cn cs L a (.ref c) cl)) Q E s)
    (helt : ∀ C code (A' : Around) E' i (s₂ : Shared) m₂, A'.handled = none → i < its.size → s₂.heap.Ns C m₂ → m₂ xa = some (va i) → m₂ xb = some (vb i) → (∀ b o, h₀.get? b = some o → s₂.heap.get? b = some o) →
      wpAny (model prg w) A' (eval elt (genEnv scope [] C code builtinsNs (envX cn cs L a (.ref c) cl))) (fun y s₃ => Fe i y ∧ Keeps s₂ s₃) E' s₂)
    (hs : ∀ x, genFold iter (envX cn cs L a (.ref c) cl) x = pure x)
    (hQ : ∀ aa s₅ op ps' gs, op = tabObj ps' → TriplesOk ps'.toList → Fr h₀ L s₅.heap m → News h₀ L s₅.heap (gP op) → s₅.os = s.os → s₅.gens = s.gens.push gs → gs.bare = true → GenIs w A s s₅ aa its.size Fe → Q (.ref aa) s₅) :
    wpAny (model prg w) A (eval (.GeneratorExp elt [⟨.Tuple [.Name xa pa, .Name xb pb] kt pt, iter, [], 0⟩] scope pos) (envX cn cs L a (.ref c) cl)) Q E s := by
  have hoP : oP.data = .fields ps := by rw [hoPe]
  refine wpAny_GeneratorExp_walksQT hh hco hclos hcell h0 hxa hxb hab hkind hroom (hiter ?_) hs
  obtain ⟨hp, g, d, t, os⟩ := s
  have X := X₀.keeps F.keep
  obtain ⟨own, rest, hnews, hg, hU1, hU2⟩ := U.split
  have NP := N (P, oP) (by rw [hnews]; simp)
  refine iter_ring X (N _ hx).1 ?_
  have hIs : hp.get? hp.objs.size = none := push_none
  let h2 := hp.push { cls := .type "list_iterator", data := .fields #[.ref x, .int 0 0] }
  have k2 : ∀ b o, hp.get? b = some o → h2.get? b = some o := fun b o e => Heap.get?_push_of_some _ e
  have hlim : h2.NoLimit := T.nolimit.keeps fun b o e => k2 b o (F.keep b o e)
  refine ⟨hlim, ?_⟩
  have hcode : h2.IsCode c P ps := by
    obtain ⟨o, vs, file, tf, flags, tg, inF, text, tt, e1, _, e3, _, f3, f4, f5, f6, f7, f11⟩ := CH
    exact ⟨o, vs, file, tf, flags, tg, inF, text, tt, oP, k2 _ _ (F.keep _ _ e1), e3, f3, f4, f5, f6, f7, k2 _ _ NP.1, hoP, htr, f11⟩
  have htab2 : h2.TableAt c P ps := by
    obtain ⟨o, vs, file, tf, flags, tg, inF, text, tt, e1, ec, e3, e11, _⟩ := CH
    exact ⟨⟨o, vs, k2 _ _ (F.keep _ _ e1), ec, e3, e11⟩, by rw [k2 _ _ NP.1, hoPe]⟩
  refine genexpr_tab rfl hcode htab2 fun code h3 tk3 ps' hx3 hcode3 htab3 => ?_
  replace hx3 : Heap.ExtBut P h2 h3 := hx3
  obtain ⟨o3, vs3, file3, tf3, flags3, tg3, inF3, text3, tt3, op, _, _, _, _, _, _, _, hop, _, htr', _⟩ := hcode3
  have hopd : op = tabObj ps' := Option.some.inj (hop.symm.trans htab3)
  have keep0 : ∀ b o, h₀.get? b = some o → b ≠ P := fun b o e q => by rw [q, NP.2.2] at e; cases e
  have k03 : ∀ b o, h₀.get? b = some o → h3.get? b = some o := fun b o e => hx3 b o (keep0 b o e) (k2 b o (F.keep b o e))
  obtain ⟨bm, ob, b1, b2, b3, b4, b5, b6⟩ := T.bmain
  refine wpAny_builtinsFor (T.g.keeps k03) b1 b2 (k03 _ _ b3) b4 b5 b6 ?_
  have xne : x ≠ P := by
    rintro rfl
    have h1 := (N _ hx).1
    rw [NP.1] at h1
    have h2 : oP = lobj 129 dx its n := Option.some.inj h1
    rw [h2] at hoP
    exact Data.noConfusion hoP
  have tne : ∀ j, j < its.size → Ts j ≠ P := fun j hj q => by
    obtain ⟨o, e, _, _, e2⟩ := htup j hj
    rw [q] at e
    rw [NP.1] at e
    rw [← Option.some.inj e, hoP] at e2
    exact Data.noConfusion e2
  have tlt : ∀ j, j < its.size → Ts j < hp.objs.size := fun j hj => by obtain ⟨_, e, _⟩ := htup j hj; exact Heap.lt_size e
  have xlt : x < hp.objs.size := Heap.lt_size (N _ hx).1
  have ine : hp.objs.size ≠ P := fun q => by rw [q, NP.1] at hIs; cases hIs
  have hI2 : h2.get? hp.objs.size = some { cls := .type "list_iterator", data := .fields #[.ref x, .int 0 0] } := Heap.get?_push_size _ rfl
  have W := fun (A' : Around) (hA : A'.handled = none) => (ringWalks (prog := prg) (w := w) hA hp.objs.size x dx n (Nat.ne_of_lt xlt) its Ts (fun j => #[va j, vb j]) hits fun j hj => Nat.ne_of_lt (tlt j hj)).bound
  have hI3 := hx3 _ _ ine hI2
  have cslt : cStatics < hp.objs.size := by
    obtain ⟨_, hn, _⟩ := T.nolimit
    exact Nat.lt_of_lt_of_le hn.lt (by
      obtain ⟨oL, _, _, hL, _⟩ := F.ns
      exact Nat.le_trans F.above (Nat.le_of_lt (Heap.lt_size hL)))
  have ge0 : ∀ b, b ∈ [hp.objs.size] → hp.get? b = none := fun b hb => by rw [List.mem_singleton.mp hb]; exact hIs
  refine ⟨hp.objs.size, _, [hp.objs.size], its.size, _, _, _, fun _ => true, Fe, rfl, W, ?_, ⟨⟨_, hI3, rfl, rfl⟩, hx3 _ _ xne (k2 _ _ (N _ hx).1), fun k hk => let ⟨o, e, r⟩ := htup k hk; ⟨o, hx3 _ _ (tne k hk) (k2 _ _ e), r⟩⟩, ?_, T.nolimit.keeps k03, ?_, ?_, ?_⟩
  · rintro i vals ⟨_, rfl⟩
    exact ⟨_, _, rfl⟩
  · intro b hb
    have h3lt : ∀ b o, h3.get? b = some o → b < h3.objs.size := fun b o e => Heap.lt_size e
    rcases List.mem_cons.mp hb with rfl | hb
    · exact h3lt _ _ hI3
    · rcases List.mem_cons.mp hb with rfl | hb
      · exact h3lt _ _ (hx3 _ _ xne (k2 _ _ (N _ hx).1))
      · obtain ⟨j, hj, rfl⟩ := List.mem_map.mp hb
        have hj := List.mem_range.mp hj
        obtain ⟨o, e, _⟩ := htup j hj
        exact h3lt _ o (hx3 _ _ (tne j hj) (k2 _ _ e))
  · intro q
    exact absurd (List.mem_singleton.mp q) (Nat.ne_of_lt cslt)
  · intro href hhref
    have old : ∀ (s₂ : Shared), (∀ b ∈ List.range h3.objs.size, b ∉ [hp.objs.size] → ∀ o, href.get? b = some o → s₂.heap.get? b = some o) → ∀ b o, h₀.get? b = some o → s₂.heap.get? b = some o := fun s₂ hk b o e => by
      have e3 := k03 b o e
      refine hk b (List.mem_range.mpr (Heap.lt_size e3)) (fun q => ?_) o (hhref b o e3)
      have := F.keep b o e
      rw [ge0 b q] at this; cases this
    refine ⟨fun A' E' i v1 v2 s₂ m₂ hA hP hn ha hb hk => ?_, fun A' E' i v1 v2 s₂ m₂ hA hP _ hn ha hb hk => ?_⟩
    · exact wpAny_pure ⟨rfl, s₂.heap, s₂.toks, rfl, fun _ _ e => e⟩
    · obtain ⟨hi, e⟩ := hP
      obtain ⟨rfl, rfl⟩ : v1 = va i ∧ v2 = vb i := by simpa using congrArg Array.toList e
      exact helt _ code A' E' i s₂ m₂ hA hi hn ha hb (old s₂ hk)
  · intro aa h5 tk5 gs hbare hlt hsz5 hk5 W5 hat
    have k5 : ∀ b o, b ≠ P → hp.get? b = some o → h5.get? b = some o := fun b o hb e => hk5 b o (hx3 b o hb (k2 b o e))
    refine hQ aa _ op ps' gs hopd htr' ⟨F.ns.at' fun o e => k5 _ o (fun q => NP.2.1 q.symm) e, fun b o e => k5 b o (keep0 b o e) (F.keep b o e), F.above⟩ (fun q hq => ?_) rfl rfl hbare ?_
    · rw [hg] at hq
      rcases List.mem_append.mp hq with hq | hq
      · have := N q (by rw [hnews]; exact List.mem_append_left _ hq)
        exact ⟨k5 _ _ (hU1 q hq) this.1, this.2⟩
      · rcases List.mem_cons.mp hq with rfl | hq
        · exact ⟨hk5 _ _ hop, NP.2⟩
        · have := N q (by rw [hnews]; exact List.mem_append_right _ (.tail _ hq))
          exact ⟨k5 _ _ (hU2 q hq) this.1, this.2⟩
    · rw [passing_all, List.length_range] at W5
      refine ⟨_, _, _, walks_mono W5 (fun i v hi hv => ?_), hat, fun i s' st => st.1.typeIs, List.mem_cons_self, ?_, ?_⟩
      · obtain ⟨j, hj, hF⟩ := hv
        rw [List.getElem?_range hi] at hj
        cases hj; exact hF
      · intro b hb
        show b < h5.objs.size
        rw [hsz5]
        rcases List.mem_cons.mp hb with rfl | hb
        · exact Nat.lt_succ_self _
        · rcases List.mem_cons.mp hb with rfl | hb
          · exact Nat.lt_succ_of_lt hlt
          · exact Nat.lt_succ_of_lt (Nat.lt_trans (List.mem_range.mp hb) hlt)
      · intro b hb
        rcases List.mem_cons.mp hb with rfl | hb
        · show hp.get? h3.objs.size = none
          cases e : hp.get? h3.objs.size with
          | none => rfl
          | some o =>
            exfalso
            have hl := Heap.lt_size e
            have h3s : h3.get? hp.objs.size = some _ := hI3
            exact absurd (Nat.lt_trans hl (Heap.lt_size h3s)) (Nat.lt_irrefl _)
        · exact ge0 b hb
end

end
section
open PySem PySem.W PySem.W.X PyProof.Rows PySem.Calls Builtin Builtin.ObjectAttr
set_option maxRecDepth 100000
set_option maxHeartbeats 4000000
theorem slot_lga : Slot "list" "__getattribute__" "list.__getattribute__" := .of (owner := "list") (n := "__getattribute__") (by rw [typeLookup_type, builtinLookup_eq_fast]; kernel_rfl) (by decide +kernel) (by decide +kernel) (by decide +kernel)
  (by first | exact .inl (by decide +kernel) | exact .inr (by decide +kernel)) (by rw [isSubtype_type]; kernel_rfl)
theorem entry_lga : entryFor table "list.__getattribute__" = some Builtin.«object.__getattribute__» :=
  entryFor_alias (id' := "object.__getattribute__") (by rw [fastTable_eq_tree]; kernel_rfl) (by decide +kernel) (by decide +kernel) (by rw [fastTable_eq_tree]; kernel_rfl)
theorem args_lga (a b : Value) : argsOk "list.__getattribute__" ⟨[a, b], []⟩ := by unfold argsOk; kernel_rfl
theorem lga_kind : builtinKind "list.__getattribute__" = some .slot ∨ builtinKind "list.__getattribute__" = some .method := by first | exact .inl (by decide +kernel) | exact .inr (by decide +kernel)
section
variable {w : World} {A : Around} {E : Value → Shared → Prop} {s : Shared} {h₀ : Heap} {L : Addr} {m : Str → Option Value} {news : List (Addr × Obj)} {x dx so : Addr} {its : Array Value} {n k : Nat} {es : List DictEntry} {p : Params}
theorem getAttr_ring {expr : Bool} {v : Value} {Q : Value → Shared → Prop} (F : Fr h₀ L s.heap m) (X₀ : (hd.heap_39 p).In h₀) (N : News h₀ L s.heap news) (hx : (x, lobj 129 dx its n) ∈ news) (hd' : (dx, dictOf es k) ∈ news)
    (hl : getL szName es = some (some v)) (hv : handedIn v = true) (hq : Q v { s with toks := s.toks + 1 }) : wpAny (model prg w) A (getAttr (.ref x) szName expr) Q E s := by
  have X := X₀.keeps F.keep
  have I := inst_l N hx hd'
  have hx' := (N _ hx).1
  obtain ⟨hh, g, d, t, os⟩ := s
  unfold getAttr getAttrBy
  refine wpAny_bind (wpAny_mkText (wpAny_holding (wpAny_bind (Looks.at I.type (wpAny_bind (Looks.at (looks_findIn X (ga129 p)) ?_))))))
  show wpAny _ _ (getAttrByItsOwn (.ref x) (.str szName t) (.ref 129) (.builtin "list.__getattribute__") true expr) _ _ _
  unfold getAttrByItsOwn hookBefore callGetattribute boundAndCalled
  refine wpAny_bind ?_
  show wpAny _ _ (typeLookup (.ref 129) "__getattr__") _ _ _
  refine Looks.at (looks_findIn X (ka129 p)) ?_
  rw [if_neg (show ¬ ((expr && onTheHeap (.builtin "list.__getattribute__")) = true) by cases expr <;> decide)]
  refine wpAny_bind (wpAny_attempt (wpAny_holding ?_))
  rw [slot_lga.bind]
  refine wpAny_bind (wpAny_pure ?_)
  refine wpAny_mono (Q := fun r s' => r = v ∧ s' = ⟨hh, g, d, t + 1, os⟩) (E := fun _ _ => False) (ring_call X hx' lga_kind (nm := "__getattribute__") (by decide +kernel) slot_lga.plain entry_lga (args_lga _ _) ?_) (fun r s' h' => ?_) fun _ _ z => z.elim
  · unfold Builtin.«object.__getattribute__»
    have L1 : Looks (model prg w) hh (find (.ref x) (.ref 129) szName) (.value v) := looks_find X I (findObj_own (has129 p) (own_none p) rfl hl)
    refine wpAny_bind (wpAny_pure ?_)
    dsimp only
    refine wpAny_bind (wpAny_pure (wpAny_bind (Looks.at I.type (wpAny_bind (Looks.at L1 ?_)))))
    exact wpAny_pure ⟨v, rfl, rfl, rfl⟩
  · obtain ⟨rfl, rfl⟩ := h'
    dsimp only
    rw [handedOut_of hv]
    exact wpAny_pure hq
end

end
section
open PySem PySem.W PySem.W.X PyProof.Rows PySem.Calls
set_option maxRecDepth 100000
section
variable {M : Model} {A : Around} {E : Value → Shared → Prop} {s : Shared} {K : Frag} {g : Heap} {mg mb : Str → Option Value} {pr : Program} {loose : List Str} {mean : ExcName → Option Value} {x : Str} {pos : Pos} {v : Value} {Q : Value → Shared → Prop} {scope : Scope} {cl : List (Str × Addr)} {C : Addr} {code : Value} {cn : Str} {cs : Scope} {L a : Addr} {cd : Value} {cl' : List (Str × Addr)}
theorem nameGen_B (hold : ∀ b o, g.get? b = some o → s.heap.get? b = some o) (X : K.In g) (T : Top pr loose mean mg mb g) (e : nsIn K mainGlobals x = some none) (hv : bootBuiltins x = some v) (hn : x ≠ "__name__") (hk : scope.kind = .function) (hx : scope.names.lookup x = some .globalImplicit)
    (hd : (x == ("__debug__" : Str)) = false) (h : Q v s) : wpAny M A (eval (.Name x pos) (genEnv scope cl C code builtinsNs (envX cn cs L a cd cl'))) Q E s :=
  Name_function_global (env := genEnv scope cl C code builtinsNs (envX cn cs L a cd cl')) hk hx (loadGlobal_builtin (env := genEnv scope cl C code builtinsNs (envX cn cs L a cd cl')) (T.g.keeps hold) (mg_none_of X T.g e) (T.b.keeps hold) ((T.builtins x hn).trans hv) h) hd
theorem nameGen_L {m : Str → Option Value} (hns : s.heap.Ns C m) (hv : m x = some v) (hk : scope.kind = .function) (hx : scope.names.lookup x = some .local)
    (hd : (x == ("__debug__" : Str)) = false) (h : Q v s) : wpAny M A (eval (.Name x pos) (genEnv scope cl C code builtinsNs (envX cn cs L a cd cl'))) Q E s :=
  wpAny_Name (wpAny_loadName_local (env := genEnv scope cl C code builtinsNs (envX cn cs L a cd cl')) hk hx hns hv h) hd
theorem nameGen_K (hold : ∀ b o, g.get? b = some o → s.heap.get? b = some o) (X : K.In g) (T : Top pr loose mean mg mb g) (e : nsIn K mainGlobals x = some (some v)) (hk : scope.kind = .function) (hx : scope.names.lookup x = some .globalImplicit)
    (hd : (x == ("__debug__" : Str)) = false) (h : Q v s) : wpAny M A (eval (.Name x pos) (genEnv scope cl C code builtinsNs (envX cn cs L a cd cl'))) Q E s :=
  Name_function_global (env := genEnv scope cl C code builtinsNs (envX cn cs L a cd cl')) hk hx (loadGlobal_global (env := genEnv scope cl C code builtinsNs (envX cn cs L a cd cl')) (T.g.keeps hold) (mg_of X T.g e) h) hd
end
theorem fr_moved {g h h' : Heap} {L : Addr} {m : Str → Option Value} {wr : List Addr} (F : Fr g L h m) (k : ∀ b o, b ∉ wr → h.get? b = some o → h'.get? b = some o) (hL : L ∉ wr) (hg : ∀ b o, g.get? b = some o → b ∉ wr) : Fr g L h' m :=
  ⟨F.ns.at' fun o e => k _ o hL e, fun b o e => k b o (hg b o e) (F.keep b o e), F.above⟩
theorem news_moved {g h h' : Heap} {L : Addr} {wr : List Addr} {news : List (Addr × Obj)} (N : News g L h news) (k : ∀ b o, b ∉ wr → h.get? b = some o → h'.get? b = some o) (hn : ∀ p ∈ news, p.1 ∉ wr) : News g L h' news :=
  fun p hp => ⟨k _ _ (hn p hp) (N p hp).1, (N p hp).2⟩
theorem gen_apart {g h : Heap} {L : Addr} {m : Str → Option Value} {wr : List Addr} {news : List (Addr × Obj)} (F : Fr g L h m) (N : News g L h news) (hwr : ∀ b ∈ wr, h.get? b = none) : L ∉ wr ∧ (∀ b o, g.get? b = some o → b ∉ wr) ∧ ∀ p ∈ news, p.1 ∉ wr := by
  have old : ∀ b o, h.get? b = some o → b ∉ wr := fun b o e hb => by rw [hwr b hb] at e; cases e
  refine ⟨?_, fun b o e => old b o (F.keep b o e), fun p hp => old _ _ (N p hp).1⟩
  obtain ⟨o, _, _, e, _⟩ := F.ns
  exact old _ o e
theorem gens_moved {a b : Array GenState} {y : GenState} (x : GenOnlyQ a.size (a.push y) b) (hy : y.bare = true) : ∃ z, b = a.push z ∧ z.bare = true := by
  rcases x with rfl | ⟨⟨hs, ho⟩, hb⟩
  · exact ⟨y, rfl, hy⟩
  · have hlt : a.size < b.size := by rw [hs, Array.size_push]; exact Nat.lt_succ_self _
    refine ⟨b[a.size], ?_, hb _ (Array.getElem?_eq_getElem hlt)⟩
    apply Array.ext_getElem?
    intro i
    by_cases hi : i = a.size
    · rw [hi, Array.getElem?_push_size, Array.getElem?_eq_getElem hlt]
    · rw [ho i hi, Array.getElem?_push, if_neg hi, Array.getElem?_push, if_neg hi]
/-- a piece of a ring: its tuple, white space and text -/
abbrev Pc := Addr × (Str × Tok) × (Str × Tok)
abbrev pcRefs (ts : List Pc) : Array Value := (ts.map fun q => Value.ref q.1).toArray
abbrev pcObj (q : Pc) : Obj := tup2 q.2.1.1 q.2.2.1 q.2.1.2 q.2.2.2
def pcLen (q : Pc) : Nat := q.2.1.1.length + q.2.2.1.length
/-- a code's table of made codes -/
def GTab (P : Addr) (oP : Obj) : Prop := ∃ ps, oP = tabObj ps ∧ TriplesOk ps.toList
theorem preSum_take {val : Nat → Int} {ts : List Pc} (h : ∀ j q, ts[j]? = some q → val j = (pcLen q : Int)) : ∀ n, n ≤ ts.length → preSum val n = (((ts.take n).map pcLen).sum : Nat)
  | 0, _ => rfl
  | n + 1, hn => by
    rw [preSum, preSum_take h n (by omega), h n ts[n] (List.getElem?_eq_getElem (by omega)), List.take_add_one, List.getElem?_eq_getElem (by omega), List.map_append, List.sum_append]
    rfl
theorem preSum_list {val : Nat → Int} {ts : List Pc} (h : ∀ j q, ts[j]? = some q → val j = (pcLen q : Int)) : preSum val ts.length = ((ts.map pcLen).sum : Nat) := by
  rw [preSum_take h _ (Nat.le_refl _), List.take_length]
theorem sum_le {ts : List Pc} (h : ∀ q ∈ ts, pcLen q ≤ 64) : (ts.map pcLen).sum ≤ 64 * ts.length := by
  induction ts with
  | nil => exact Nat.le_refl _
  | cons q r ih =>
    have h1 := h q (.head _)
    have h2 := ih fun p hp => h p (.tail _ hp)
    rw [List.map_cons, List.sum_cons, List.length_cons]; omega
def pcVal (ts : List Pc) (j : Nat) : Int := (((ts[j]?.map pcLen).getD 0 : Nat) : Int)
theorem pcVal_at {ts : List Pc} (j : Nat) (q : Pc) (hq : ts[j]? = some q) : pcVal ts j = (pcLen q : Int) := by unfold pcVal; rw [hq]; rfl
def pcT (ts : List Pc) (j : Nat) : Addr := (ts[j]?.map fun q => q.1).getD 0
def pcA (ts : List Pc) (j : Nat) : Value := (ts[j]?.map fun q => Value.str q.2.1.1 q.2.1.2).getD .none
def pcB (ts : List Pc) (j : Nat) : Value := (ts[j]?.map fun q => Value.str q.2.2.1 q.2.2.2).getD .none
theorem pc_hits {ts : List Pc} (j : Nat) (hj : j < (pcRefs ts).size) : (pcRefs ts)[j]? = some (.ref (pcT ts j)) := by
  have hj' : j < ts.length := by simpa using hj
  simp [pcT, List.getElem?_eq_getElem hj']
theorem pc_tup {ts : List Pc} {g h : Heap} {L : Addr} {news : List (Addr × Obj)} (N : News g L h news) (hts : ∀ q ∈ ts, (q.1, pcObj q) ∈ news) (j : Nat) (hj : j < (pcRefs ts).size) : h.IsTuple (pcT ts j) #[pcA ts j, pcB ts j] := by
  have hj' : j < ts.length := by simpa using hj
  have := (N _ (hts ts[j] (List.getElem_mem hj'))).1
  simp only [pcT, pcA, pcB, List.getElem?_eq_getElem hj', Option.map_some, Option.getD_some]
  exact ⟨_, this, rfl, _, rfl⟩
theorem pc_at {ts : List Pc} {j : Nat} (hj : j < (pcRefs ts).size) : ∃ q, ts[j]? = some q ∧ q ∈ ts ∧ pcA ts j = .str q.2.1.1 q.2.1.2 ∧ pcB ts j = .str q.2.2.1 q.2.2.2 := by
  have hj' : j < ts.length := by simpa using hj
  exact ⟨ts[j], List.getElem?_eq_getElem hj', List.getElem_mem hj', by simp [pcA, hj'], by simp [pcB, hj']⟩
end
local macro_rules | `(tactic| walk_at "eval Name") => `(tactic| ((with_reducible show wpAny _ _ (eval (Expr.Name _ _) (genEnv _ _ _ _ _ _)) _ _ _); k_dflt (refine nameGen_L (by assumption) (by assumption) rfl rfl (by decide) ?_)))
section
open PySem PySem.W PySem.W.X PyProof.Rows PySem.Calls
set_option maxRecDepth 100000
local macro_rules | `(tactic| walk_at "eval Name") => `(tactic| ((with_reducible show wpAny _ _ (eval (Expr.Name _ _) (genEnv _ _ _ _ _ _)) _ _ _); k_dflt (refine nameGen_B (by assumption) (by assumption) (by assumption) (by k_is) (by boot_by_name) (by decide +kernel) rfl rfl (by decide) ?_)))
local macro_rules | `(tactic| walk_at "getAttr ref") => `(tactic| (k_here; k_dflt (refine' getAttr_ring ?k1 ?k2 ?k3 ?k4 ?k5 ?k6 ?k7 ?_; (case k1 => k_asm); (case k2 => k_asm); (case k3 => k_asm); (case k4 => k_mem); (case k5 => k_mem); (case k6 => k_get); (case k7 => k_handed); k_whole)))
set_option maxHeartbeats 8000000 in
theorem len_spec' : Fill → ∀ {w : World} {A₀ : Around} {base h₀ : Heap} {outer : List Env} {L : Addr} {m : Str → Option Value} {news : List (Addr × Obj)} {s : Shared}
    {dp un : Nat} {gd : Option (List Code)} {cn : Str} {nm : List (Str × NameKind)} {ig ic : Bool} {mr : List (Str × Const)} {a : Addr} {ccd : Value} {cl : List (Str × Addr)} {Q E : Value → Shared → Prop}
    (x dx : Addr) (ts : List Pc) (n : Nat) (k : Nat) (t tz : Tok) (oP : Obj) (_ : Cx w A₀ base outer h₀ L m ((91, oP) :: (x, lobj 129 dx (pcRefs ts) n) :: (dx, rdict w k t tz) :: news) s) (_ : CodeHd base 95 91) (_ : GTab 91 oP) (_ : ∀ q ∈ ts, (q.1, pcObj q) ∈ news) (_ : x ≠ 91) (_ : dx ≠ 91) (_ : ∀ p ∈ news, p.1 ≠ 91) (_ : dp ≤ 960) (_ : un ≤ 9300)
    (_ : ts.length ≤ 64) (_ : ∀ q ∈ ts, pcLen q ≤ 64) (_ : k ≤ 64)
    (_ : ∀ t' op s', GTab 91 op → Went s s' → Fr h₀ L s'.heap m → News h₀ L s'.heap ((91, op) :: (x, lobj 129 dx (pcRefs ts) n) :: (dx, rdict w k t tz) :: news) → Q (.int ((k + (ts.map pcLen).sum : Nat) : Int) t') s'),
    wpAny (model prg w) (ktrTop dp un gd cn (fS nm ig ic mr) L a ccd cl outer) (call (.ref 96) [.ref x]) Q E s := by
  unfold Fill
  k_fill
  intro _ w A₀ base h₀ outer L m news s dp un gd cn nm ig ic mr a ccd cl Q E x dx ts n k t tz oP C hC hG hts hx91 hd91 h91 hdp hun hlen hpl hk hQ
  have hq1 := Held.mk "eval GeneratorExp"
  have hq2 := Held.mk "call builtin:sum"
  obtain ⟨B, F, X, N, _, _, _, _, T⟩ := C
  refine room hdp hun ?_
  k_steps
  rename Fr _ _ _ _ => F'
  rename News _ _ _ _ => N'
  rename Frag.In _ _ => X'
  rename Top _ _ _ _ _ _ => T'
  rename Below _ _ _ _ => B'
  obtain ⟨ps, hps, htr⟩ := hG
  refine Hold.mk (ring_genexp (P := 91) (Ts := pcT ts) (va := pcA ts) (vb := pcB ts) (Fe := fun j v => ∃ q t, ts[j]? = some q ∧ v = .int (pcLen q) t) F' X' N' T' (CodeHd.keeps hC B'.stays) (by k_updF) hps htr (.tail _ (.head _)) pc_hits (pc_tup N' fun q hq => .tail _ (.tail _ (.tail _ (hts q hq)))) rfl rfl rfl (by decide) rfl rfl rfl (by decide) rfl (by k_room) ?iter ?elt (fun _ => rfl) ?_)
  case iter => intro Q' hQ'; k_steps; exact hQ'
  case elt =>
    intro C code A' E' i s₂ m₂ hA' hi hn ha hb hold
    obtain ⟨q, hq, hqm, e1, e2⟩ := pc_at hi
    rw [e1] at ha
    rw [e2] at hb
    have hl1 : q.2.1.1.length ≤ 4096 := by have := hpl q hqm; unfold pcLen at this; omega
    have hl2 : q.2.2.1.length ≤ 4096 := by have := hpl q hqm; unfold pcLen at this; omega
    clear F' N'
    k_steps
    exact ⟨_, _, rfl, fun _ _ e => e⟩
  intro aa s5 op ps' gs hopd htr' F5 N5 hos5 hgens5 hbare hgen
  obtain ⟨fp, wr, St, W, hst, hT, hafp, hfp, hwr⟩ := hgen
  obtain ⟨hL, hg, hn'⟩ := gen_apart F' N' hwr
  have hn : ∀ p ∈ (91, op) :: (x, lobj 129 dx (pcRefs ts) n) :: (dx, rdict w k t tz) :: news, p.1 ∉ wr := fun p hp => by
    rcases List.mem_cons.mp hp with rfl | hp
    · exact hn' (91, oP) (.head _)
    · exact hn' p (.tail _ hp)
  clear F' N'
  k_steps
  rename Fr _ _ _ _ => F6
  rename News _ _ _ _ => N6
  refine Hold.mk (sum_start ⟨by omega, by omega⟩ ?_)
  have hv := @pcVal_at ts
  have hst' := W.frame 0 s5 s5.heap (s5.toks + 1) hst (Nat.le_succ _) fun b _ o e => e
  refine (WalksS.in4_1 W).self 0 _ _ _ hst' ⟨aa, fp, wr, _, _, _, _, pcVal ts, rfl, WalksS.in4_1 W, hst', hfp, ?_, ?_, fun s7 t7 hm => ?_⟩
  · rintro i v ⟨q, u, hq, rfl⟩
    exact ⟨u, by rw [hv i q hq]⟩
  · intro j hj
    have hj' : j < ts.length := by simpa using hj
    rw [preSum_take hv (j + 1) hj']
    have h1 := sum_le (ts := ts.take (j + 1)) fun q hq => hpl q (List.mem_of_mem_take hq)
    have h2 := hpl ts[j] (List.getElem_mem hj')
    have h3 : (ts.take (j + 1)).length ≤ 64 := Nat.le_trans (List.length_take_le' _ _) hlen
    have e := hv j ts[j] (List.getElem?_eq_getElem hj')
    rw [e]
    unfold InLong
    omega
  · have F7 := fr_moved F6 (fun b o hb e => hm.heap b o hb e) hL hg
    have N7 := news_moved N6 (fun b o hb e => hm.heap b o hb e) hn
    have e : (k : Int) + preSum (pcVal ts) (pcRefs ts).size = ((k + (ts.map pcLen).sum : Nat) : Int) := by
      rw [show (pcRefs ts).size = ts.length by simp, preSum_list hv, Int.natCast_add]
    rw [e]
    obtain ⟨z, hz, hzb⟩ := gens_moved (y := gs) (by have := hm.gens; dsimp only at this; rw [hgens5] at this; exact this) hbare
    have W7 : Went s s7 := Went.one (hm.os.trans hos5) hz hzb
    clear F6 N6
    k_steps
    rename News _ _ _ _ => N8
    exact hQ _ op _ ⟨ps', hopd, htr'⟩ (W7.go rfl rfl) (by k_asm) N8

end
section
open PySem PySem.W PySem.W.X PyProof.Rows PySem.Calls
set_option maxRecDepth 100000
def pcTxt (q : Pc) : Str := q.2.1.1 ++ q.2.2.1
theorem newTuple_at {M : Model} {A : Around} {E : Value → Shared → Prop} {s : Shared} {vs : List Value} {Q : Value → Shared → Prop} (hsz : vs.length ≤ sizeLine)
    (h : Q (.ref s.heap.objs.size) { s with heap := s.heap.push { cls := .type "tuple", data := .seq vs.toArray } }) : wpAny M A (newTuple vs) Q E s := by
  unfold newTuple
  exact wpAny_newObj_type h (show vs.toArray.size ≤ sizeLine by simpa using hsz)
open PySem.StrLaws PySem.Builtin PySem.Builtin.Str in
theorem join_empty2 (a b : Str) : Txt.join (Str.ofString "") [a, b] = a ++ b := by
  rw [eq_of_beq (join_plain_closes _ _)]
  have e : Str.ofString "" = ⟨#[]⟩ := by decide +kernel
  rw [e]
  apply str_ext
  show (a.cps ++ #[] ++ b.cps).toList = (a.cps ++ b.cps).toList
  simp
local macro_rules | `(tactic| walk_at "eval Name") => `(tactic| ((with_reducible show wpAny _ _ (eval (Expr.Name _ _) (genEnv _ _ _ _ _ _)) _ _ _); k_dflt (refine nameGen_K (by assumption) (by assumption) (by assumption) (by k_is) rfl rfl (by decide) ?_)))
set_option maxHeartbeats 4000000 in
theorem str_spec' : Fill → ∀ {w : World} {A₀ : Around} {base h₀ : Heap} {outer : List Env} {L : Addr} {m : Str → Option Value} {news : List (Addr × Obj)} {s : Shared}
    {dp un : Nat} {gd : Option (List Code)} {cn : Str} {nm : List (Str × NameKind)} {ig ic : Bool} {mr : List (Str × Const)} {a : Addr} {ccd : Value} {cl : List (Str × Addr)} {Q E : Value → Shared → Prop}
    (x dx : Addr) (ts : List Pc) (n : Nat) (k : Nat) (t tz : Tok) (oP : Obj) (_ : Cx w A₀ base outer h₀ L m ((98, oP) :: (x, lobj 129 dx (pcRefs ts) n) :: (dx, rdict w k t tz) :: news) s) (_ : CodeHd base 102 98) (_ : GTab 98 oP) (_ : ∀ q ∈ ts, (q.1, pcObj q) ∈ news) (_ : x ≠ 98) (_ : dx ≠ 98) (_ : ∀ p ∈ news, p.1 ≠ 98) (_ : dp ≤ 960) (_ : un ≤ 9300)
    (_ : ts.length ≤ 64) (_ : ∀ q ∈ ts, pcLen q ≤ 64)
    (_ : ∀ t' op s', GTab 98 op → Went s s' → Fr h₀ L s'.heap m → News h₀ L s'.heap ((98, op) :: (x, lobj 129 dx (pcRefs ts) n) :: (dx, rdict w k t tz) :: news) → Q (.str (Txt.join (Str.ofString "") (ts.map pcTxt)) t') s'),
    wpAny (model prg w) (ktrTop dp un gd cn (fS nm ig ic mr) L a ccd cl outer) (call (.ref 103) [.ref x]) Q E s := by
  unfold Fill
  k_fill
  intro _ w A₀ base h₀ outer L m news s dp un gd cn nm ig ic mr a ccd cl Q E x dx ts n k t tz oP C hC hG hts hx91 hd91 h91 hdp hun hlen hpl hQ
  have hq1 := Held.mk "newTuple"
  have hq2 := Held.mk "eval GeneratorExp"
  have hq3 := Held.mk "call builtin:str.join"
  obtain ⟨B, F, X, N, _, _, _, _, T⟩ := C
  refine room hdp hun ?_
  k_steps
  rename Fr _ _ _ _ => F'
  rename News _ _ _ _ => N'
  rename Frag.In _ _ => X'
  rename Top _ _ _ _ _ _ => T'
  rename Below _ _ _ _ => B'
  obtain ⟨ps, hps, htr⟩ := hG
  refine Hold.mk (ring_genexp (P := 98) (Ts := pcT ts) (va := pcA ts) (vb := pcB ts) (Fe := fun j v => ∃ q t, ts[j]? = some q ∧ v = .str (pcTxt q) t) F' X' N' T' (CodeHd.keeps hC B'.stays) (by k_updF) hps htr (.tail _ (.head _)) pc_hits (pc_tup N' fun q hq => .tail _ (.tail _ (.tail _ (hts q hq)))) rfl rfl rfl (by decide) rfl rfl rfl (by decide) rfl (by k_room) ?iter ?elt (fun _ => rfl) ?_)
  case iter => intro Q' hQ'; k_steps; exact hQ'
  case elt =>
    intro C code A' E' i s₂ m₂ hA' hi hn ha hb hold
    obtain ⟨q, hq, hqm, e1, e2⟩ := pc_at hi
    rw [e1] at ha
    rw [e2] at hb
    have hl1 : q.2.1.1.length ≤ 4096 := by have := hpl q hqm; unfold pcLen at this; omega
    have hl2 : q.2.2.1.length ≤ 4096 := by have := hpl q hqm; unfold pcLen at this; omega
    clear F' N'
    k_steps
    refine Hold.mk (newTuple_at (Nat.le_trans (show 2 ≤ 4096 by decide) (by decide)) ?_)
    have hT : IsTup (s₂.heap.push { cls := .type "tuple", data := .seq #[Value.str q.2.1.1 q.2.1.2, Value.str q.2.2.1 q.2.2.2] }) s₂.heap.objs.size #[Value.str q.2.1.1 q.2.1.2, Value.str q.2.2.1 q.2.2.2] := ⟨_, Heap.get?_push_size _ rfl, rfl, _, rfl⟩
    k_steps
    refine Hold.mk (join_tuple (ys := [q.2.1.1, q.2.2.1]) hT (.cons _ _ (.cons _ _ .nil)) (by simp; have := hpl q hqm; unfold pcLen at this; have h0 : (Str.ofString "").length = 0 := by decide +kernel
                                                                                              omega) fun t9 k9 => ?_)
    rw [join_empty2]
    k_steps
    exact ⟨_, _, rfl, fun _ _ e => Heap.get?_push_of_some _ e⟩
  intro aa s5 op ps' gs hopd htr' F5 N5 hos5 hgens5 hbare hgen
  obtain ⟨fp, wr, St, W, hst, hT, hafp, hfp, hwr⟩ := hgen
  obtain ⟨hL, hg, hn'⟩ := gen_apart F' N' hwr
  have hn : ∀ p ∈ (98, op) :: (x, lobj 129 dx (pcRefs ts) n) :: (dx, rdict w k t tz) :: news, p.1 ∉ wr := fun p hp => by
    rcases List.mem_cons.mp hp with rfl | hp
    · exact hn' (98, oP) (.head _)
    · exact hn' p (.tail _ hp)
  clear F' N'
  k_steps
  rename Fr _ _ _ _ => F6
  rename News _ _ _ _ => N6
  refine Hold.mk (SC.joinGen (WalksS.in4_2 W) hT (W.frame 0 s5 s5.heap _ hst (by first | exact Nat.le_refl _ | exact Nat.le_succ _ | omega) fun b _ o e => e) hfp hafp (fun j v hv => by obtain ⟨q, t, _, e⟩ := hv; exact ⟨_, t, e⟩) (fun s7 lt hm hacc => ?_) (by simp; exact Nat.le_trans hlen (by decide)))
  have hl : lt.map (·.1) = ts.map pcTxt := by
    have hz : lt.length = ts.length := by have := hacc.1; simpa [strValues] using this
    apply List.ext_getElem?
    intro j
    by_cases hj : j < ts.length
    · have hj' : j < lt.length := hz ▸ hj
      obtain ⟨q, u, hq, hv⟩ := hacc.2 j (.str lt[j].1 lt[j].2) (by simp [strValues, List.getElem?_eq_getElem hj'])
      injection hv with h1 _
      rw [List.getElem?_map, List.getElem?_map, hq, List.getElem?_eq_getElem hj']
      simp [h1]
    · rw [List.getElem?_eq_none (by simp; omega), List.getElem?_eq_none (by simp; omega)]
  rw [hl]
  refine ⟨joinOk_of ?_, fun t8 k8 => ?_⟩
  · have h1 := sum_le hpl
    have h2 : ((ts.map pcTxt).map (·.length)) = ts.map pcLen := by
      rw [List.map_map]
      exact List.map_congr_left fun q _ => Str.length_append _ _
    have h0 : (Str.ofString "").length = 0 := by decide +kernel
    rw [h2, h0]
    omega
  · have F7 := fr_moved F6 (fun b o hb e => hm.heap b o hb e) hL hg
    have N7 := news_moved N6 (fun b o hb e => hm.heap b o hb e) hn
    obtain ⟨z, hz, hzb⟩ := gens_moved (y := gs) (by have := hm.gens; dsimp only at this; rw [hgens5] at this; exact this) hbare
    have W7 : Went s s7 := Went.one (hm.os.trans hos5) hz hzb
    clear F6 N6
    k_steps
    rename News _ _ _ _ => N8
    exact hQ _ op _ ⟨ps', hopd, htr'⟩ (W7.go rfl rfl) (by k_asm) N8

end
section
open PySem PySem.W PySem.W.X PyProof.Rows PySem.Calls PySem.Builtin.Str
set_option maxRecDepth 100000
open Classical in
theorem dat_eq {prog : Program} {w : World} {A : Around} {E : Value → Shared → Prop} {s : Shared} {h₀ : Heap} {L : Addr} {news : List (Addr × Obj)} {Q : Value → Shared → Prop} {a b : Addr} {d e : Dat}
    (N : News h₀ L s.heap news) (Da : DatIn news (.ref a) d) (Db : DatIn news (.ref b) e) (ha : kqdOk 9 d = true) (hb : kqdOk 9 e = true) (hu : A.units + 64 < cLine) (h : Q (.bool (decide (d = e))) s) : wpAny (model prog w) A (compareOp .Eq (.ref a) (.ref b)) Q E s := by
  obtain ⟨as, ra⟩ := kqd_in N 9 Da ha
  obtain ⟨bs, rb⟩ := kqd_in N 9 Db hb
  have la := kqd_lay 9 d ha
  have lb := kqd_lay 9 e hb
  have eq : PyData.eqv (kqdP d) (kqdP e) = decide (d = e) := by
    have q := kqd_eqv 9 d e 9 ha hb
    by_cases hq : d = e
    · rw [decide_eq_true hq]; exact q.mpr hq
    · rw [decide_eq_false hq]; exact Bool.eq_false_iff.mpr fun x => hq (q.mp x)
  refine eq_dataH ra rb ?_ ?_ hu (by rw [eq]; exact h)
  · unfold SeqAt.shaped; rw [la.1, Bool.true_and]; exact decide_eq_true (Nat.le_trans la.2 (by decide))
  · unfold SeqAt.shaped; rw [lb.1, Bool.true_and]; exact decide_eq_true (Nat.le_trans lb.2 (by decide))
open Classical in
theorem dat_eqB {prog : Program} {w : World} {A : Around} {E : Value → Shared → Prop} {s : Shared} {h₀ : Heap} {L : Addr} {news : List (Addr × Obj)} {Q : Value → Shared → Prop} {a b : Addr} {d e : Dat} (v : Bool) (hv : v = true ↔ d = e)
    (N : News h₀ L s.heap news) (Da : DatIn news (.ref a) d) (Db : DatIn news (.ref b) e) (ha : kqdOk 9 d = true) (hb : kqdOk 9 e = true) (hu : A.units + 64 < cLine) (h : Q (.bool v) s) : wpAny (model prog w) A (compareOp .Eq (.ref a) (.ref b)) Q E s := by
  refine dat_eq N Da Db ha hb hu ?_
  have q : decide (d = e) = v := by
    cases v with
    | true => exact decide_eq_true (hv.mp rfl)
    | false => exact decide_eq_false fun z => Bool.noConfusion (hv.mpr z)
  rw [q]; exact h
theorem News.put {g h : Heap} {L : Addr} {l l' : List (Addr × Obj)} {a : Addr × Obj} (N : News g L h l) (hm : a ∈ l) (N' : News g L h l') : News g L h (a :: l') := fun p hp => by
  rcases List.mem_cons.mp hp with rfl | hp
  · exact N _ hm
  · exact N' p hp
theorem push_inj {a b : Array Value} {v u : Value} (h : a.push v = b.push u) : a = b ∧ v = u := by
  have h1 := congrArg Array.toList h
  rw [Array.toList_push, Array.toList_push] at h1
  have h2 := List.append_inj' h1 rfl
  exact ⟨Array.toList_inj.mp h2.1, by simpa using h2.2⟩
theorem pcRefs_snoc {r : List Pc} {q : Pc} : pcRefs (r ++ [q]) = (pcRefs r).push (.ref q.1) := by simp
def popCase (ts r : List Pc) (T : Addr) (la lb : Str) (ta tb : Tok) : Prop := (ts = [] ∧ r = [] ∧ la = Str.ofString "" ∧ lb = Str.ofString "") ∨ ts = r ++ [(T, (la, ta), (lb, tb))]
theorem pop2_spec' {w : World} {A₀ : Around} {base h₀ : Heap} {outer : List Env} {L : Addr} {m : Str → Option Value} {news : List (Addr × Obj)} {s : Shared}
    {dp un : Nat} {gd : Option (List Code)} {cn : Str} {nm : List (Str × NameKind)} {ig ic : Bool} {mr : List (Str × Const)} {a : Addr} {ccd : Value} {cl : List (Str × Addr)} {Q E : Value → Shared → Prop}
    (x dx : Addr) (ts : List Pc) (n : Nat) (k : Int) (t tk : Tok) (C : Cx w A₀ base outer h₀ L m ((x, lobj 129 dx (pcRefs ts) n) :: (dx, rdict w k t tk) :: news) s) (hxd : @LT.lt Nat _ dx x) (hnx : ∀ p ∈ news, p.1 ≠ x) (hdp : dp ≤ 960) (hun : un ≤ 9300) (hl : ts.length ≤ 64) (hts : ∀ q ∈ ts, (q.1, pcObj q) ∈ news)
    (hQ : ∀ T la lb ta tb r n' s', popCase ts r T la lb ta tb → T ≠ x → Went s s' → Fr h₀ L s'.heap m → News h₀ L s'.heap ((T, tup2 la lb ta tb) :: (x, lobj 129 dx (pcRefs r) n') :: (dx, rdict w k t tk) :: news) → Q (.ref T) s') :
    wpAny (model prg w) (ktrTop dp un gd cn (fS nm ig ic mr) L a ccd cl outer) (call (.ref 89) [.ref x]) Q E s := by
  refine pop_spec' fill x dx (pcRefs ts) n k t tk C hxd hnx hdp hun (by simp; omega) (fun he D ta tb s' hD W F N => ?_) fun v its' he n' s' W F N => ?_
  · have hz : ts = [] := by
      have := congrArg Array.size he
      simpa using this
    subst hz
    exact hQ D _ _ ta tb [] n s' (.inl ⟨rfl, rfl, rfl, rfl⟩) (Nat.ne_of_gt hD) W F N
  · rcases List.eq_nil_or_concat ts with rfl | ⟨r, q, rfl⟩
    · exact absurd (congrArg Array.size he) (by simp)
    · rw [List.concat_eq_append] at he hts hl C hQ
      rw [pcRefs_snoc] at he
      obtain ⟨e1, e2⟩ := push_inj he
      subst e1 e2
      have hq := hts q (List.mem_append_right _ (.head _))
      refine hQ q.1 q.2.1.1 q.2.2.1 q.2.1.2 q.2.2.2 r n' s' (.inr rfl) (hnx _ hq) W F (News.put N (.tail _ (.tail _ hq)) N)
/-- the ring's texts -/
abbrev Tx := Str × Str
def uPre (u : Str) : Str := ⟨u.cps.extract 0 (u.cps.size - 1)⟩
def uSuf (u : Str) : Str := ⟨u.cps.extract (u.cps.size - 1) u.cps.size⟩
def bstep (r : List Tx) (u : Str) : List Tx := match r.getLast? with
  | none => [(uPre u, uSuf u)]
  | some l => l :: (uPre u, uSuf u) :: r.dropLast
def bring (us : List Str) : List Tx := us.foldl bstep []
abbrev pcTx (q : Pc) : Tx := (q.2.1.1, q.2.2.1)
def pcOk (q : Pc) : Prop := PyData.strOk q.2.1.1 = true ∧ PyData.strOk q.2.2.1 = true ∧ q.2.2.1 ≠ Str.ofString "" ∧ pcLen q ≤ 2
theorem bring_snoc (us : List Str) (u : Str) : bring (us ++ [u]) = bstep (bring us) u := by simp [bring, List.foldl_append]
theorem unit_pre {c : Nat} : uPre ⟨#[92, c]⟩ = ⟨#[92]⟩ ∧ uSuf ⟨#[92, c]⟩ = ⟨#[c]⟩ ∧ uPre ⟨#[c]⟩ = ⟨#[]⟩ ∧ uSuf ⟨#[c]⟩ = ⟨#[c]⟩ := by
  refine ⟨?_, ?_, ?_, ?_⟩ <;> simp [uPre, uSuf]
theorem unit_last {u : Str} (h : IsUnit u) : ∃ c, (seqIndex? (-1) u.length).bind (u.cps[·]?) = some c ∧ uSuf u = ⟨#[c]⟩ := by
  obtain ⟨c, _, rfl | ⟨rfl, _⟩⟩ := h
  · exact ⟨c, by rfl, unit_pre.2.1⟩
  · exact ⟨c, by rfl, (unit_pre (c := c)).2.2.2⟩
theorem unit_slice {u : Str} (h : IsUnit u) : Txt.slice u none (some (-1)) = uPre u := by
  have e2 : strSliceIndices none (some (-1)) 1 2 = [0] := by decide +kernel
  have e1 : strSliceIndices none (some (-1)) 1 1 = [] := by decide +kernel
  obtain ⟨c, _, rfl | ⟨rfl, _⟩⟩ := h
  · rw [unit_pre.1]
    unfold PySem.Txt.slice
    rw [show (⟨#[92, c]⟩ : Str).length = 2 from rfl, e2]
    rfl
  · rw [(unit_pre (c := c)).2.2.1]
    unfold PySem.Txt.slice
    rw [show (⟨#[c]⟩ : Str).length = 1 from rfl, e1]
    rfl
def zdat (us : List Str) (h : Nat) : Dat := .tuple [.int 0, .int ((h + 1 : Nat) : Int), .int ((((us.take (h + 1)).map Str.length).sum : Nat) : Int)]

end
local macro_rules | `(tactic| walk_at "pad 3") => `(tactic| skip)
section
open PySem PySem.W PySem.W.X PyProof.Rows PySem.Calls
set_option maxRecDepth 100000
structure BOk (us : List Str) (i : Nat) (ts : List Pc) (zvs : List Value) (junk : List (Addr × Obj)) : Prop where
  tx : ts.map pcTx = bring (us.take i)
  ok : ∀ q ∈ ts, pcOk q
  mem : ∀ q ∈ ts, (q.1, pcObj q) ∈ junk
  len : ts.length = i
  zs : DatAll junk zvs ((List.range i).map (zdat us))
def BInv (w : World) (news : List (Addr × Obj)) (x dx Sz R : Addr) (rs : List (Str × Tok)) (nR : Nat) (o98 : Obj) : Nat → (Str → Option Value) → List (Addr × Obj) → Prop := fun i m led =>
  ∃ ts n k tk tz o91 zvs nz junk, led = (91, o91) :: (98, o98) :: (x, lobj 129 dx (pcRefs ts) n) :: (dx, rdict w (k : Nat) tk tz) :: (Sz, W.listOf zvs.toArray nz) :: junk ∧ GTab 91 o91 ∧ k ≤ 64 ∧ i ≤ rs.length ∧
    BOk (rs.map (·.1)) i ts zvs junk ∧ (∀ p ∈ junk, p.1 ≠ 91 ∧ p.1 ≠ 98 ∧ p.1 ≠ x ∧ p.1 ≠ dx ∧ p.1 ≠ Sz) ∧ (R, W.listOf (vals rs) nR) ∈ junk ∧ (∀ p ∈ news, p ∈ junk) ∧
    m (Str.ofString "ring") = some (.ref x) ∧ m (Str.ofString "sizes") = some (.ref Sz)
theorem u_len {u : Str} (h : IsUnit u) : (uPre u).length + (uSuf u).length = u.length := by
  obtain ⟨c, _, rfl | ⟨rfl, _⟩⟩ := h
  · rw [unit_pre.1, unit_pre.2.1]; rfl
  · rw [(unit_pre (c := c)).2.2.1, (unit_pre (c := c)).2.2.2]; rfl
def txLen (t : Tx) : Nat := t.1.length + t.2.length
theorem bstep_sum (r : List Tx) {u : Str} (h : IsUnit u) : ((bstep r u).map txLen).sum = (r.map txLen).sum + u.length := by
  have hu := u_len h
  rcases List.eq_nil_or_concat r with rfl | ⟨r, q, rfl⟩
  · simp [bstep, txLen, hu]
  · simp only [List.concat_eq_append, bstep, List.getLast?_append, List.getLast?_singleton, Option.some_or, List.dropLast_concat, List.map_cons, List.sum_cons, List.map_append, List.sum_append, List.map_nil, List.sum_nil]
    simp only [txLen, hu]
    omega
theorem bfold_sum : ∀ (us : List Str) (r : List Tx), (∀ u ∈ us, IsUnit u) → ((us.foldl bstep r).map txLen).sum = (r.map txLen).sum + (us.map Str.length).sum
  | [], _, _ => by simp
  | u :: us, r, h => by
    rw [List.foldl_cons, bfold_sum us _ fun v hv => h v (.tail _ hv), bstep_sum r (h u (.head _)), List.map_cons, List.sum_cons]
    omega
theorem bring_sum {us : List Str} (h : ∀ u ∈ us, IsUnit u) : ((bring us).map txLen).sum = (us.map Str.length).sum := by
  rw [bring, bfold_sum us [] h]; simp
theorem pcs_sum {ts : List Pc} {us : List Str} (e : ts.map pcTx = bring us) (h : ∀ u ∈ us, IsUnit u) : (ts.map pcLen).sum = (us.map Str.length).sum := by
  rw [← bring_sum h, ← e, List.map_map]; rfl
theorem unit_pcOk {P : Addr} {u : Str} {t1 t2 : Tok} (h : IsUnit u) : pcOk (P, (uPre u, t1), (uSuf u, t2)) := by
  have hl := u_len h
  have h2 := unit_len h
  obtain ⟨c, hc, rfl | ⟨rfl, _⟩⟩ := h
  · refine ⟨?_, ?_, ?_, ?_⟩
    · dsimp only; rw [unit_pre.1]; decide +kernel
    · dsimp only; rw [unit_pre.2.1]; show (#[c].all fun x => decide (x < 0x110000)) = true; simp; omega
    · dsimp only; rw [unit_pre.2.1]; exact fun q => absurd (congrArg Str.length q) (by show ¬ (1 = _); decide +kernel)
    · show (uPre _).length + (uSuf _).length ≤ 2; omega
  · refine ⟨?_, ?_, ?_, ?_⟩
    · dsimp only; rw [(unit_pre (c := c)).2.2.1]; decide +kernel
    · dsimp only; rw [(unit_pre (c := c)).2.2.2]; show (#[c].all fun x => decide (x < 0x110000)) = true; simp; omega
    · dsimp only; rw [(unit_pre (c := c)).2.2.2]; exact fun q => absurd (congrArg Str.length q) (by show ¬ (1 = _); decide +kernel)
    · show (uPre _).length + (uSuf _).length ≤ 2; omega
def txText (t : Tx) : Str := t.1 ++ t.2
theorem pcTxt_eq (ts : List Pc) : ts.map pcTxt = (ts.map pcTx).map txText := by rw [List.map_map]; rfl
def backDat (us : List Str) : Dat := .tuple [.list ((List.range us.length).map (zdat us)), .str (Txt.join (Str.ofString "") ((bring us).map txText))]
def zob (n m : Nat) (t1 t2 t3 : Tok) : Obj := { cls := .type "tuple", data := .seq #[.int (((#[] : Array Value).size : Nat) : Int) t1, .int (n : Nat) t2, .int (m : Nat) t3] }
theorem zob_in {l : List (Addr × Obj)} {D : Addr} {us : List Str} {i : Nat} {t1 t2 t3 : Tok} (h : (D, zob (i + 1) ((us.take (i + 1)).map Str.length).sum t1 t2 t3) ∈ l) : DatIn l (.ref D) (zdat us i) :=
  .tuple (vs := [.int 0 t1, .int ((i + 1 : Nat) : Int) t2, .int ((((us.take (i + 1)).map Str.length).sum : Nat) : Int) t3]) (n := 0) h (.cons (.int _ _) (.cons (.int _ _) (.cons (.int _ _) .nil)))
theorem take_snoc {gs : List (Str × Tok)} {i : Nat} {u : Str} {tu : Tok} (hu : gs[i]? = some (u, tu)) : (gs.map (·.1)).take (i + 1) = (gs.map (·.1)).take i ++ [u] := by
  rw [List.take_add_one, List.getElem?_map, hu]; rfl
theorem rev_vals (gs : List (Str × Tok)) : PySem.slicePick (vals gs) none none (some (-1)) = vals gs.reverse := by
  rw [krv_pick]; simp [vals]
local macro_rules | `(tactic| walk_at "subscriptTail") => `(tactic| ((with_reducible show wpAny _ _ (subscriptTail _ _ (Value.str _ _) (Value.int _ _)) _ _ _); refine Hold.out ?_))
set_option maxHeartbeats 8000000 in
theorem back_spec' : Fill → ∀ {w : World} {A₀ : Around} {base h₀ : Heap} {outer : List Env} {L : Addr} {m : Str → Option Value} {news : List (Addr × Obj)} {s : Shared}
    {dp un : Nat} {gd : Option (List Code)} {cn : Str} {nm : List (Str × NameKind)} {ig ic : Bool} {mr : List (Str × Const)} {a : Addr} {ccd : Value} {cl : List (Str × Addr)} {Q E : Value → Shared → Prop}
    (G : Addr) (gs : List (Str × Tok)) (nG : Nat) (o91 o98 : Obj) (_ : Cx w A₀ base outer h₀ L m ((91, o91) :: (98, o98) :: news) s) (_ : CodeHd base 95 91) (_ : GTab 91 o91) (_ : CodeHd base 102 98) (_ : GTab 98 o98) (_ : (G, W.listOf (vals gs) nG) ∈ news) (_ : ∀ p ∈ news, p.1 ≠ 91 ∧ p.1 ≠ 98) (_ : dp ≤ 900) (_ : un ≤ 9000)
    (_ : gs.length ≤ 64) (_ : ∀ p ∈ gs, IsUnit p.1)
    (_ : ∀ D o91' o98' led' s', GTab 91 o91' → GTab 98 o98' → (∀ p ∈ news, p ∈ led') → (∀ p ∈ led', p.1 ≠ 91 ∧ p.1 ≠ 98) → DatIn led' (.ref D) (backDat (gs.reverse.map (·.1))) → Went s s' → Fr h₀ L s'.heap m → News h₀ L s'.heap ((91, o91') :: (98, o98') :: led') → Q (.ref D) s'),
    wpAny (model prg w) (ktrTop dp un gd cn (fS nm ig ic mr) L a ccd cl outer) (call (.ref 173) [.ref G]) Q E s := by
  unfold Fill
  k_fill
  intro _ w A₀ base h₀ outer L m news s dp un gd cn nm ig ic mr a ccd cl Q E G gs nG o91 o98 C hC1 hG1 hC2 hG2 hG hne hdp hun hlen hgs hQ
  have hq1 := HeldCall.mk 129
  have hq2 := HeldCall.mk 89
  have hq3 := HeldCall.mk 81
  have hq4 := HeldCall.mk 126
  have hq5 := HeldCall.mk 111
  have hq6 := HeldCall.mk 96
  have hq7 := HeldCall.mk 103
  have hq8 := Held.mk "exec For Name Subscript cons nil"
  have hq9 := Held.mk "subscriptTail Name Slice ref ref"
  have hq10 := Held.mk "binaryOp Add ref ref"
  have hq11 := Held.mk "call builtin:list.append"
  have hq12 := Held.mk "compareOp Eq ref ref"
  obtain ⟨B, F, X, N, _, _, _, _, T⟩ := C
  refine room hdp hun ?_
  k_steps
  rename Fr _ _ _ _ => F'
  rename News _ _ _ _ => N'
  rename Frag.In _ _ => X'
  rename Top _ _ _ _ _ _ => T'
  rename Below _ _ _ _ => B'
  refine Hold.mk (make_spec' (dp := 901) (un := 9003) (s := ⟨_, s.gens, s.drawn, _, s.os⟩) fill ⟨B', F', X', N', _, _, _, _, T'⟩ (by decide) (by decide) 7 _ fun x dx tz n1 s2 l1 hxd W2 F2 N2 => ?_)
  clear F' N'
  k_steps
  rename Fr _ _ _ _ => F'
  rename News _ _ _ _ => N'
  rename_i g' L' _ FG' tk7 _ _ Sz _ lS h3
  obtain ⟨lS1, lS2, lS3, lS4, lS5⟩ := lS
  have h91d : @LT.lt Nat _ 91 dx := l1 (91, o91) (.head _)
  have h98d : @LT.lt Nat _ 98 dx := l1 (98, o98) (.tail _ (.head _))
  have hlen' : gs.reverse.length ≤ 64 := by rw [List.length_reverse]; exact hlen
  have hrs : ∀ p ∈ gs.reverse, IsUnit p.1 := fun p hp => hgs p (List.mem_reverse.mp hp)
  refine Hold.mk (list_for (s := ⟨h3, s2.gens, s2.drawn, _, s2.os⟩) (g₀ := g') (L := L') (R := h3.objs.size + 1) (arr := vals gs.reverse) (BInv w news x dx Sz (h3.objs.size + 1) gs.reverse 0 o98) rfl rfl rfl rfl ?_ ?_ ?_ ?_)
  · k_steps
    refine Hold.mk (slice_list3 (lo := none) (hi := none) (st := some (-1)) F' N' (News.isList N' (.tail _ (.tail _ (.tail _ (.tail _ (.tail _ hG)))))) .none .none (.int _ _) nofun (fun h5 F5 N5 => ?_) (hsz := by rw [size_vals]; exact Nat.le_trans hlen (by decide)))
    rw [rev_vals] at N5
    have lt3 := fun (p : Addr × Obj) hp => Heap.lt_size (N' p hp).1
    have lN : ∀ p ∈ news, p.1 < dx := fun p hp => l1 p (.tail _ (.tail _ hp))
    refine ⟨rfl, _, _, ⟨[], n1, 7, tk7, tz, o91, [], 0, (h3.objs.size + 1, W.listOf (vals gs.reverse) 0) :: news, rfl, hG1, by decide, Nat.zero_le _, ⟨rfl, (fun _ h => nomatch h), (fun _ h => nomatch h), rfl, .nil⟩, fun p hp => ?_, .head _, (fun p hp => .tail _ hp), rfl, rfl⟩, F5, ?_, Went.at⟩
    · rcases List.mem_cons.mp hp with rfl | hp
      · have a1 : @LT.lt Nat _ Sz h3.objs.size := lt3 _ (.head _)
        have a2 : @LT.lt Nat _ x h3.objs.size := lt3 _ (.tail _ (.head _))
        have a3 : @LT.lt Nat _ dx h3.objs.size := lt3 _ (.tail _ (.tail _ (.head _)))
        refine ⟨neN ?_, neN ?_, neN ?_, neN ?_, neN ?_⟩ <;> (dsimp only; omega)
      · have a1 : @LT.lt Nat _ p.1 dx := lN p hp
        have a2 := hne p hp
        refine ⟨a2.1, a2.2, neN ?_, neN ?_, neN ?_⟩ <;> omega
    · refine News.put N5 (.tail _ (.tail _ (.tail _ (.tail _ (.head _))))) (News.put N5 (.tail _ (.tail _ (.tail _ (.tail _ (.tail _ (.head _)))))) (News.put N5 (.tail _ (.tail _ (.head _))) (News.put N5 (.tail _ (.tail _ (.tail _ (.head _)))) (News.put N5 (.tail _ (.head _)) ?_))))
      intro p hp
      rcases List.mem_cons.mp hp with rfl | hp
      · exact N5 _ (.head _)
      · exact N5 p (.tail _ (.tail _ (.tail _ (.tail _ (.tail _ (.tail _ hp))))))
  · rintro i m led ⟨ts, n, k, tk, tz, o91, zvs, nz, junk, rfl, _, _, _, _, _, hR, _⟩
    exact ⟨0, .tail _ (.tail _ (.tail _ (.tail _ (.tail _ hR))))⟩
  · rintro i v m2 led I oI s3 E' hv ⟨ts, n, k, tkk, tzz, o91', zvs, nz, junk, rfl, hG91, hk, hi, hb, hj, hR, hnj, e1, e2⟩ hneI F3 N3 W3
    rw [← up_same e1, ← up_same e2] at F3
    clear F' N'
    have hlt : i < gs.reverse.length := by have := (Array.getElem?_eq_some_iff.mp hv).1; rwa [size_vals] at this
    obtain ⟨u, tu, hu, rfl⟩ : ∃ u tu, gs.reverse[i]? = some (u, tu) ∧ v = .str u tu := by
      refine ⟨gs.reverse[i].1, gs.reverse[i].2, List.getElem?_eq_getElem hlt, ?_⟩
      have : (vals gs.reverse)[i]? = some (.str gs.reverse[i].1 gs.reverse[i].2) := by
        show ((gs.reverse.map fun p => Value.str p.1 p.2).toArray)[i]? = _
        rw [List.getElem?_toArray, List.getElem?_map, List.getElem?_eq_getElem hlt]; rfl
      rw [this] at hv
      exact (Option.some.inj hv).symm
    have hUu : IsUnit u := hrs (u, tu) (List.mem_of_getElem? hu)
    have hul : u.length ≤ 4096 := Nat.le_trans (unit_len hUu) (by decide)
    have i91 : @Ne Nat 91 I := hneI _ (.head _)
    have i98 : @Ne Nat 98 I := hneI _ (.tail _ (.head _))
    have ix : @Ne Nat x I := hneI _ (.tail _ (.tail _ (.head _)))
    have idx : @Ne Nat dx I := hneI _ (.tail _ (.tail _ (.tail _ (.head _))))
    have iSz : @Ne Nat Sz I := hneI _ (.tail _ (.tail _ (.tail _ (.tail _ (.head _)))))
    have ij : ∀ p ∈ junk, p.1 ≠ I := fun p hp => hneI p (.tail _ (.tail _ (.tail _ (.tail _ (.tail _ hp)))))
    have jx : ∀ p ∈ junk, p.1 ≠ x := fun p hp => (hj p hp).2.2.1
    have jdx : ∀ p ∈ junk, p.1 ≠ dx := fun p hp => (hj p hp).2.2.2.1
    have jSz : ∀ p ∈ junk, p.1 ≠ Sz := fun p hp => (hj p hp).2.2.2.2
    have j91 : ∀ p ∈ junk, p.1 ≠ 91 := fun p hp => (hj p hp).1
    have j98 : ∀ p ∈ junk, p.1 ≠ 98 := fun p hp => (hj p hp).2.1
    k_steps
    rename Fr _ _ _ _ => F4
    rename News _ _ _ _ => N4
    have N5 : News g' L' s3.heap ((x, lobj 129 dx (pcRefs ts) n) :: (dx, rdict w (k : Nat) tkk tzz) :: (I, oI) :: (91, o91') :: (98, o98) :: (Sz, W.listOf zvs.toArray nz) :: junk) :=
      News.put N4 (by k_mem) (News.put N4 (by k_mem) (News.put N4 (by k_mem) (News.put N4 (by k_mem) (News.put N4 (by k_mem) (News.put N4 (by k_mem) (News.tl (News.tl (News.tl (News.tl (News.tl (News.tl N4)))))))))))
    refine Hold.mk (pop2_spec' (dp := 901) (un := 9003) (s := ⟨_, s3.gens, s3.drawn, _, s3.os⟩) x dx ts n k _ _ ⟨B', F4, X', N5, _, _, _, _, T'⟩ hxd ?_ (by decide) (by decide) ?_ ?_ ?_)
    · k_all
    · rw [hb.len]; omega
    · intro q hq; exact .tail _ (.tail _ (.tail _ (.tail _ (hb.mem q hq))))
    · intro Tq la lb ta tb r n5 s5 hcase hTx W5 F5 N6
      clear F4 N4 N5
      have hTx' : @Ne Nat Tq x := hTx
      k_steps
      rename Fr _ _ _ _ => F4
      rename News _ _ _ _ => N4
      refine Hold.mk (from_spec' (dp := 901) (un := 9003) (s := ⟨_, s5.gens, s5.drawn, _, s5.os⟩) fill x dx (pcRefs r) n5 k _ _ ⟨B', F4, X', News.put N4 (by k_mem) (News.put N4 (by k_mem) (News.put N4 (by k_mem) (News.tl (News.tl (News.tl N4))))), _, _, _, _, T'⟩ hxd ?_ (by decide) (by decide) ?_ ?_)
      · k_all
      · have h1 : r.length ≤ 64 := by
          rcases hcase with ⟨_, rfl, _⟩ | rfl
          · exact Nat.zero_le _
          · have := hb.len; rw [List.length_append] at this; omega
        simp; omega
      intro D n6 s6 hxD W6 F6 N6'
      clear F4 N4
      k_steps
      rename Fr _ _ _ _ => F4
      rename News _ _ _ _ => N4
      refine Hold.mk (pc_spec' (dp := 901) (un := 9003) (s := ⟨_, s6.gens, s6.drawn, _, s6.os⟩) fill x dx #[] n6 _ ⟨B', F4, X', N4, _, _, _, _, T'⟩ (by k_mem) (by k_mem) (by decide) (by decide) ?_)
      intro t7 s7 W7 F7 N7
      clear F4 N4
      k_steps
      obtain ⟨cu, hcu, hsu⟩ := unit_last hUu
      refine Hold.mk (subscriptTail_builtin (typeIs_str _ _ _) PySem.F.slot_str_getitem.lookup (PySem.P.getItem_str (by decide) hcu ?_))
      rw [← hsu, unit_slice hUu]
      k_steps
      rename Fr _ _ _ _ => F4
      rename News _ _ _ _ => N4
      rename_i tkP P hP l1P hP2 D2 hP3 l2P
      obtain ⟨p1, p2, p3, p4, p5, p6, p7, p8, p9⟩ := l1P
      have hdl : PyData.strOk la = true ∧ PyData.strOk lb = true := by
        rcases hcase with ⟨_, _, rfl, rfl⟩ | rfl
        · exact ⟨by decide +kernel, by decide +kernel⟩
        · have := hb.ok _ (List.mem_append_right _ (.head _)); exact ⟨this.1, this.2.1⟩
      obtain ⟨up1, up2, N5⟩ : ∃ t1 t2, News g' L' _ ((D2, _) :: (Tq, tup2 la lb ta tb) :: (x, lobj 129 dx #[] n6) :: (dx, rdict w (k : Nat) tkk tzz) :: (D, W.listOf (pcRefs r) 0) :: (P, tup2 (uPre u) (uSuf u) t1 t2) :: (I, oI) :: (91, o91') :: (98, o98) :: (Sz, W.listOf zvs.toArray nz) :: junk) :=
        ⟨_, _, News.put N4 (.head _) (News.put N4 (by k_mem) (News.put N4 (by k_mem) (News.put N4 (by k_mem) (News.put N4 (by k_mem) (News.put N4 (.tail _ (.head _)) (News.put N4 (by k_mem) (News.put N4 (by k_mem) (News.put N4 (by k_mem) (News.put N4 (by k_mem) (News.tl (News.tl (News.tl (News.tl (News.tl (News.tl (News.tl (News.tl (News.tl (News.tl N4)))))))))))))))))))⟩
      clear N4
      rcases hcase with ⟨rfl, rfl, rfl, rfl⟩ | rfl
      · refine Hold.mk (dat_eqB (d := .tuple [.str (Str.ofString ""), .str (Str.ofString "")]) (e := .tuple [.str (Str.ofString ""), .str (Str.ofString "")]) true (by simp) N5 (.tuple (vs := [.str _ ta, .str _ tb]) (n := 0) (.tail _ (.head _)) (.cons (.str _ _) (.cons (.str _ _) .nil))) (.tuple (vs := [.str _ _, .str _ _]) (n := 0) (.head _) (.cons (.str _ _) (.cons (.str _ _) .nil))) (by decide +kernel) (by decide +kernel) (by decide : 9003 + 64 < cLine) ?_)
        k_steps
        rename Fr _ _ _ _ => F4
        rename News _ _ _ _ => N4
        rename_i tkL DL hL lL
        refine Hold.mk (reset_spec' (dp := 901) (un := 9003) (s := ⟨_, s7.gens, s7.drawn, _, s7.os⟩) fill x dx DL #[] (pcRefs [(P, (uPre u, up1), (uSuf u, up2))]) n6 0 k _ _ ⟨B', F4, X', News.put N4 (by k_mem) (News.put N4 (by k_mem) (News.put N4 (.head _) (News.tl (News.tl (News.tl (News.tl (News.tl (News.tl N4)))))))), _, _, _, _, T'⟩ (.head _) hxd ?_ ?_ (by decide) (by decide) (by decide) (by simp) ?_)
        · k_all
        · k_all
        intro n8 t8 s8 W8 F8 N8
        clear F4 N4
        k_steps
        obtain ⟨ts', htx, hok, hmem, hlen2, N9⟩ : ∃ ts' : List Pc, ts'.map pcTx = bring ((gs.reverse.map (·.1)).take (i + 1)) ∧ (∀ q ∈ ts', pcOk q) ∧ (∀ q ∈ ts', (q.1, pcObj q) ∈ (P, tup2 (uPre u) (uSuf u) up1 up2) :: junk) ∧ ts'.length = i + 1 ∧
            News g' L' s8.heap ((x, lobj 129 dx (pcRefs ts') n8) :: (dx, rdict w (0 : Nat) t8 tzz) :: (P, tup2 (uPre u) (uSuf u) up1 up2) :: (I, oI) :: (91, o91') :: (98, o98) :: (Sz, W.listOf zvs.toArray nz) :: junk) := by
          refine ⟨_, ?_, ?_, ?_, ?_, News.put N8 (.head _) (News.put N8 (by k_mem) (News.tl (News.tl (News.tl N8))))⟩
          · rw [take_snoc hu, bring_snoc, ← hb.tx]; rfl
          · intro q hq
            rw [List.mem_singleton.mp hq]; exact unit_pcOk hUu
          · intro q hq
            rw [List.mem_singleton.mp hq]; exact .head _
          · have := hb.len
            rw [← this]; rfl
        clear N8
        have W8' : Went s7 s8 := ⟨W8.os, W8.gens⟩
        clear W8
        refine Hold.mk ?_
        refine pc_spec' (dp := 901) (un := 9003) (s := s8) fill x dx (pcRefs ts') n8 _ ⟨B', F8, X', N9, _, _, _, _, T'⟩ (by k_mem) (by k_mem) (by decide) (by decide) ?_
        intro t9 s9 W9 F9 N9'
        clear F8 N9
        k_steps
        rename Fr _ _ _ _ => F10
        rename News _ _ _ _ => N10
        have hmem' : ∀ q ∈ ts', (q.1, pcObj q) ∈ (P, tup2 (uPre u) (uSuf u) up1 up2) :: (I, oI) :: (98, o98) :: (Sz, W.listOf zvs.toArray nz) :: junk := fun q hq => by
          rcases List.mem_cons.mp (hmem q hq) with e | e
          · rw [e]; exact .head _
          · exact .tail _ (.tail _ (.tail _ (.tail _ e)))
        have hpl : ∀ q ∈ ts', pcLen q ≤ 64 := fun q hq => Nat.le_trans (hok q hq).2.2.2 (by decide)
        refine Hold.mk (len_spec' (dp := 901) (un := 9004) (s := ⟨_, s9.gens, s9.drawn, _, s9.os⟩) fill x dx ts' n8 0 _ _ o91' ⟨B', F10, X', News.put N10 (by k_mem) (News.put N10 (by k_mem) (News.put N10 (by k_mem) (News.put N10 (by k_mem) (News.put N10 (by k_mem) (News.tl (News.tl (News.tl (News.tl (News.tl N10))))))))), _, _, _, _, T'⟩ hC1 hG91 hmem' (neN (by omega)) (neN (by omega)) ?_ (by decide) (by decide) (by rw [hlen2]; omega) hpl (by decide) ?_)
        · k_all
        intro t10 o91n s10 hG10 W10 F11 N11
        clear F10 N10
        have hsum := sum_le hpl
        refine ⟨⟨Int.natCast_nonneg _, by omega⟩, ?_⟩
        k_steps
        rename Fr _ _ _ _ => F12
        rename News _ _ _ _ => N12
        rename_i DZ hZ9 lZ
        obtain ⟨z1, z2, z3, z4, z5, z6, z7, z8⟩ := lZ
        have hzl : zvs.length = i := by have := hb.zs.length; simpa using this
        have hsz3 : (ts'.map pcLen).sum = (((gs.reverse.map (·.1)).take (i + 1)).map Str.length).sum := pcs_sum htx fun v hv => by
          obtain ⟨p, hp, rfl⟩ := List.mem_map.mp (List.mem_of_mem_take hv); exact hrs p hp
        have e6 : (((pcRefs ts').size : Nat) : Int) = ((i + 1 : Nat) : Int) := by simp [hlen2]
        have e7 : ((0 + (ts'.map pcLen).sum : Nat) : Int) = (((((gs.reverse.map (·.1)).take (i + 1)).map Str.length).sum : Nat) : Int) := by rw [hsz3, Nat.zero_add]
        rw [e6, e7] at N12
        refine Hold.mk (append_K (D := Sz) (its := zvs.toArray) F12 N12 (by k_upd) (fun h13 F13 N13 => ?_) (Nat.le_trans (show _ ≤ 4096 by rw [List.size_toArray, hzl]; omega) (by decide)))
        clear F12 N12
        rw [List.push_toArray] at N13
        k_steps
        rename Fr _ _ _ _ => F14
        rename News _ _ _ _ => N14
        refine ⟨_, (91, o91n) :: (98, o98) :: (x, lobj 129 dx (pcRefs ts') n8) :: (dx, rdict w (0 : Nat) t8 tzz) :: (Sz, W.listOf (zvs ++ [Value.ref DZ]).toArray (nz + 1)) :: (DZ, zob (i + 1) (((gs.reverse.map (·.1)).take (i + 1)).map Str.length).sum t7 t9 s10.toks) :: (P, tup2 (uPre u) (uSuf u) up1 up2) :: junk,
          ⟨ts', n8, 0, t8, tzz, o91n, zvs ++ [Value.ref DZ], nz + 1, (DZ, zob (i + 1) (((gs.reverse.map (·.1)).take (i + 1)).map Str.length).sum t7 t9 s10.toks) :: (P, tup2 (uPre u) (uSuf u) up1 up2) :: junk, rfl, hG10, by decide, hlt, ⟨htx, hok, fun q hq => .tail _ (hmem q hq), hlen2, ?_⟩, ?_, .tail _ (.tail _ hR), fun p hp => .tail _ (.tail _ (hnj p hp)), rfl, rfl⟩, ?_, F14, ?_, ?_⟩
        · rw [List.range_succ, List.map_append]
          exact (hb.zs.mono fun p hp => .tail _ (.tail _ hp)).append (.one (zob_in (.head _)))
        · intro p hp
          rcases List.mem_cons.mp hp with rfl | hp
          · refine ⟨neN ?_, neN ?_, neN ?_, neN ?_, neN ?_⟩ <;> (dsimp only; omega)
          · rcases List.mem_cons.mp hp with rfl | hp
            · refine ⟨neN ?_, neN ?_, neN ?_, neN ?_, neN ?_⟩ <;> (dsimp only; omega)
            · exact hj p hp
        · k_all
        · exact News.put N14 (.tail _ (.tail _ (.tail _ (.tail _ (.tail _ (.head _)))))) (News.put N14 (.tail _ (.head _)) (News.put N14 (.tail _ (.tail _ (.tail _ (.tail _ (.tail _ (.tail _ (.head _))))))) (News.put N14 (.tail _ (.tail _ (.head _))) (News.put N14 (.tail _ (.tail _ (.tail _ (.head _)))) (News.put N14 (.tail _ (.tail _ (.tail _ (.tail _ (.tail _ (.tail _ (.tail _ (.head _)))))))) (News.put N14 (.head _) (News.put N14 (.tail _ (.tail _ (.tail _ (.tail _ (.head _))))) (News.tl (News.tl (News.tl (News.tl (News.tl (News.tl (News.tl (News.tl N14)))))))))))))))
        · exact (show Went s3 s5 from ⟨W5.os, W5.gens⟩).trans ((show Went s5 s6 from ⟨W6.os, W6.gens⟩).trans ((show Went s6 s7 from ⟨W7.os, W7.gens⟩).trans (W8'.trans (W9.trans ((show Went s9 s10 from ⟨W10.os, W10.gens⟩).go rfl rfl)))))
      · refine Hold.mk (dat_eqB (d := .tuple [.str la, .str lb]) (e := .tuple [.str (Str.ofString ""), .str (Str.ofString "")]) false ?_ N5 (.tuple (vs := [.str la ta, .str lb tb]) (n := 0) (.tail _ (.head _)) (.cons (.str _ _) (.cons (.str _ _) .nil))) (.tuple (vs := [.str _ _, .str _ _]) (n := 0) (.head _) (.cons (.str _ _) (.cons (.str _ _) .nil))) (by simp [kqdOk, hdl]) (by decide +kernel) (by decide : 9003 + 64 < cLine) ?_)
        · have h1 := (hb.ok _ (List.mem_append_right _ (.head _))).2.2.1
          exact ⟨fun q => Bool.noConfusion q, fun q => by
            injection q with q
            injection q with _ q
            injection q with q _
            injection q with q
            exact absurd q h1⟩
        k_steps
        rename Fr _ _ _ _ => F4
        rename News _ _ _ _ => N4
        rename_i tkL DL hL lL
        refine Hold.mk (add_lists (vs := [.ref Tq, .ref P]) (ws := (r.map fun q => Value.ref q.1)) F4 N4 (News.isList N4 (.head _)) (News.isList N4 (by k_mem)) (fun h5 F5 N5 => ?_) (by have := hb.len; rw [List.length_append] at this; rw [List.length_map]; exact Nat.le_trans (show _ ≤ 4096 by simp only [List.length_cons, List.length_nil] at *; omega) (by decide)))
        have lt4 := fun (p : Addr × Obj) hp => Heap.lt_size (N4 p hp).1
        have g1 : @LT.lt Nat _ x hL.objs.size := lt4 (x, lobj 129 dx #[] n6) (by k_mem)
        have g2 : @LT.lt Nat _ dx hL.objs.size := lt4 (dx, rdict w (k : Nat) tkk tzz) (by k_mem)
        clear F4 N4 lt4
        k_steps
        have N5' : News g' L' h5 ((x, lobj 129 dx #[] n6) :: (dx, rdict w (k : Nat) tkk tzz) :: (hL.objs.size, W.listOf (pcRefs ((Tq, (la, ta), (lb, tb)) :: (P, (uPre u, up1), (uSuf u, up2)) :: r)) 0) :: (P, tup2 (uPre u) (uSuf u) up1 up2) :: (I, oI) :: (91, o91') :: (98, o98) :: (Sz, W.listOf zvs.toArray nz) :: junk) :=
          News.put N5 (.tail _ (.tail _ (.tail _ (.tail _ (.head _))))) (News.put N5 (.tail _ (.tail _ (.tail _ (.tail _ (.tail _ (.head _)))))) (News.put N5 (.head _) (News.tl (News.tl (News.tl (News.tl (News.tl (News.tl (News.tl N5)))))))))
        clear N5
        refine Hold.mk (reset_spec' (dp := 901) (un := 9003) (s := ⟨_, s7.gens, s7.drawn, _, s7.os⟩) fill x dx hL.objs.size #[] (pcRefs ((Tq, (la, ta), (lb, tb)) :: (P, (uPre u, up1), (uSuf u, up2)) :: r)) n6 0 k _ _ ⟨B', F5, X', N5', _, _, _, _, T'⟩ (.head _) hxd ?_ ?_ (by decide) (by decide) (by decide) (by have := hb.len; rw [List.length_append] at this; simp only [List.length_cons, List.length_nil, List.size_toArray, List.length_map] at *; omega) ?_)
        · k_all
        · k_all
        intro n8 t8 s8 W8 F8 N8
        clear F5 N5'
        k_steps
        obtain ⟨ts', htx, hok, hmem, hlen2, N9⟩ : ∃ ts' : List Pc, ts'.map pcTx = bring ((gs.reverse.map (·.1)).take (i + 1)) ∧ (∀ q ∈ ts', pcOk q) ∧ (∀ q ∈ ts', (q.1, pcObj q) ∈ (P, tup2 (uPre u) (uSuf u) up1 up2) :: junk) ∧ ts'.length = i + 1 ∧
            News g' L' s8.heap ((x, lobj 129 dx (pcRefs ts') n8) :: (dx, rdict w (0 : Nat) t8 tzz) :: (P, tup2 (uPre u) (uSuf u) up1 up2) :: (I, oI) :: (91, o91') :: (98, o98) :: (Sz, W.listOf zvs.toArray nz) :: junk) := by
          refine ⟨_, ?_, ?_, ?_, ?_, News.put N8 (.head _) (News.put N8 (by k_mem) (News.tl (News.tl (News.tl N8))))⟩
          · rw [take_snoc hu, bring_snoc, ← hb.tx]
            simp [bstep]
          · intro q hq
            rcases List.mem_cons.mp hq with rfl | hq
            · exact hb.ok _ (List.mem_append_right _ (.head _))
            · rcases List.mem_cons.mp hq with rfl | hq
              · exact unit_pcOk hUu
              · exact hb.ok _ (List.mem_append_left _ hq)
          · intro q hq
            rcases List.mem_cons.mp hq with rfl | hq
            · exact .tail _ (hb.mem _ (List.mem_append_right _ (.head _)))
            · rcases List.mem_cons.mp hq with rfl | hq
              · exact .head _
              · exact .tail _ (hb.mem _ (List.mem_append_left _ hq))
          · have := hb.len
            rw [← this]; simp
        clear N8
        have W8' : Went s7 s8 := ⟨W8.os, W8.gens⟩
        clear W8
        refine Hold.mk ?_
        refine pc_spec' (dp := 901) (un := 9003) (s := s8) fill x dx (pcRefs ts') n8 _ ⟨B', F8, X', N9, _, _, _, _, T'⟩ (by k_mem) (by k_mem) (by decide) (by decide) ?_
        intro t9 s9 W9 F9 N9'
        clear F8 N9
        k_steps
        rename Fr _ _ _ _ => F10
        rename News _ _ _ _ => N10
        have hmem' : ∀ q ∈ ts', (q.1, pcObj q) ∈ (P, tup2 (uPre u) (uSuf u) up1 up2) :: (I, oI) :: (98, o98) :: (Sz, W.listOf zvs.toArray nz) :: junk := fun q hq => by
          rcases List.mem_cons.mp (hmem q hq) with e | e
          · rw [e]; exact .head _
          · exact .tail _ (.tail _ (.tail _ (.tail _ e)))
        have hpl : ∀ q ∈ ts', pcLen q ≤ 64 := fun q hq => Nat.le_trans (hok q hq).2.2.2 (by decide)
        refine Hold.mk (len_spec' (dp := 901) (un := 9004) (s := ⟨_, s9.gens, s9.drawn, _, s9.os⟩) fill x dx ts' n8 0 _ _ o91' ⟨B', F10, X', News.put N10 (by k_mem) (News.put N10 (by k_mem) (News.put N10 (by k_mem) (News.put N10 (by k_mem) (News.put N10 (by k_mem) (News.tl (News.tl (News.tl (News.tl (News.tl N10))))))))), _, _, _, _, T'⟩ hC1 hG91 hmem' (neN (by omega)) (neN (by omega)) ?_ (by decide) (by decide) (by rw [hlen2]; omega) hpl (by decide) ?_)
        · k_all
        intro t10 o91n s10 hG10 W10 F11 N11
        clear F10 N10
        have hsum := sum_le hpl
        refine ⟨⟨Int.natCast_nonneg _, by omega⟩, ?_⟩
        k_steps
        rename Fr _ _ _ _ => F12
        rename News _ _ _ _ => N12
        rename_i DZ hZ9 lZ
        obtain ⟨z1, z2, z3, z4, z5, z6, z7, z8⟩ := lZ
        have hzl : zvs.length = i := by have := hb.zs.length; simpa using this
        have hsz3 : (ts'.map pcLen).sum = (((gs.reverse.map (·.1)).take (i + 1)).map Str.length).sum := pcs_sum htx fun v hv => by
          obtain ⟨p, hp, rfl⟩ := List.mem_map.mp (List.mem_of_mem_take hv); exact hrs p hp
        have e6 : (((pcRefs ts').size : Nat) : Int) = ((i + 1 : Nat) : Int) := by simp [hlen2]
        have e7 : ((0 + (ts'.map pcLen).sum : Nat) : Int) = (((((gs.reverse.map (·.1)).take (i + 1)).map Str.length).sum : Nat) : Int) := by rw [hsz3, Nat.zero_add]
        rw [e6, e7] at N12
        refine Hold.mk (append_K (D := Sz) (its := zvs.toArray) F12 N12 (by k_upd) (fun h13 F13 N13 => ?_) (Nat.le_trans (show _ ≤ 4096 by rw [List.size_toArray, hzl]; omega) (by decide)))
        clear F12 N12
        rw [List.push_toArray] at N13
        k_steps
        rename Fr _ _ _ _ => F14
        rename News _ _ _ _ => N14
        refine ⟨_, (91, o91n) :: (98, o98) :: (x, lobj 129 dx (pcRefs ts') n8) :: (dx, rdict w (0 : Nat) t8 tzz) :: (Sz, W.listOf (zvs ++ [Value.ref DZ]).toArray (nz + 1)) :: (DZ, zob (i + 1) (((gs.reverse.map (·.1)).take (i + 1)).map Str.length).sum t7 t9 s10.toks) :: (P, tup2 (uPre u) (uSuf u) up1 up2) :: junk,
          ⟨ts', n8, 0, t8, tzz, o91n, zvs ++ [Value.ref DZ], nz + 1, (DZ, zob (i + 1) (((gs.reverse.map (·.1)).take (i + 1)).map Str.length).sum t7 t9 s10.toks) :: (P, tup2 (uPre u) (uSuf u) up1 up2) :: junk, rfl, hG10, by decide, hlt, ⟨htx, hok, fun q hq => .tail _ (hmem q hq), hlen2, ?_⟩, ?_, .tail _ (.tail _ hR), fun p hp => .tail _ (.tail _ (hnj p hp)), rfl, rfl⟩, ?_, F14, ?_, ?_⟩
        · rw [List.range_succ, List.map_append]
          exact (hb.zs.mono fun p hp => .tail _ (.tail _ hp)).append (.one (zob_in (.head _)))
        · intro p hp
          rcases List.mem_cons.mp hp with rfl | hp
          · refine ⟨neN ?_, neN ?_, neN ?_, neN ?_, neN ?_⟩ <;> (dsimp only; omega)
          · rcases List.mem_cons.mp hp with rfl | hp
            · refine ⟨neN ?_, neN ?_, neN ?_, neN ?_, neN ?_⟩ <;> (dsimp only; omega)
            · exact hj p hp
        · k_all
        · exact News.put N14 (.tail _ (.tail _ (.tail _ (.tail _ (.tail _ (.head _)))))) (News.put N14 (.tail _ (.head _)) (News.put N14 (.tail _ (.tail _ (.tail _ (.tail _ (.tail _ (.tail _ (.head _))))))) (News.put N14 (.tail _ (.tail _ (.head _))) (News.put N14 (.tail _ (.tail _ (.tail _ (.head _)))) (News.put N14 (.tail _ (.tail _ (.tail _ (.tail _ (.tail _ (.tail _ (.tail _ (.head _)))))))) (News.put N14 (.head _) (News.put N14 (.tail _ (.tail _ (.tail _ (.tail _ (.head _))))) (News.tl (News.tl (News.tl (News.tl (News.tl (News.tl (News.tl (News.tl N14)))))))))))))))
        · exact (show Went s3 s5 from ⟨W5.os, W5.gens⟩).trans ((show Went s5 s6 from ⟨W6.os, W6.gens⟩).trans ((show Went s6 s7 from ⟨W7.os, W7.gens⟩).trans (W8'.trans (W9.trans ((show Went s9 s10 from ⟨W10.os, W10.gens⟩).go rfl rfl)))))
  · rintro m2 led s3 ⟨ts, n, k, tkk, tzz, o91', zvs, nz, junk, rfl, hG91, hk, hi, hb, hj, hR, hnj, e1, e2⟩ F3 N3 W3
    rw [← up_same e1, ← up_same e2] at F3
    clear F' N'
    have jx : ∀ p ∈ junk, p.1 ≠ x := fun p hp => (hj p hp).2.2.1
    have j98 : ∀ p ∈ junk, p.1 ≠ 98 := fun p hp => (hj p hp).2.1
    have hpl : ∀ q ∈ ts, pcLen q ≤ 64 := fun q hq => Nat.le_trans (hb.ok q hq).2.2.2 (by decide)
    k_steps
    rename Fr _ _ _ _ => F4
    rename News _ _ _ _ => N4
    refine Hold.mk (str_spec' (dp := 901) (un := 9005) (s := ⟨_, s3.gens, s3.drawn, _, s3.os⟩) fill x dx ts n k _ _ o98 ⟨B', F4, X', News.put N4 (.tail _ (.head _)) (News.put N4 (.tail _ (.tail _ (.head _))) (News.put N4 (.tail _ (.tail _ (.tail _ (.head _)))) (News.put N4 (.head _) (News.tl (News.tl (News.tl (News.tl N4))))))), _, _, _, _, T'⟩ hC2 hG2 (fun q hq => .tail _ (.tail _ (hb.mem q hq))) (neN (by omega)) (neN (by omega)) ?_ (by decide) (by decide) (by rw [hb.len]; omega) hpl ?_)
    · k_all
    intro t5 o98n s5 hG5 W5 F5 N5
    clear F4 N4
    dsimp only [StrBack]
    k_steps
    rename News _ _ _ _ => N6
    rename_i DF hF _ _ lF _ _ _
    obtain ⟨z1, z2, z3, z4, z5, z6⟩ := lF
    have hsz : (vals gs.reverse).size = gs.reverse.length := size_vals _
    have hl0 : (gs.reverse.map (·.1)).length = gs.reverse.length := by rw [List.length_map]
    rw [hsz] at hb
    have htx := hb.tx
    rw [← hl0, List.take_length] at htx
    rw [pcTxt_eq, htx] at N6
    refine hQ DF o91' o98n ((DF, _) :: (Sz, W.listOf zvs.toArray nz) :: junk) _ hG91 hG5 (fun p hp => .tail _ (.tail _ (hnj p hp))) ?_ (.tuple (vs := [.ref Sz, .str _ t5]) (n := 0) (.head _) (.cons (.list (.tail _ (.head _)) ?_) (.cons (.str _ _) .nil))) ((show Went s s2 from ⟨W2.os, W2.gens⟩).trans ((show Went s2 s3 from ⟨W3.os, W3.gens⟩).trans ((show Went s3 s5 from ⟨W5.os, W5.gens⟩).go rfl rfl))) (by k_asm) ?_
    · intro p hp
      rcases List.mem_cons.mp hp with rfl | hp
      · refine ⟨neN ?_, neN ?_⟩ <;> (dsimp only; omega)
      · rcases List.mem_cons.mp hp with rfl | hp
        · refine ⟨neN ?_, neN ?_⟩ <;> (dsimp only; omega)
        · exact ⟨(hj p hp).1, (hj p hp).2.1⟩
    · rw [hl0]
      exact hb.zs.mono fun p hp => .tail _ (.tail _ hp)
    · exact News.put N6 (.tail _ (.tail _ (.tail _ (.tail _ (.head _))))) (News.put N6 (.tail _ (.head _)) (News.put N6 (.head _) (News.tl (News.tl (News.tl (News.tl (News.tl N6)))))))

end
section
open PySem PySem.W PySem.W.X PyProof.Rows PySem.Calls
set_option maxRecDepth 100000
theorem everyOther_two : ∀ (ys : List Str), (everyOther true ys).length + (everyOther false ys).length = ys.length
  | [] => rfl
  | v :: r => by
    have := everyOther_two r
    simp only [everyOther, List.length_cons]
    omega
theorem everyOther_sum (ys : List Str) (a : Nat) (ha : a = 0 ∨ a = 1) : (everyOther (a == 1) ys).length + (everyOther (1 - a == 1) ys).length = ys.length := by
  have := everyOther_two ys
  rcases ha with rfl | rfl
  · rw [Nat.add_comm]; exact this
  · exact this
theorem dat_strs {news : List (Addr × Obj)} : ∀ us : List (Str × Tok), DatAll news (us.map fun p => Value.str p.1 p.2) (us.map fun p => Dat.str p.1)
  | [] => .nil
  | _ :: r => .cons (.str _ _) (dat_strs r)
theorem dat_inj : ∀ us vs : List (Str × Tok), (us.map fun p => Dat.str p.1) = (vs.map fun p => Dat.str p.1) ↔ us.map (·.1) = vs.map (·.1)
  | [], [] => ⟨fun _ => rfl, fun _ => rfl⟩
  | [], _ :: _ => ⟨nofun, nofun⟩
  | _ :: _, [] => ⟨nofun, nofun⟩
  | p :: r, q :: t => by simp [dat_inj r t]
theorem unit_ok {u : Str} (h : IsUnit u) : PyData.strOk u = true := by
  obtain ⟨c, hc, rfl | ⟨rfl, _⟩⟩ := h
  · show (#[92, c].all fun x => decide (x < 0x110000)) = true
    simp; omega
  · show (#[c].all fun x => decide (x < 0x110000)) = true
    simp; omega
theorem dat_ok {us : List (Str × Tok)} (h : ∀ p ∈ us, IsUnit p.1) : ∀ d ∈ us.map fun p => Dat.str p.1, kqdOk 8 d = true := fun d hd => by
  obtain ⟨p, hp, rfl⟩ := List.mem_map.mp hd
  exact unit_ok (h p hp)
open Classical in
theorem ne_strs {prog : Program} {w : World} {A : Around} {E : Value → Shared → Prop} {s : Shared} {h₀ : Heap} {L : Addr} {news : List (Addr × Obj)} {Q : Value → Shared → Prop} {a b : Addr} {us vs : List (Str × Tok)} {k j : Nat}
    (N : News h₀ L s.heap news) (ha : (a, W.listOf (vals us) k) ∈ news) (hb : (b, W.listOf (vals vs) j) ∈ news) (hu : ∀ p ∈ us, IsUnit p.1) (hv : ∀ p ∈ vs, IsUnit p.1) (hun : A.units + 64 < cLine)
    (h : Q (.bool (!decide (us.map (·.1) = vs.map (·.1)))) s) : wpAny (model prog w) A (compareOp .NotEq (.ref a) (.ref b)) Q E s := by
  refine kqd_ne (n₁ := []) (n₂ := []) N ha rfl rfl (dat_strs us) (fun _ h => nomatch h) hb rfl rfl (dat_strs vs) (fun _ h => nomatch h) (dat_ok hu) (dat_ok hv) hun ?_
  have e := dat_inj us vs
  by_cases q : us.map (·.1) = vs.map (·.1)
  · rw [decide_eq_true q] at h; rw [decide_eq_true (e.mpr q)]; exact h
  · rw [decide_eq_false q] at h; rw [decide_eq_false (fun z => q (e.mp z))]; exact h
def rstep (a : Nat) (us gs : List Str) : Nat × List Str × List Str :=
  if us = [] then (a, us, gs) else ((a + us.length) % 2, everyOther (a == 1) us, gs ++ everyOther (1 - a == 1) us)
def rgone : Nat → Nat × List Str × List Str → List Str
  | 0, x => x.2.2
  | n + 1, x => rgone n (rstep x.1 x.2.1 x.2.2)
def RInv (R : Addr) (rs : List (Str × Tok)) (news : List (Addr × Obj)) : Nat → (Str → Option Value) → List (Addr × Obj) → Prop := fun i m led =>
  ∃ (U G : Addr) (us gs : List (Str × Tok)) (a : Nat) (ta : Tok) (nU nG : Nat), led = (G, W.listOf (vals gs) nG) :: (U, W.listOf (vals us) nU) :: news ∧ (a = 0 ∨ a = 1) ∧ (∀ p ∈ us, IsUnit p.1) ∧ us.length ≤ 64 ∧ gs.length + us.length ≤ 64 ∧ i ≤ rs.length ∧ (∀ p ∈ news, p.1 < G) ∧
    rgone (rs.length - i) (a, us.map (·.1), gs.map (·.1)) = rgone rs.length (0, rs.map (·.1), []) ∧
    m (Str.ofString "units") = some (.ref U) ∧ m (Str.ofString "ahead") = some (.int a ta) ∧ m (Str.ofString "gone") = some (.ref G)

set_option maxHeartbeats 8000000 in
theorem rounds_spec' : Fill → ∀ {w : World} {A₀ : Around} {base h₀ : Heap} {outer : List Env} {L : Addr} {m : Str → Option Value} {news : List (Addr × Obj)} {s : Shared}
    {dp un : Nat} {gd : Option (List Code)} {cn : Str} {nm : List (Str × NameKind)} {ig ic : Bool} {mr : List (Str × Const)} {a : Addr} {ccd : Value} {cl : List (Str × Addr)} {Q E : Value → Shared → Prop}
    (_ : Cx w A₀ base outer h₀ L m news s) (_ : dp ≤ 920) (_ : un ≤ 9000) (R : Addr) (rs : List (Str × Tok)) (n : Nat) (_ : (R, W.listOf (vals rs) n) ∈ news) (_ : ∀ p ∈ rs, IsUnit p.1) (_ : rs.length ≤ 64)
    (_ : ∀ D ks n' s', ks.map (·.1) = rgone rs.length (0, rs.map (·.1), []) → (∀ p ∈ news, p.1 < D) → Went s s' → Fr h₀ L s'.heap m → News h₀ L s'.heap ((D, W.listOf (vals ks) n') :: news) → Q (.ref D) s'),
    wpAny (model prg w) (ktrTop dp un gd cn (fS nm ig ic mr) L a ccd cl outer) (call (.ref 152) [.ref R]) Q E s := by
  unfold Fill
  k_fill
  intro _ w A₀ base h₀ outer L m news s dp un gd cn nm ig ic mr a ccd cl Q E C hdp hun R rs n hR hrs hl hQ
  have hq1 := Held.mk "exec For Name Name cons nil"
  have hq2 := HeldCall.mk 145
  have hq3 := Held.mk "compareOp NotEq ref ref"
  have hq4 := Held.mk "binaryOp Add ref ref"
  obtain ⟨B, F, X, N, _, _, _, _, T⟩ := C
  refine room hdp hun ?_
  k_steps
  rename_i g' L' _ FG' B' X' T' _ _ _ G0 _ l1 h' F' N'
  refine Hold.mk (list_for (s := ⟨h', s.gens, s.drawn, _, s.os⟩) (g₀ := g') (L := L') (R := R) (arr := vals rs) (RInv R rs news) rfl rfl rfl rfl ?_ ?_ ?_ ?_)
  · k_steps
    refine ⟨rfl, _, (G0, W.listOf #[] 0) :: (R, W.listOf (vals rs) n) :: news, ⟨R, G0, rs, [], 0, _, n, 0, rfl, .inl rfl, hrs, hl, by simpa using hl, Nat.zero_le _, l1, rfl, rfl, rfl, rfl⟩, F', fun p hp => ?_, Went.at⟩
    rcases List.mem_cons.mp hp with rfl | hp
    · exact N' _ (.head _)
    · rcases List.mem_cons.mp hp with rfl | hp
      · exact N' _ (.tail _ hR)
      · exact N' _ (.tail _ hp)
  · rintro i m led ⟨U, G, us, gs, a, ta, nU, nG, rfl, _⟩
    exact ⟨n, .tail _ (.tail _ hR)⟩
  · rintro i v m2 led I oI s2 E' hv ⟨U, G, us, gs, a, ta, nU, nG, rfl, ha, hu, hul, hgl, hi, hG, hst, e1, e2, e3⟩ hne F2 N2 W2
    rw [← up_same e1, ← up_same e2] at F2
    rw [← up_same e3] at F2
    clear F' N'
    have hl4 : us.length ≤ 4096 := Nat.le_trans hul (by decide)
    k_steps
    rename Fr _ _ _ _ => F3
    rename News _ _ _ _ => N3
    refine Hold.mk (ne_strs (us := us) (vs := []) N3 (.tail _ (.tail _ (.tail _ (.head _)))) (.head _) hu (fun _ h => nomatch h) (by decide : 9003 + 64 < cLine) ?_)
    have hlt : i < rs.length := by
      have := (Array.getElem?_eq_some_iff.mp hv).1
      rwa [size_vals] at this
    have he1 : 1 - (a : Int) = ((1 - a : Nat) : Int) := by rcases ha with rfl | rfl <;> rfl
    rename_i E0 _ _
    k_steps
    · have hem : us = [] := by
        rename _ = _ => q
        simpa using q
      subst hem
      refine ⟨_, (G, W.listOf (vals gs) nG) :: (U, W.listOf (vals []) nU) :: news, ⟨U, G, [], gs, a, _, nU, nG, rfl, ha, hu, hul, hgl, hlt, hG, ?_, rfl, rfl, rfl⟩, hne, F3, fun p hp => ?_, Went.at⟩
      · rw [← hst, show rs.length - i = (rs.length - (i + 1)) + 1 by omega, rgone, rstep]
        rfl
      · rcases List.mem_cons.mp hp with rfl | hp
        · exact N3 _ (.tail _ (.head _))
        · exact N3 _ (.tail _ (.tail _ hp))
    · rename ¬ _ = _ => hem
      have hem' : us ≠ [] := fun q => hem (by rw [q])
      rw [he1]
      refine Hold.mk (left_spec' (dp := 921) (un := 9003) (s := ⟨_, s2.gens, s2.drawn, _, s2.os⟩) fill ⟨B', F3, X', N3, _, _, _, _, T'⟩ (by decide) (by decide) U us nU _ (1 - a) (.tail _ (.tail _ (.tail _ (.head _)))) hu hem' hul (by omega) ?_)
      intro D1 ks1 n1 s3 hk1 hD1 W3 F4 N4
      clear F3 N3
      k_steps
      refine Hold.mk (add_lists F4 N4 (News.isList N4 (.tail _ (.tail _ (.tail _ (.head _))))) (News.isList N4 (.head _)) (fun h5 F5 N5 => ?_) (by rw [List.length_map, List.length_map]; have h1 := congrArg List.length hk1; have h2 := everyOther_le (us.map (·.1)) (1 - a == 1); rw [List.length_map] at h1 h2; rw [← h1] at h2; exact Nat.le_trans (Nat.add_le_add_left h2 _) (Nat.le_trans hgl (by decide))))
      have lG : ∀ p ∈ (_ : List (Addr × Obj)), p.1 < s3.heap.objs.size := fun p hp => Heap.lt_size (N4 p hp).1
      have lD : ∀ p ∈ news, p.1 < s3.heap.objs.size := fun p hp => lG p (.tail _ (.tail _ (.tail _ (.tail _ (.tail _ hp)))))
      clear F4 N4
      generalize hG1 : s3.heap.objs.size = G1 at *
      k_steps
      rename Fr _ _ _ _ => F6
      rename News _ _ _ _ => N6
      refine Hold.mk (left_spec' (dp := 921) (un := 9003) (s := ⟨_, s3.gens, s3.drawn, _, s3.os⟩) fill ⟨B', F6, X', N6, _, _, _, _, T'⟩ (by decide) (by decide) U us nU _ a (.tail _ (.tail _ (.tail _ (.tail _ (.tail _ (.head _)))))) hu hem' hul ha ?_)
      intro D2 ks2 n2 s4 hk2 hD2 W4 F7 N7
      clear F6 N6
      k_steps
      rename Fr _ _ _ _ => F8
      rename News _ _ _ _ => N8
      have hpar : ((a : Int) + (us.length : Int)).fmod 2 = (((a + us.length) % 2 : Nat) : Int) := by rw [Int.fmod_eq_emod_of_nonneg _ (by decide)]; omega
      have hG1I : I < G1 := lG (I, oI) (.tail _ (.tail _ (.head _)))
      refine ⟨_, (G1, W.listOf (vals (gs ++ ks1)) 0) :: (D2, W.listOf (vals ks2) n2) :: news, ⟨D2, G1, ks2, gs ++ ks1, (a + us.length) % 2, _, n2, 0, rfl, by omega, ?_, ?_, ?_, hlt, lD, ?_, rfl, congrArg (fun z => some (Value.int z _)) hpar, rfl⟩, ?_, F8, ?_, ?_⟩
      · intro p hp
        have : p.1 ∈ everyOther (a == 1) (us.map (·.1)) := hk2 ▸ List.mem_map_of_mem hp
        obtain ⟨q, hq, e⟩ := List.mem_map.mp (everyOther_mem _ _ _ this)
        rw [← e]; exact hu q hq
      · have h1 := everyOther_le (us.map (·.1)) (a == 1)
        rw [← hk2, List.length_map, List.length_map] at h1
        exact Nat.le_trans h1 hul
      · have h1 := everyOther_sum (us.map (·.1)) a ha
        rw [← hk2, ← hk1, List.length_map, List.length_map, List.length_map] at h1
        rw [List.length_append]; omega
      · rw [← hst, show rs.length - i = (rs.length - (i + 1)) + 1 by omega, rgone, rstep, if_neg (by simpa using hem'), hk2, List.map_append, hk1, List.length_map]
      · intro p hp
        rcases List.mem_cons.mp hp with rfl | hp
        · exact Nat.ne_of_gt hG1I
        · rcases List.mem_cons.mp hp with rfl | hp
          · exact Nat.ne_of_gt (hD2 (I, oI) (.tail _ (.tail _ (.tail _ (.head _)))))
          · exact hne p (.tail _ (.tail _ hp))
      · intro p hp
        rcases List.mem_cons.mp hp with rfl | hp
        · exact N8 _ (.tail _ (.tail _ (.tail _ (.tail _ (.head _)))))
        · rcases List.mem_cons.mp hp with rfl | hp
          · have := N8 (G1, _) (.tail _ (.head _))
            simpa [vals] using this
          · rcases List.mem_cons.mp hp with rfl | hp
            · exact N8 _ (.head _)
            · exact N8 _ (.tail _ (.tail _ (.tail _ (.tail _ (.tail _ (.tail _ (.tail _ hp)))))))
      · exact (show Went s2 s3 from ⟨W3.os, W3.gens⟩).trans (show Went s3 _ from ⟨W4.os, W4.gens⟩)
  · rintro m2 led s2 ⟨U, G, us, gs, a, ta, nU, nG, rfl, ha, hu, hul, hgl, hi, hG, hst, e1, e2, e3⟩ F2 N2 W2
    rw [← up_same e3] at F2
    clear F' N'
    k_steps
    refine hQ G gs nG _ ?_ hG ((show Went s s2 from ⟨W2.os, W2.gens⟩).go rfl rfl) (by k_asm) ?_
    · rw [size_vals, Nat.sub_self] at hst
      exact hst
    · rename News _ _ _ _ => N5
      intro p hp
      rcases List.mem_cons.mp hp with rfl | hp
      · exact N5 _ (.head _)
      · exact N5 _ (.tail _ (.tail _ hp))

end
section
open PySem PySem.W PySem.W.X PyProof.Rows PySem.Calls
set_option maxRecDepth 100000
/-- an object that is no code record -/
def NoCode (o : Obj) : Prop := ∀ (vs : Array Value) (q : Str) (t : Tok), o.data = .fields vs → vs[1]? ≠ some (.str q t)
/-- a comprehension's turn is over -/
def CEnd (g₀ : Heap) (L : Addr) (m : Str → Option Value) (s₃ : Shared) (I : Addr) (oI : Obj) (C : Addr) (oC : Obj) (D : Addr) (vs : List Value) (J : Nat → List Value → List (Addr × Obj) → Prop) (i : Nat) (y : Value) (s₄ : Shared) : Prop :=
  ∃ led', J (i + 1) (vs ++ [y]) led' ∧ LCg.Off3 I C D led' ∧ Fr g₀ L s₄.heap m ∧ News g₀ L s₄.heap ((I, oI) :: (C, oC) :: (D, LCg.lst vs) :: led') ∧ Went s₃ s₄
section
variable {w : World} {A : Around} {E : Value → Shared → Prop} {s : Shared} {g₀ : Heap} {L : Addr} {m : Str → Option Value} {env : Env}
theorem block_L {elt iter : Expr} {x : Str} {px : Pos} {scope : Scope} {cl : List (Str × Addr)} {pos : Pos} {s₂ : Shared} {I : Addr} {fp : List Addr} {n : Nat} {P : Nat → Value → Prop} {St : Nat → Heap → Prop} {S : List (Addr × Obj) → Prop} {news : List (Addr × Obj)}
    (J : Nat → List Value → List (Addr × Obj) → Prop) {RR : Value → Addr → Result → Shared → Prop}
    (W : Walks prg w A I fp [I] n P St) (hsz : n ≤ 4096) (hIo : ∀ i h, St i h → ∃ o, h.get? I = some o ∧ NoCode o)
    (hSt : ∀ i h h' o nw, St i h → h.get? I = some o → h'.get? I = some o → (∀ b o, g₀.get? b = some o → h'.get? b = some o) → News g₀ L h' nw → S nw → St i h')
    (hcell : ∀ y ∈ scope.names, y.2 ≠ .cell) (hkind : scope.kind = .function) (hx : scope.names.lookup x = some .local) (hst : St 0 s₂.heap) (hfp : ∀ b ∈ fp, b < s₂.heap.objs.size)
    (F : Fr g₀ L s₂.heap m) (N : News g₀ L s₂.heap news) (hIL : L ≠ I) (hI₀ : g₀.get? I = none) (off : ∀ p ∈ news, p.1 ≠ I) (hJS : ∀ i vs led, J i vs led → S led) (hJ : J 0 [] news)
    (turn : ∀ i v vs led I oI C oC D m₂ s₃ (E' : Value → Shared → Prop), i < n → P i v → vs.length = i → J i vs led → LCg.NsObj oC m₂ → m₂ x = some v → Fr g₀ L s₃.heap m → News g₀ L s₃.heap ((I, oI) :: (C, oC) :: (D, LCg.lst vs) :: led) → LCg.Off3 I C D led →
      ((@Ne Nat I C) ∧ (@Ne Nat I D) ∧ (@Ne Nat C D) ∧ NoCode oI) → Went s₂ s₃ → wpAny (model prg w) A (eval elt (compEnvC scope cl C env)) (CEnd g₀ L m s₃ I oI C oC D vs J i) E' s₃)
    (hRR : ∀ D C s' m' ys news', Fr g₀ L s'.heap m → News g₀ L s'.heap ((D, LCg.lst ys) :: news') → LCg.Off1 D news' → (∀ p ∈ news, p.1 < D) → s'.heap.Ns C m' → g₀.get? C = none → g₀.get? D = none → C ≠ L → D ≠ L → C ≠ D → (∀ p ∈ news', p.1 ≠ C) → Went s₂ s' → J n ys news' → ys.length = n → RR (.ref D) C (.ok .next) s') :
    wpAny (model prg w) A (newList []) (fun acc s₃ => wpAny (model prg w) A (newFunctionEnv scope env.globals cl [] env.qual none .none (some env)) (fun cenv s₄ =>
      codeAny (model prg w) A (.compStart (.ListComp elt [⟨.Name x px, iter, [], 0⟩] scope pos) 0 (.ref I) acc { cenv with scope := relabel scope env }) (RR acc cenv.locals) s₄) E s₃) E s₂ := by
  refine wpAny_newObj_type (wpAny_newFunctionEnv hcell (by intro y hy; simp at hy) (fun h₁ hns₁ hsb₁ => ?_) hkind)
  dsimp only at hns₁ hsb₁ ⊢
  generalize hH2 : s₂.heap.push { cls := .type "list", dict := none, data := .seq ([] : List Value).toArray } = H2 at hns₁ hsb₁ ⊢
  have hC : H2.objs.size = s₂.heap.objs.size + 1 := by rw [← hH2, Heap.size_push]
  have hDC : s₂.heap.objs.size ≠ H2.objs.size := by rw [hC]; exact Nat.ne_of_lt (Nat.lt_succ_self _)
  have below : ∀ b, b < s₂.heap.objs.size → b ≠ H2.objs.size ∧ b ≠ s₂.heap.objs.size := fun b hb => ⟨by rw [hC]; exact Nat.ne_of_lt (Nat.lt_succ_of_lt hb), Nat.ne_of_lt hb⟩
  have hDf : s₂.heap.objs.size ∉ fp := fun hm => Nat.lt_irrefl _ (hfp _ hm)
  have hCf : H2.objs.size ∉ fp := fun hm => by have := hfp _ hm; rw [hC] at this; exact Nat.lt_irrefl _ (Nat.lt_of_succ_lt this)
  have hIf : I ∈ fp := W.sub I (List.mem_singleton.mpr rfl)
  have hIlt : I < s₂.heap.objs.size := hfp I hIf
  have old : ∀ b o, s₂.heap.get? b = some o → h₁.get? b = some o := fun b o e => hsb₁.extBut b o (below b (Heap.lt_size e)).1 (Heap.get?_push_of_some _ (hH2 ▸ Heap.get?_push_of_some _ e))
  have hacc : h₁.get? s₂.heap.objs.size = some (LCg.lst []) := hsb₁.extBut _ _ hDC (Heap.get?_push_of_some _ (hH2 ▸ Heap.get?_push_size _ rfl))
  have hst₁ : St 0 h₁ := W.frame _ _ _ hst fun b _ o e => old b o e
  have fresh : ∀ a, s₂.heap.objs.size ≤ a → s₂.heap.get? a = none := fun a ha => by
    cases e : s₂.heap.get? a with
    | none => rfl
    | some o' => exact absurd (Heap.lt_size e) (Nat.not_lt.mpr ha)
  have fresh₀ : ∀ a, s₂.heap.objs.size ≤ a → g₀.get? a = none := fun a ha => by
    cases e : g₀.get? a with
    | none => rfl
    | some o' => have := F.keep a o' e; rw [fresh a ha] at this; cases this
  have hD₀ : g₀.get? s₂.heap.objs.size = none := fresh₀ _ (Nat.le_refl _)
  have hC₀ : g₀.get? H2.objs.size = none := fresh₀ _ (by rw [hC]; exact Nat.le_succ _)
  have hLlt : L < s₂.heap.objs.size := F.ns.lt
  have hDL : s₂.heap.objs.size ≠ L := Ne.symm (below L hLlt).2
  have hCL : H2.objs.size ≠ L := Ne.symm (below L hLlt).1
  have hCI : I ≠ H2.objs.size := (below I hIlt).1
  have hDI : I ≠ s₂.heap.objs.size := (below I hIlt).2
  have off₀ : LCg.Off3 I H2.objs.size s₂.heap.objs.size news := LCg.Off3.of fun p hp => ⟨off p hp, (below _ (Heap.lt_size (N p hp).1)).1, (below _ (Heap.lt_size (N p hp).1)).2⟩
  have loop : ∀ s₃ : Shared, s₃ = { s₂ with heap := h₁, toks := s₂.toks + ([] : List (Str × Value)).length } →
      codeAny (model prg w) A (.compLoop (.ListComp elt [⟨.Name x px, iter, [], 0⟩] scope pos) 0 (.ref I) (.ref s₂.heap.objs.size) (compEnvC scope cl H2.objs.size env))
        (RR (.ref s₂.heap.objs.size) H2.objs.size) s₃ := by
    rintro s₃ rfl
    refine codeAny_compLoop_tests
      (fun k s' => ∃ i ys m' news', Went s₂ s' ∧ i ≤ n ∧ k = n + 1 - i ∧ ys.length = i ∧ St i s'.heap ∧ Fr g₀ L s'.heap m ∧ s'.heap.Ns H2.objs.size m' ∧ News g₀ L s'.heap ((s₂.heap.objs.size, LCg.lst ys) :: news') ∧
        LCg.Off3 I H2.objs.size s₂.heap.objs.size news' ∧ J i ys news') ?_ (n + 1)
      ⟨0, [], _, news, Went.at, Nat.zero_le _, rfl, rfl, hst₁, F.keeps old, hns₁, fun p hp => ?_, off₀, hJ⟩
    · rintro k s' ⟨i, ys, m', news', WW, hi, rfl, hyl, hst', F', hn', N', off', J'⟩
      by_cases hlt : i < n
      · refine W.item i _ _ _ hlt hst' fun v h₂ tk₂ hPv hst₂ hk₂ => ?_
        refine wpAny_assign_Name (wpAny_storeName_local (lookup_relabel_local hx) (hn'.at' fun o e => hk₂ _ o (by simpa using Ne.symm hCI) e) (fun h₃ hn₃ hs₃ => ?_) (by simp [compEnvC, relabel, hkind]))
        refine wpAny_tests_nil ?_
        simp only [if_true]
        have hst₃ : St (i + 1) h₃ := W.frame _ _ _ hst₂ fun b hb o e => hs₃.extBut b o (fun q => hCf (by have q' : b = H2.objs.size := q; rw [← q']; exact hb)) e
        obtain ⟨oI, heI, hNC⟩ := hIo _ _ hst₃
        obtain ⟨oC, heC, hoC⟩ := LCg.ns_obj hn₃
        have F₃ : Fr g₀ L h₃ m := (LCg.fr_but F' hk₂ hIL hI₀).change hs₃ hCL hC₀
        have off3 := off'.mem
        have N₂ : News g₀ L h₂ ((s₂.heap.objs.size, LCg.lst ys) :: news') := LCg.news_but N' hk₂ fun p hp => by
          rcases List.mem_cons.mp hp with rfl | hp
          · exact Ne.symm hDI
          · exact (off3 p hp).1
        have N₃ : News g₀ L h₃ ((I, oI) :: (H2.objs.size, oC) :: (s₂.heap.objs.size, LCg.lst ys) :: news') := fun p hp => by
          rcases List.mem_cons.mp hp with rfl | hp
          · exact ⟨heI, Ne.symm hIL, hI₀⟩
          · rcases List.mem_cons.mp hp with rfl | hp
            · exact ⟨heC, hCL, hC₀⟩
            · have z := N₂ p hp
              refine ⟨hs₃.extBut _ _ ?_ z.1, z.2⟩
              rcases List.mem_cons.mp hp with rfl | hp
              · exact hDC
              · exact (off3 p hp).2.1
        refine wpAny_mono (turn i v ys news' I oI H2.objs.size oC s₂.heap.objs.size _ { s' with heap := h₃, toks := _ } _ hlt hPv hyl J' hoC (by simp) F₃ N₃ off' ⟨hCI, hDI, Ne.symm hDC, hNC⟩ (WW.trans Went.at)) (fun y s₄ h₄ => ?_) fun _ _ e => e
        obtain ⟨news₄, J₄, off₄, F₄, N₄, W₄⟩ := h₄
        have zI := (N₄ (I, oI) List.mem_cons_self).1
        have zC := (N₄ (H2.objs.size, oC) (List.mem_cons_of_mem _ List.mem_cons_self)).1
        have zD := (N₄ (s₂.heap.objs.size, LCg.lst ys) (List.mem_cons_of_mem _ (List.mem_cons_of_mem _ List.mem_cons_self))).1
        have N₄' : News g₀ L s₄.heap news₄ := fun p hp => N₄ p (List.mem_cons_of_mem _ (List.mem_cons_of_mem _ (List.mem_cons_of_mem _ hp)))
        have hst₄ : St (i + 1) s₄.heap := hSt _ _ _ _ _ hst₃ heI zI F₄.keep N₄' (hJS _ _ _ J₄)
        obtain ⟨hh4, g4, d4, t4, os4⟩ := s₄
        refine append_at (hsz := by show ys.toArray.size ≤ sizeLine; rw [List.size_toArray, hyl]; exact Nat.le_trans (Nat.le_trans hi hsz) (by decide)) zD fun h₅ hs₅ hD₅ => ?_
        have off4 := off₄.mem
        refine ⟨n + 1 - (i + 1), by omega, i + 1, ys ++ [y], _, news₄, (WW.trans Went.at).trans (W₄.trans Went.at), hlt, rfl, by rw [List.length_append, List.length_singleton, hyl], W.frame _ _ _ hst₄ fun b hb o e => hs₅.extBut b o (fun q => hDf (q ▸ hb)) e, F₄.change hs₅ hDL hD₀,
          (hoC.ns zC).sameBut hs₅ (Ne.symm hDC), fun p hp => ?_, off₄, J₄⟩
        rcases List.mem_cons.mp hp with rfl | hp
        · exact ⟨hD₅.trans (congrArg some (LCg.lst_snoc ys y)), hDL, hD₀⟩
        · exact ⟨hs₅.extBut _ _ (off4 p hp).2.2 (N₄' p hp).1, (N₄' p hp).2⟩
      · obtain rfl : i = n := Nat.le_antisymm hi (Nat.not_lt.mp hlt)
        refine W.done _ _ _ hst' fun h₂ tk₂ hk₂ => ?_
        have off3 := off'.mem
        exact hRR _ _ { s' with heap := h₂, toks := tk₂ } _ ys news' (LCg.fr_but F' hk₂ hIL hI₀) (LCg.news_but N' hk₂ fun p hp => by
          rcases List.mem_cons.mp hp with rfl | hp
          · exact Ne.symm hDI
          · exact (off3 p hp).1) off'.one (fun p hp => Heap.lt_size (N p hp).1) (hn'.at' fun o e => hk₂ _ o (by simpa using Ne.symm hCI) e) hC₀ hD₀ hCL hDL (Ne.symm hDC) (fun p hp => (off3 p hp).2.1) (WW.trans Went.at) J' hyl
    · rcases List.mem_cons.mp hp with rfl | hp
      · exact ⟨hacc, hDL, hD₀⟩
      · exact ⟨old _ _ (N p hp).1, (N p hp).2⟩
  exact codeAny_compStart_list (loop _ rfl) (W.self 0 _ _ _ hst₁ (loop _ rfl))
/-- what a comprehension goes over: a list of the ledger or a range -/
def CSrc (A : Around) (g₀ : Heap) (L : Addr) (m : Str → Option Value) (s : Shared) (J : Nat → List Value → List (Addr × Obj) → Prop) (P : Nat → Value → Prop) (n : Nat) (xv : Value) (s₁ : Shared) : Prop :=
  ∃ led, J 0 [] led ∧ Fr g₀ L s₁.heap m ∧ News g₀ L s₁.heap led ∧ Went s s₁ ∧ n ≤ 4096 ∧ A.handled = none ∧
    ((∃ ax its, xv = .ref ax ∧ n = its.size ∧ (∀ i v, its[i]? = some v → P i v) ∧ (∀ i vs led, J i vs led → ∃ k, (ax, ({ cls := .type "list", data := .seq its k } : Obj)) ∈ led)) ∨
     (∃ r a b c t u v, xv = .ref r ∧ IsRange s₁.heap r a b c t u v ∧ Builtin.Range.small a b c = true ∧ Builtin.Range.rangeSize a b c = ((n : Nat) : Int) ∧ ∀ (i : Nat) t, i < n → P i (.int (a + (i : Int) * c) t)))
theorem block_C {elt iter : Expr} {x : Str} {px : Pos} {scope : Scope} {cl : List (Str × Addr)} {pos : Pos} {n : Nat} {P : Nat → Value → Prop} {xv : Value} {s₁ : Shared}
    (J : Nat → List Value → List (Addr × Obj) → Prop) {RR : Value → Addr → Result → Shared → Prop}
    (hcell : ∀ y ∈ scope.names, y.2 ≠ .cell) (hkind : scope.kind = .function) (hx : scope.names.lookup x = some .local) (src : CSrc A g₀ L m s J P n xv s₁)
    (turn : ∀ i v vs led I oI C oC D m₂ s₃ (E' : Value → Shared → Prop), i < n → P i v → vs.length = i → J i vs led → LCg.NsObj oC m₂ → m₂ x = some v → Fr g₀ L s₃.heap m → News g₀ L s₃.heap ((I, oI) :: (C, oC) :: (D, LCg.lst vs) :: led) → LCg.Off3 I C D led →
      ((@Ne Nat I C) ∧ (@Ne Nat I D) ∧ (@Ne Nat C D) ∧ NoCode oI) → Went s s₃ → wpAny (model prg w) A (eval elt (compEnvC scope cl C env)) (CEnd g₀ L m s₃ I oI C oC D vs J i) E' s₃)
    (hRR : ∀ D C s' m' ys news', Fr g₀ L s'.heap m → News g₀ L s'.heap ((D, LCg.lst ys) :: news') → LCg.Off1 D news' → (∃ led0, J 0 [] led0 ∧ ∀ p ∈ led0, p.1 < D) → s'.heap.Ns C m' → g₀.get? C = none → g₀.get? D = none → C ≠ L → D ≠ L → C ≠ D → (∀ p ∈ news', p.1 ≠ C) → Went s s' → J n ys news' → ys.length = n → RR (.ref D) C (.ok .next) s') :
    wpAny (model prg w) A (pyIter xv) (fun it s₂ => wpAny (model prg w) A (newList []) (fun acc s₃ => wpAny (model prg w) A (newFunctionEnv scope env.globals cl [] env.qual none .none (some env)) (fun cenv s₄ =>
      codeAny (model prg w) A (.compStart (.ListComp elt [⟨.Name x px, iter, [], 0⟩] scope pos) 0 it acc { cenv with scope := relabel scope env }) (RR acc cenv.locals) s₄) E s₃) E s₂) E s₁ := by
  obtain ⟨led, hJ, F, N, W, hsz, hh, ⟨ax, its, rfl, hn, hP, hmem⟩ | ⟨r, a, b, c, t, u, v, rfl, hr, hsm, hn, hP⟩⟩ := src
  · obtain ⟨k0, hm⟩ := hmem _ _ _ hJ
    have hl : s₁.heap.IsList ax its := ⟨_, (N _ hm).1, rfl, _, rfl⟩
    have hlt : ax < s₁.heap.objs.size := by obtain ⟨_, e, _⟩ := hl; exact Heap.lt_size e
    refine wpAny_pyIter_list hl ?_
    have up : ∀ b o, s₁.heap.get? b = some o → (s₁.heap.push { cls := .type "list_iterator", data := .fields #[.ref ax, .int 0 0] }).get? b = some o := fun b o e => Heap.get?_push_of_some _ e
    subst hn
    have W0 := Walks.list (prog := prg) (w := w) hh s₁.heap.objs.size ax (Nat.ne_of_lt hlt) its
    refine block_L (s₂ := { s₁ with heap := s₁.heap.push { cls := .type "list_iterator", data := .fields #[.ref ax, .int 0 0] } }) (S := LCg.SrcAt g₀ ax its) J W0 hsz (fun i h st => by obtain ⟨o, e, _, hd⟩ := st.1; exact ⟨o, e, fun vs q t e1 e2 => by rw [hd] at e1; injection e1 with e1; subst e1; simp at e2⟩) LCg.list_st hcell hkind hx ⟨⟨_, Heap.get?_push_size _ rfl, rfl, rfl⟩, hl.push _⟩ (fun b hb => ?_)
      (F.keeps up) (N.grown up) (Nat.ne_of_lt F.ns.lt) (next_is_new F) (fun p hp => Nat.ne_of_lt (Heap.lt_size (N p hp).1)) (fun i vs led j => by obtain ⟨k, z⟩ := hmem i vs led j; exact .inr ⟨_, z, rfl, _, rfl⟩) hJ (fun i v vs led I oI C oC D m₂ s₃ E' hi hv hl j hC hx' F' N' o3 ne WW => turn i v vs led I oI C oC D m₂ s₃ E' hi (hP i v hv) hl j hC hx' F' N' o3 ne (W.trans (Went.at.trans WW))) fun D C s' m' ys news' F' N' o1 lt0 hn' c0 d0 cl dl cd offc WW j yl => hRR D C s' m' ys news' F' N' o1 ⟨_, hJ, lt0⟩ hn' c0 d0 cl dl cd offc (W.trans (Went.at.trans WW)) j yl
    show b < (s₁.heap.push _).objs.size
    rw [Heap.size_push]
    rcases List.mem_cons.mp hb with rfl | hb
    · exact Nat.lt_succ_self _
    · rw [List.mem_singleton.mp hb]; exact Nat.lt_succ_of_lt hlt
  · refine wpAny_pyIter_range hr hsm ?_
    have W0 : Walks prg w A s₁.heap.objs.size [s₁.heap.objs.size] [s₁.heap.objs.size] n (fun i v => i < n ∧ ∃ t, v = .int (a + i * c) t) (fun i h => IsRangeIter h s₁.heap.objs.size (a + (i : Nat) * c) ((n : Int) - (i : Nat)) c) := (Walks.range hh _ a c n).bound
    refine block_L (S := fun _ => True) J W0 hsz (fun i h st => ⟨_, st, fun vs q t e1 e2 => by simp only [Data.fields.injEq] at e1; subst e1; simp [rawInt] at e2⟩) (fun i h h' o nw st e e' _ _ _ => by
        have st' : h.get? _ = some _ := st
        show h'.get? _ = some _
        rw [e', ← e]; exact st') hcell hkind hx (by show IsRangeIter _ _ _ _ _; rw [hn]; simpa using Heap.get?_push_size _ rfl) (fun b hb => ?_)
      (F.keeps fun _ _ e => Heap.get?_push_of_some _ e) (N.grown fun _ _ e => Heap.get?_push_of_some _ e) (Nat.ne_of_lt F.ns.lt) (next_is_new F) (fun p hp => Nat.ne_of_lt (Heap.lt_size (N p hp).1)) (fun _ _ _ _ => trivial) hJ (fun i v vs led I oI C oC D m₂ s₃ E' hi hv hl j hC hx' F' N' o3 ne WW => turn i v vs led I oI C oC D m₂ s₃ E' hi (by obtain ⟨_, t, rfl⟩ := hv; exact hP i t hi) hl j hC hx' F' N' o3 ne (W.trans (Went.at.trans WW))) fun D C s' m' ys news' F' N' o1 lt0 hn' c0 d0 cl dl cd offc WW j yl => hRR D C s' m' ys news' F' N' o1 ⟨_, hJ, lt0⟩ hn' c0 d0 cl dl cd offc (W.trans (Went.at.trans WW)) j yl
    rw [List.mem_singleton.mp hb]
    show s₁.heap.objs.size < (s₁.heap.push _).objs.size
    rw [Heap.size_push]; exact Nat.lt_succ_self _
theorem comp_eval {elt iter : Expr} {x : Str} {px : Pos} {scope : Scope} {cl : List (Str × Addr)} {pos : Pos} {Q : Value → Shared → Prop} {n : Nat} {P : Nat → Value → Prop}
    (J : Nat → List Value → List (Addr × Obj) → Prop)
    (hclos : closureFor scope env = pure cl) (hcell : ∀ y ∈ scope.names, y.2 ≠ .cell) (hkind : scope.kind = .function)
    (hnames : ∀ y ∈ scope.names, y.2 = .local → scope.names.lookup y.1 = some .local) (hx : scope.names.lookup x = some .local)
    (start : wpAny (model prg w) A (eval iter env) (CSrc A g₀ L m s J P n) E s)
    (turn : ∀ i v vs led I oI C oC D m₂ s₃ (E' : Value → Shared → Prop), i < n → P i v → vs.length = i → J i vs led → LCg.NsObj oC m₂ → m₂ x = some v → Fr g₀ L s₃.heap m → News g₀ L s₃.heap ((I, oI) :: (C, oC) :: (D, LCg.lst vs) :: led) → LCg.Off3 I C D led →
      ((@Ne Nat I C) ∧ (@Ne Nat I D) ∧ (@Ne Nat C D) ∧ NoCode oI) → Went s s₃ → wpAny (model prg w) A (eval elt (compEnvC scope cl C env)) (CEnd g₀ L m s₃ I oI C oC D vs J i) E' s₃)
    (over : ∀ D s' ys led, Fr g₀ L s'.heap m → News g₀ L s'.heap ((D, LCg.lst ys) :: led) → LCg.Off1 D led → (∃ led0, J 0 [] led0 ∧ ∀ p ∈ led0, p.1 < D) → Went s s' → J n ys led → ys.length = n → Q (.ref D) s')
    (hs : ∀ x, foldedSetIterable iter env x = pure x := by intro _; rfl) :
    wpAny (model prg w) A (eval (.ListComp elt [⟨.Name x px, iter, [], 0⟩] scope pos) env) Q E s := by
  rw [eval_ListComp]
  refine wpAny_comprehension_free (use := none) rfl hs hclos hkind hnames (wpAny_mono start (fun xv s₁ h₁ => ?_) fun _ _ e => e)
  refine block_C (RR := fun acc C => compPost (model prg w) A E none Q acc C) J hcell hkind hx h₁ turn ?_
  intro D C s' m' ys news' F' N' o1 lt0 hn hC₀ hD₀ hCL hDL hCD offC WW j yl
  refine ⟨m', hn, fun h'' hs'' => over D { s' with heap := h'' } ys news' (F'.change hs'' hCL hC₀) (fun p hp => ?_) o1 lt0 (WW.trans Went.at) j yl⟩
  refine ⟨hs''.extBut _ _ ?_ (N' p hp).1, (N' p hp).2⟩
  rcases List.mem_cons.mp hp with rfl | hp
  · exact Ne.symm hCD
  · exact offC p hp
theorem comp_assign {elt iter : Expr} {x y : Str} {px py : Pos} {scope : Scope} {cl : List (Str × Addr)} {pos spos : Pos} {Q : Flow → Shared → Prop} {n : Nat} {P : Nat → Value → Prop}
    (J : Nat → List Value → List (Addr × Obj) → Prop) (hLe : env.locals = L)
    (hsw : swapsWith (.ListComp elt [⟨.Name x px, iter, [], 0⟩] scope pos) (some (.Name y py)) spos.line env = pure true)
    (hclos : closureFor scope env = pure cl) (hcell : ∀ y ∈ scope.names, y.2 ≠ .cell) (hkind : scope.kind = .function)
    (hnames : ∀ y ∈ scope.names, y.2 = .local → scope.names.lookup y.1 = some .local) (hx : scope.names.lookup x = some .local)
    (hy : env.kindOf y = some .local) (hp : (env.scope.kind == .class || (env.scope.kind == .module && env.locals != env.globals)) = false)
    (start : wpAny (model prg w) A (eval iter env) (CSrc A g₀ L m s J P n) E s)
    (turn : ∀ i v vs led I oI C oC D m₂ s₃ (E' : Value → Shared → Prop), i < n → P i v → vs.length = i → J i vs led → LCg.NsObj oC m₂ → m₂ x = some v → Fr g₀ L s₃.heap m → News g₀ L s₃.heap ((I, oI) :: (C, oC) :: (D, LCg.lst vs) :: led) → LCg.Off3 I C D led →
      ((@Ne Nat I C) ∧ (@Ne Nat I D) ∧ (@Ne Nat C D) ∧ NoCode oI) → Went s s₃ → wpAny (model prg w) A (eval elt (compEnvC scope cl C env)) (CEnd g₀ L m s₃ I oI C oC D vs J i) E' s₃)
    (over : ∀ D s' ys led, Fr g₀ L s'.heap (fun z => if z = y then some (.ref D) else m z) → News g₀ L s'.heap ((D, LCg.lst ys) :: led) → LCg.Off1 D led → (∃ led0, J 0 [] led0 ∧ ∀ p ∈ led0, p.1 < D) → Went s s' → J n ys led → ys.length = n → Q .next s')
    (hs : ∀ x, foldedSetIterable iter env x = pure x := by intro _; rfl) :
    wpAny (model prg w) A (exec (.Assign [.Name y py] (.ListComp elt [⟨.Name x px, iter, [], 0⟩] scope pos) spos) env) Q E s := by
  subst hLe
  rw [exec_Assign_Name_used _ _ _ _ hsw]
  refine wpAny_bind (wpAny_standAt (wpAny_bind ?_))
  show wpAny _ A (do let _ ← comprehension (.ListComp elt [⟨.Name x px, iter, [], 0⟩] scope pos) scope env _ (newList []) false (eval iter env) (some (assign (.Name y py) env))) _ _ s
  refine wpAny_bind (wpAny_mono (wpAny_comprehension_free (use := some (assign (.Name y py) env)) (Q := fun _ s' => Q .next s') rfl hs hclos hkind hnames
    (wpAny_mono start (fun xv s₁ h₁ => ?_) fun _ _ e => e)) (fun _ s' hq => wpAny_pure (wpAny_pure hq)) fun _ _ e => e)
  refine block_C (RR := fun acc C => compPost (model prg w) A E (some (assign (.Name y py) env)) (fun _ s' => Q .next s') acc C) J hcell hkind hx h₁ turn ?_
  intro D C s' m' ys news' F' N' o1 lt0 hn hC₀ hD₀ hCL hDL hCD offC WW j yl
  show wpAny _ A (assign (.Name y py) env (.ref D)) _ _ _
  obtain ⟨hh, g, d, t, os⟩ := s'
  refine wpAny_assign_Name (wpAny_storeName_local hy F'.ns (fun h₂ hn₂ hs₂ => ?_) hp)
  have hL₀ : g₀.get? env.locals = none := Heap.get?_none_of_le F'.above
  have F₂ : Fr g₀ env.locals h₂ (fun z => if z = y then some (.ref D) else m z) := ⟨hn₂, fun b o e => hs₂.extBut b o (fun q => by rw [q, hL₀] at e; cases e) (F'.keep b o e), F'.above⟩
  refine ⟨m', hn.sameBut hs₂ hCL, fun h'' hs'' => over D _ ys news' (F₂.change hs'' hCL hC₀) (fun p hp => ?_) o1 lt0 (WW.trans Went.at) j yl⟩
  have z : h₂.get? p.1 = some p.2 := hs₂.extBut _ _ (N' p hp).2.1 (N' p hp).1
  refine ⟨hs''.extBut _ _ ?_ z, (N' p hp).2⟩
  rcases List.mem_cons.mp hp with rfl | hp
  · exact Ne.symm hCD
  · exact offC p hp
end

end
section
open PySem PySem.W PySem.W.X PyProof.Rows PySem.Calls
set_option maxRecDepth 100000
theorem good_post {M : Model} {A : Around} {cd : Code} {s s₁ : Shared} {cw : ClaimW} {cl : Str → Option Addr} {mean : ExcName → Option Value} {args : List WData} {tabs : List (Addr × Addr)} (hT : TabsAt tabs s₁.heap) (hr : ∀ a x, cw.raises a x = false)
    (h : codeAny M A cd (fun r s' => GoodW cw cl mean args { s₁ with heap := ghostOf s₁.heap tabs } r { s' with gens := #[] } ∧ AllBare s'.gens ∧ GrownAll tabs s'.heap) s) : codeAny M A cd (GoodWG cw cl mean args s₁) s := by
  refine codeAny_mono h fun r s' hh => ?_
  obtain ⟨⟨val, keep, hos, _⟩, bare, grown⟩ := hh
  have tab : ∀ b, b ∈ tabs.map (·.2) → isCodeTable s₁.heap b ∧ s₁.heap.get? b = some (tabObj #[]) ∧ GrownAt b s'.heap := fun b hb => by
    obtain ⟨q, hq, rfl⟩ := List.mem_map.mp hb
    exact ⟨((hT q hq).1.tab (hT q hq).2).isCodeTable, (hT q hq).2, grown.get q hq⟩
  refine ⟨?_, ⟨fun b o e => ?_, fun b o e => ?_⟩, hos, bare⟩
  · rcases val with ⟨v, d, as, e1, e2, e3, e4, e5⟩ | ⟨e, ob, x, _, _, _, e4, _⟩
    · refine .inl ⟨v, d, as, e1, e2, e3, e4, fun q => ⟨(e5 q).1, fun a ha => ?_⟩⟩
      by_cases hb : a ∈ tabs.map (·.2)
      · obtain ⟨_, _, ps, hP⟩ := tab a hb
        exact absurd ha (readsW_apart (show s'.heap.get? a = some _ from hP) rfl e3)
      · cases q1 : s₁.heap.get? a with
        | none => rfl
        | some o => exact absurd (ghost_ne q1 hb) (by rw [show (ghostOf s₁.heap tabs).get? a = none from (e5 q).2 a ha]; nofun)
    · exact absurd e4 (by rw [hr]; nofun)
  · by_cases hb : b ∈ tabs.map (·.2)
    · obtain ⟨ht, e0, ps, hP⟩ := tab b hb
      cases e0.symm.trans e
      exact .inr (.inl ⟨ht, rfl, #[], ps, rfl, by simpa using hP⟩)
    · exact .inl (keep b o (ghost_ne e hb))
  · by_cases hb : b ∈ tabs.map (·.2)
    · obtain ⟨_, _, ps, hP⟩ := tab b hb
      exact ⟨_, hP⟩
    · exact ⟨o, keep b o (ghost_ne e hb)⟩

end
local macro_rules | `(tactic| walk_at "execs cons") => `(tactic| refine hold_stop (by with_reducible assumption) (by with_unfolding_all rfl) ?_)
section
open PySem PySem.W PySem.W.X PyProof.Rows PySem.Calls
set_option maxRecDepth 100000
/-- the law's own def, as it stands in the written part -/
noncomputable def lawFd (P : Params) : Option FuncData := match (hd.heap_39 P).lookup 178 with
  | some ⟨_, _, .func fd, _⟩ => some fd
  | _ => none
noncomputable def lawBody (P : Params) : List Stmt := match lawFd P with
  | some fd => (match fd.body with | .stmts b => b | _ => [])
  | none => []
noncomputable def lawScope (P : Params) : Scope := match lawFd P with
  | some fd => fd.scope
  | none => { kind := .function, names := [], isGenerator := false, isCoroutine := false }
noncomputable abbrev lawEnv (w : World) (L fa : Addr) (cd : Value) : Env := envOfC (Str.ofString "law") (lawScope w.params) L fa cd
noncomputable abbrev lawA (w : World) (L fa : Addr) (cd : Value) : Around := callerA.deeper (lawEnv w L fa cd)
/-- what stays as it is all through the law's walk -/
structure LawCx (w : World) (g : Heap) : Prop where
  K : Below callerA g [] g
  X : (hd.heap_39 w.params).In g
  T : ∃ loose mean mg mb, Top topProg loose mean mg mb g
  c48 : CodeHd g 48 44
  c41 : CodeHd g 41 37
  c95 : CodeHd g 95 91
  c102 : CodeHd g 102 98
def JStr (news : List (Addr × Obj)) : Nat → List Value → List (Addr × Obj) → Prop := fun _ vs led => led = news ∧ ∃ us : List (Str × Tok), vs = us.map (fun p => Value.str p.1 p.2) ∧ ∀ p ∈ us, IsUnit p.1
abbrev LL (L : Addr) (w0 w1 w2 w3 w4 w5 : Obj) : List (Addr × Obj) := [(L + 1 + 1 + 1 + 1 + 1 + 1, w5), (L + 1 + 1 + 1 + 1 + 1, w4), (L + 1 + 1 + 1 + 1, w3), (L + 1 + 1 + 1, w2), (L + 1 + 1, w1), (L + 1, w0)]
abbrev T0s : List (Addr × Obj) := [(44, tabObj #[]), (37, tabObj #[]), (91, tabObj #[]), (98, tabObj #[])]
theorem unit_a : IsUnit (Str.ofString "a") := ⟨97, by decide, .inr ⟨by decide +kernel, by decide, by decide⟩⟩
theorem unit_b : IsUnit (Str.ofString "b") := ⟨98, by decide, .inr ⟨by decide +kernel, by decide, by decide⟩⟩
theorem unit_c : IsUnit (Str.ofString "c") := ⟨99, by decide, .inr ⟨by decide +kernel, by decide, by decide⟩⟩
theorem unit_q : IsUnit (Str.ofString "\\\"") := ⟨34, by decide, .inl (by decide +kernel)⟩
theorem unit_s : IsUnit (Str.ofString "\\\\") := ⟨92, by decide, .inl (by decide +kernel)⟩
set_option maxHeartbeats 8000000 in
theorem law_1 : Fill → ∀ {w : World} {g : Heap} {L fa S : Addr} {cd : Value} {s : Shared} {m : Str → Option Value} {Q : Flow → Shared → Prop} {E : Value → Shared → Prop} {w0 w1 w2 w3 w4 w5 : Obj} {vs : List Value} {ns : List Int} (_ : LawCx w g)
    (_ : Fr g L s.heap m) (_ : News g L s.heap (LL L w0 w1 w2 w3 w4 w5 ++ T0s)) (_ : g.IsList S vs.toArray) (_ : IntsAre vs ns) (_ : ns.length ≤ 63) (_ : PyData.layable0 (.list (ns.map .int)) = true) (_ : @LT.lt Nat _ 98 L)
    (_ : w5.data = .cell none) (_ : w4.data = .cell none) (_ : w3.data = .cell none) (_ : w2.data = .cell none) (_ : w1.data = .cell none) (_ : w0.data = .cell (some (.ref S)))
    (_ : ∀ s' w1' DR n (dd : List (Str × Tok)), Went s s' → Fr g L s'.heap m → News g L s'.heap (LL L w0 w1' w2 w3 w4 w5 ++ ((DR, W.listOf (vals dd) n) :: T0s)) → w1'.data = .cell (some (.ref DR)) → (∀ p ∈ dd, IsUnit p.1) → dd.length = min 5 ns.length + 5 → @LT.lt Nat _ (L + 1 + 1 + 1 + 1 + 1 + 1) DR →
      wpAny (model prg w) (lawA w L fa cd) (execs ((lawBody w.params).drop 1) (lawEnv w L fa cd)) Q E s'),
    wpAny (model prg w) (lawA w L fa cd) (execs (lawBody w.params) (lawEnv w L fa cd)) Q E s := by
  unfold Fill
  k_fill
  intro _ w g L fa S cd s m Q E w0 w1 w2 w3 w4 w5 vs ns C F N hS hI hlen hLay hL98 d5 d4 d3 d2 d1 d0 rest
  have hq1 := Held.mk "eval ListComp"
  have hq2 := Held.mk "call builtin:sum"
  have hq3 := Held.mk "subscriptTail Name Slice ref ref"
  have hq4 := Held.mk "binaryOp Add ref ref"
  have hq5 := Held.mk "call ref"
  have hq6 := HeldStop.mk 9
  obtain ⟨K', X', ⟨lo, me, mg, mb, T'⟩, hd48, hd41, hd95, hd102⟩ := C
  have hsc := (rfl : lawScope w.params = lawScope w.params)
  conv at hsc => rhs; whnf
  have hb0 := (rfl : lawBody w.params = lawBody w.params)
  conv at hb0 => rhs; whnf
  have hb1 := (rfl : (lawBody w.params).drop 1 = (lawBody w.params).drop 1)
  conv at hb1 => rhs; whnf
  unfold lawA lawEnv at rest ⊢
  rw [hb0]
  rw [hsc] at rest ⊢
  rw [hb1] at rest
  clear hsc hb0 hb1
  simp only [LL, T0s, List.cons_append, List.nil_append] at N rest
  k_steps
  have hS4 : ∀ {h : Heap}, (∀ b o, g.get? b = some o → h.get? b = some o) → h.IsList S vs.toArray := fun k => by obtain ⟨o, e, r⟩ := hS; exact ⟨o, k _ _ e, r⟩
  have hvl : vs.length = ns.length := hI.length
  have hlay : PyData.layable0 (.list (ns.map .int)) = true := hLay
  obtain ⟨N0, hN0⟩ : ∃ N0, N0 = [(L + 1 + 1 + 1 + 1 + 1 + 1, w5), (L + 1 + 1 + 1 + 1 + 1, w4), (L + 1 + 1 + 1 + 1, w3), (L + 1 + 1 + 1, w2), (L + 1 + 1, w1), (L + 1, w0), (44, tabObj #[]), (37, tabObj #[]), (91, tabObj #[]), (98, tabObj #[])] := ⟨_, rfl⟩
  refine Hold.mk (comp_eval (g₀ := g) (L := L) (m := m) (n := min 5 ns.length) (P := fun i v => ∃ t, v = .int (i : Int) t) (JStr N0) rfl (by decide) rfl (by decide) rfl ?_ ?_ ?_)
  · k_steps
    rename IsRange _ _ _ _ _ _ _ _ => hR
    rename Fr _ _ _ _ => F1
    rename News _ _ _ _ => N2
    refine ⟨N0, ⟨rfl, [], rfl, nofun⟩, F1, hN0 ▸ N2, Went.refl.go rfl rfl, ?_, rfl, .inr ⟨_, _, _, _, _, _, _, rfl, hR, ?_, ?_, fun i t hi => ⟨t, ?_⟩⟩⟩
    · exact Nat.le_trans (Nat.min_le_left _ _) (by decide)
    · exact small_one (by decide) (by decide) (by split <;> omega) (by split <;> omega)
    · rw [rangeSize_nat]
      split <;> (show _ = ((min 5 ns.length : Nat) : Int); omega)
    · rw [Int.mul_one, Int.zero_add]
  · intro i v us led I oI C oC D m₂ s₃ E' hi hP hl hJ hC hx F3 N3 o3 hne W3
    obtain ⟨t, rfl⟩ := hP
    obtain ⟨hJ1, ps, rfl, hps⟩ := hJ
    clear F N rest
    subst hJ1
    rw [hN0] at N3
    k_steps
    rename Fr _ _ _ _ => F4
    rename News _ _ _ _ => N4
    refine Hold.mk (slice_list3 (lo := some (i : Int)) (hi := some 60) (st := some 5) F4 N4 (hS4 F4.keep) (.int _ _) (.int _ _) (.int _ _) nofun (fun h5 F5 N5 => ?_) (hsz := Nat.le_trans (show _ ≤ 4096 by rw [List.size_toArray, hvl]; omega) (by decide)))
    clear F4 N4
    k_steps
    rename Fr _ _ _ _ => F4
    rename News _ _ _ _ => N4
    refine Hold.mk (LSm.sum_ints F4 N4 rfl ⟨_, (N4 _ (.head _)).1, rfl, _, by rw [Array.toArray_toList]⟩ (hI.pick (some (i : Int)) (some 60) (some 5)) (fun h6 tk6 t6 F6 N6 => ?_))
    clear F4 N4
    k_steps
    rename Fr _ _ _ _ => F4
    rename News _ _ _ _ => N4
    refine Hold.mk (unit_spec' (dp := 302) (un := 7) (s := ⟨_, s₃.gens, s₃.drawn, _, s₃.os⟩) fill ⟨K', F4, X', N4, _, _, _, _, T'⟩ (by decide) (by decide) _ _ ?_)
    intro u tk s4 hu W4 F7 N7
    clear F4 N4
    k_steps
    exact ⟨led, ⟨rfl, ps ++ [(u, tk)], by simp, fun p hp => (List.mem_append.mp hp).elim (hps p) fun h => by rw [List.mem_singleton.mp h]; exact hu⟩, o3, F7, News.sub N7 (fun p hp => .tail _ (hN0 ▸ hp)), (show Went s₃ s4 from ⟨W4.os, W4.gens⟩)⟩
  · intro D s2 ys led F2 N2 o2 lt2 W2 hJ hl2
    obtain ⟨hJ1, us, rfl, hus⟩ := hJ
    subst hJ1
    obtain ⟨led0, hj0, lt0⟩ := lt2
    have hlt : @LT.lt Nat _ (L + 1 + 1 + 1 + 1 + 1 + 1) D := lt0 (L + 1 + 1 + 1 + 1 + 1 + 1, w5) (by rw [hj0.1, hN0]; exact .head _)
    clear lt0 hj0
    rw [hN0] at N2
    clear o2
    rw [List.length_map] at hl2
    clear F N
    k_steps
    rename Fr _ _ _ _ => F3
    rename News _ _ _ _ => N3
    rename_i DL hX lX
    have l5 := fun (p : Addr × Obj) hp => Heap.lt_size (N3 p hp).1
    k_lt l5
    refine Hold.mk (add_lists (vs := us.map fun p => Value.str p.1 p.2) (ws := [_, _, _, _, _]) F3 N3 (News.isList N3 (.tail _ (.head _))) (News.isList N3 (.head _)) (fun h5 F5 N5 => ?_) (Nat.le_trans (show _ ≤ 4096 by rw [List.length_map, hl2]; simp only [List.length_cons, List.length_nil]; omega) (by decide)))
    clear F3 N3
    dsimp only at N5 ⊢
    generalize hX.objs.size = DR at *
    k_steps
    rename Fr _ _ _ _ => F9
    rename News _ _ _ _ => N9
    rename_i h9 o9 d9
    obtain ⟨dd, hdd⟩ : ∃ dd, dd = us ++ [(Str.ofString "a", s2.toks), (Str.ofString "\\\"", s2.toks + 1), (Str.ofString "b", s2.toks + 1 + 1), (Str.ofString "\\\\", s2.toks + 1 + 1 + 1), (Str.ofString "c", s2.toks + 1 + 1 + 1 + 1)] := ⟨_, rfl⟩
    have hN9 : News g L h9 [(L + 1 + 1 + 1 + 1 + 1 + 1, w5), (L + 1 + 1 + 1 + 1 + 1, w4), (L + 1 + 1 + 1 + 1, w3), (L + 1 + 1 + 1, w2), (L + 1 + 1, o9), (L + 1, w0), (DR, W.listOf (vals dd) 0), (44, tabObj #[]), (37, tabObj #[]), (91, tabObj #[]), (98, tabObj #[])] := by
      have e : vals dd = ((us.map fun p => Value.str p.1 p.2) ++ [Value.str (Str.ofString "a") s2.toks, Value.str (Str.ofString "\\\"") (s2.toks + 1), Value.str (Str.ofString "b") (s2.toks + 1 + 1), Value.str (Str.ofString "\\\\") (s2.toks + 1 + 1 + 1), Value.str (Str.ofString "c") (s2.toks + 1 + 1 + 1 + 1)]).toArray := by rw [hdd]; simp
      rw [e]
      exact News.sub N9 (by lcg_sub)
    refine Hold.mk (rest _ o9 DR 0 dd (W2.go rfl rfl) F9 hN9 d9 ?_ (by rw [hdd]; simp [hl2]) (by omega))
    rw [hdd]
    intro p hp
    rcases List.mem_append.mp hp with hp | hp
    · exact hus p hp
    · simp only [List.mem_cons, List.not_mem_nil, or_false] at hp
      rcases hp with rfl | rfl | rfl | rfl | rfl
      · exact unit_a
      · exact unit_q
      · exact unit_b
      · exact unit_s
      · exact unit_c

end
section
open PySem PySem.W PySem.W.X PyProof.Rows PySem.Calls
set_option maxRecDepth 100000
section
set_option maxHeartbeats 8000000 in
theorem law_2 : Fill → ∀ {w : World} {g : Heap} {L fa S DR : Addr} {cd : Value} {s : Shared} {m : Str → Option Value} {Q : Flow → Shared → Prop} {E : Value → Shared → Prop} {w0 w1 w2 w3 w4 w5 : Obj} {vs : List Value} {ns : List Int} {dd : List (Str × Tok)} {n : Nat} (_ : LawCx w g)
    (_ : Fr g L s.heap m) (_ : News g L s.heap (LL L w0 w1 w2 w3 w4 w5 ++ ((DR, W.listOf (vals dd) n) :: T0s))) (_ : g.IsList S vs.toArray) (_ : IntsAre vs ns) (_ : ns.length ≤ 63) (_ : PyData.layable0 (.list (ns.map .int)) = true) (_ : @LT.lt Nat _ 98 L) (_ : @LT.lt Nat _ (L + 1 + 1 + 1 + 1 + 1 + 1) DR)
    (_ : w5.data = .cell none) (_ : w4.data = .cell none) (_ : w3.data = .cell none) (_ : w2.data = .cell none) (_ : w1.data = .cell (some (.ref DR))) (_ : w0.data = .cell (some (.ref S))) (_ : dd.length ≤ 10)
    (_ : ∀ s' w2' w3' (f : Nat) tf tn, Went s s' → Fr g L s'.heap m → News g L s'.heap (LL L w0 w1 w2' w3' w4 w5 ++ ((DR, W.listOf (vals dd) n) :: T0s)) → w2'.data = .cell (some (.int (f : Nat) tf)) → w3'.data = .cell (some (.int (dd.length : Nat) tn)) → f % 2 = 1 → f ≤ 8191 →
      wpAny (model prg w) (lawA w L fa cd) (execs ((lawBody w.params).drop 3) (lawEnv w L fa cd)) Q E s'),
    wpAny (model prg w) (lawA w L fa cd) (execs ((lawBody w.params).drop 1) (lawEnv w L fa cd)) Q E s := by
  unfold Fill
  k_fill
  intro _ w g L fa S DR cd s m Q E w0 w1 w2 w3 w4 w5 vs ns dd n C F N hS hI hlen hLay hL98 hDR d5 d4 d3 d2 d1 d0 hdl rest
  have hq1 := Held.mk "call builtin:sum"
  have hq2 := Held.mk "subscriptTail Name Slice ref ref"
  have hq3 := HeldStop.mk 7
  obtain ⟨K', X', ⟨lo, me, mg, mb, T'⟩, hd48, hd41, hd95, hd102⟩ := C
  have hsc := (rfl : lawScope w.params = lawScope w.params)
  conv at hsc => rhs; whnf
  have hb0 := (rfl : (lawBody w.params).drop 1 = (lawBody w.params).drop 1)
  conv at hb0 => rhs; whnf
  have hb1 := (rfl : (lawBody w.params).drop 3 = (lawBody w.params).drop 3)
  conv at hb1 => rhs; whnf
  unfold lawA lawEnv at rest ⊢
  rw [hb0]
  rw [hsc] at rest ⊢
  rw [hb1] at rest
  clear hsc hb0 hb1
  simp only [LL, T0s, List.cons_append, List.nil_append] at N rest
  have hS4 : ∀ {h : Heap}, (∀ b o, g.get? b = some o → h.get? b = some o) → h.IsList S vs.toArray := fun k => by obtain ⟨o, e, r⟩ := hS; exact ⟨o, k _ _ e, r⟩
  have hvl : vs.length = ns.length := hI.length
  have hd4 : dd.length ≤ 4096 := Nat.le_trans hdl (by decide)
  k_steps
  rename Fr _ _ _ _ => F4
  rename News _ _ _ _ => N4
  refine Hold.mk (slice_list (lo := none) (hi := some 60) F4 N4 (hS4 F4.keep) .none (.int _ _) (fun h5 F5 N5 => ?_) (hsz := Nat.le_trans (show _ ≤ 4096 by rw [List.size_toArray, hvl]; omega) (by decide)))
  clear F4 N4
  k_steps
  rename Fr _ _ _ _ => F4
  rename News _ _ _ _ => N4
  refine Hold.mk (LSm.sum_ints F4 N4 rfl ⟨_, (N4 _ (.head _)).1, rfl, _, by rw [Array.toArray_toList]⟩ (hI.pick none (some 60) none) (fun h6 tk6 t6 F6 N6 => ?_))
  clear F4 N4
  generalize (pickNums ns none (some 60) none).sum = tot at *
  replace N6 := News.tl N6
  k_steps
  rename Fr _ _ _ _ => F9
  rename News _ _ _ _ => N9
  rename_i hA oA dA hB oB dB
  obtain ⟨f, hf, hf2, hf3⟩ : ∃ f : Nat, 2 * tot.fmod 4096 + 1 = (f : Int) ∧ f % 2 = 1 ∧ f ≤ 8191 := by
    rw [Int.fmod_eq_emod_of_nonneg _ (by decide)]
    exact ⟨(2 * (tot % 4096) + 1).toNat, by omega, by omega, by omega⟩
  rw [hf] at dA
  exact Hold.mk (rest _ oA oB f _ _ (Went.refl.go rfl rfl) F9 N9 dA dB hf2 hf3)
end

end
section
open PySem PySem.W PySem.W.X PyProof.Rows PySem.Calls
set_option maxRecDepth 100000
def JInt (news : List (Addr × Obj)) (val : Nat → Int) : Nat → List Value → List (Addr × Obj) → Prop := fun i vs led => led = news ∧ ∃ ds : List (Int × Tok), vs = ds.map (fun p => Value.int p.1 p.2) ∧ ds.map (·.1) = (List.range i).map val
theorem jint_snoc {ds : List (Int × Tok)} {val : Nat → Int} {i : Nat} {k : Int} {t : Tok} (h : ds.map (·.1) = (List.range i).map val) (e : k = val i) : (ds ++ [(k, t)]).map (·.1) = (List.range (i + 1)).map val := by
  rw [List.map_append, h, List.range_succ, List.map_append, e]; rfl
def plc (n j : Nat) : Int := ((2 * n - j : Nat) : Int)
section
set_option maxHeartbeats 8000000 in
theorem law_3 : Fill → ∀ {w : World} {g : Heap} {L fa DR : Addr} {cd : Value} {s : Shared} {m : Str → Option Value} {Q : Flow → Shared → Prop} {E : Value → Shared → Prop} {w0 w1 w2 w3 w4 w5 : Obj} {dd : List (Str × Tok)} {n : Nat} {tn : Tok} (_ : LawCx w g)
    (_ : Fr g L s.heap m) (_ : News g L s.heap (LL L w0 w1 w2 w3 w4 w5 ++ ((DR, W.listOf (vals dd) n) :: T0s))) (_ : @LT.lt Nat _ 98 L) (_ : @LT.lt Nat _ (L + 1 + 1 + 1 + 1 + 1 + 1) DR)
    (_ : w3.data = .cell (some (.int (dd.length : Nat) tn))) (_ : dd.length ≤ 10)
    (_ : ∀ s' PR (ps : List (Int × Tok)) k, Went s s' → Fr g L s'.heap (fun z => if z = Str.ofString "places" then some (.ref PR) else m z) → News g L s'.heap (LL L w0 w1 w2 w3 w4 w5 ++ ((PR, W.listOf (ivals ps) k) :: (DR, W.listOf (vals dd) n) :: T0s)) → ps.map (·.1) = (List.range dd.length).map (plc dd.length) →
      @LT.lt Nat _ (L + 1 + 1 + 1 + 1 + 1 + 1) PR → wpAny (model prg w) (lawA w L fa cd) (execs ((lawBody w.params).drop 4) (lawEnv w L fa cd)) Q E s'),
    wpAny (model prg w) (lawA w L fa cd) (execs ((lawBody w.params).drop 3) (lawEnv w L fa cd)) Q E s := by
  unfold Fill
  k_fill
  intro _ w g L fa DR cd s m Q E w0 w1 w2 w3 w4 w5 dd n tn C F N hL98 hDR d3 hdl rest
  have hq1 := Held.mk "exec Assign cons ListComp"
  have hq2 := HeldStop.mk 6
  obtain ⟨K', X', ⟨lo, me, mg, mb, T'⟩, hd48, hd41, hd95, hd102⟩ := C
  have hsc := (rfl : lawScope w.params = lawScope w.params)
  conv at hsc => rhs; whnf
  have hb0 := (rfl : (lawBody w.params).drop 3 = (lawBody w.params).drop 3)
  conv at hb0 => rhs; whnf
  have hb1 := (rfl : (lawBody w.params).drop 4 = (lawBody w.params).drop 4)
  conv at hb1 => rhs; whnf
  unfold lawA lawEnv at rest ⊢
  rw [hb0]
  rw [hsc] at rest ⊢
  rw [hb1] at rest
  clear hsc hb0 hb1
  simp only [LL, T0s, List.cons_append, List.nil_append] at N rest
  k_steps
  obtain ⟨N0, hN0⟩ : ∃ N0, N0 = [(L + 1 + 1 + 1 + 1 + 1 + 1, w5), (L + 1 + 1 + 1 + 1 + 1, w4), (L + 1 + 1 + 1 + 1, w3), (L + 1 + 1 + 1, w2), (L + 1 + 1, w1), (L + 1, w0), (DR, W.listOf (vals dd) n), (44, tabObj #[]), (37, tabObj #[]), (91, tabObj #[]), (98, tabObj #[])] := ⟨_, rfl⟩
  refine Hold.mk (comp_assign (g₀ := g) (L := L) (m := m) (n := dd.length) (P := fun i v => ∃ t, v = .int (1 + (i : Int) * 1) t) (JInt N0 (plc dd.length)) rfl rfl rfl (by decide) rfl (by decide) rfl rfl rfl ?_ ?_ ?_)
  · k_steps
    rename IsRange _ _ _ _ _ _ _ _ => hR
    rename Fr _ _ _ _ => F1
    rename News _ _ _ _ => N2
    refine ⟨N0, ⟨rfl, [], rfl, rfl⟩, F1, hN0 ▸ N2, Went.refl.go rfl rfl, by omega, rfl, .inr ⟨_, _, _, _, _, _, _, rfl, hR, ?_, ?_, fun i t hi => ⟨t, rfl⟩⟩⟩
    · exact small_one (by decide) (by decide) (by omega) (by omega)
    · rw [rangeSize_nat]
      omega
  · intro i v us led I oI C oC D m₂ s₃ E' hi hP hl hJ hC hx F3 N3 o3 hne W3
    obtain ⟨t, rfl⟩ := hP
    obtain ⟨hJ1, ps, rfl, hps⟩ := hJ
    clear F N rest
    subst hJ1
    rw [hN0] at N3
    k_steps
    rename Fr _ _ _ _ => F4
    rename News _ _ _ _ => N4
    exact ⟨led, ⟨rfl, ps ++ [(_, _)], by rw [List.map_append]; rfl, jint_snoc hps (by unfold plc; omega)⟩, o3, F4, hN0 ▸ N4, Went.refl.go rfl rfl⟩
  · intro D s2 ys led F2 N2 o2 lt2 W2 hJ hl2
    obtain ⟨hJ1, ps, rfl, hps⟩ := hJ
    subst hJ1
    obtain ⟨led0, hj0, lt0⟩ := lt2
    have hlt : @LT.lt Nat _ (L + 1 + 1 + 1 + 1 + 1 + 1) D := lt0 (L + 1 + 1 + 1 + 1 + 1 + 1, w5) (by rw [hj0.1, hN0]; exact .head _)
    clear lt0 hj0
    rw [hN0] at N2
    clear o2
    clear F N
    k_steps
    exact Hold.mk (rest _ D ps _ W2 F2 (News.sub N2 (by lcg_sub)) hps hlt)
end

end
section
open PySem PySem.W PySem.W.X PyProof.Rows PySem.Calls
set_option maxRecDepth 100000
theorem ivals_get {ps : List (Int × Tok)} {n i : Nat} {val : Nat → Int} {v : Value} (h : ps.map (·.1) = (List.range n).map val) (hi : i < n) (hv : (ivals ps)[i]? = some v) : ∃ t, v = .int (val i) t := by
  have h1 : (ps.map (·.1))[i]? = some (val i) := by rw [h, List.getElem?_map, List.getElem?_range hi]; rfl
  rw [List.getElem?_map] at h1
  have h2 : (ps.map fun p => Value.int p.1 p.2)[i]? = some v := by simpa [ivals] using hv
  rw [List.getElem?_map] at h2
  cases hp : ps[i]? with
  | none => rw [hp] at h1; cases h1
  | some p =>
    rw [hp] at h1 h2
    simp only [Option.map_some, Option.some.injEq] at h1 h2
    exact ⟨p.2, by rw [← h2, ← h1]⟩
theorem ivals_len {ps : List (Int × Tok)} {n : Nat} {val : Nat → Int} (h : ps.map (·.1) = (List.range n).map val) : ps.length = n := by have := congrArg List.length h; simpa using this
def prt (n j : Nat) : Int := ((oddP (2 * n - j) : Nat) : Int)
section
set_option maxHeartbeats 8000000 in
theorem law_4 : Fill → ∀ {w : World} {g : Heap} {L fa DR PR : Addr} {cd : Value} {s : Shared} {m : Str → Option Value} {Q : Flow → Shared → Prop} {E : Value → Shared → Prop} {w0 w1 w2 w3 w4 w5 : Obj} {dd : List (Str × Tok)} {n kp : Nat} {ps : List (Int × Tok)} (_ : LawCx w g)
    (_ : Fr g L s.heap m) (_ : News g L s.heap (LL L w0 w1 w2 w3 w4 w5 ++ ((PR, W.listOf (ivals ps) kp) :: (DR, W.listOf (vals dd) n) :: T0s))) (_ : @LT.lt Nat _ 98 L) (_ : @LT.lt Nat _ (L + 1 + 1 + 1 + 1 + 1 + 1) DR)
    (_ : @LT.lt Nat _ (L + 1 + 1 + 1 + 1 + 1 + 1) PR) (_ : m (Str.ofString "places") = some (.ref PR)) (_ : ps.map (·.1) = (List.range dd.length).map (plc dd.length))
    (_ : w4.data = .cell none) (_ : dd.length ≤ 10) (_ : 5 ≤ dd.length)
    (_ : ∀ s' w4' QR (qs : List (Int × Tok)) k, Went s s' → Fr g L s'.heap m → News g L s'.heap (LL L w0 w1 w2 w3 w4' w5 ++ ((QR, W.listOf (ivals qs) k) :: (PR, W.listOf (ivals ps) kp) :: (DR, W.listOf (vals dd) n) :: T0s)) → w4'.data = .cell (some (.ref QR)) → qs.map (·.1) = (List.range dd.length).map (prt dd.length) →
      @LT.lt Nat _ (L + 1 + 1 + 1 + 1 + 1 + 1) QR → wpAny (model prg w) (lawA w L fa cd) (execs ((lawBody w.params).drop 5) (lawEnv w L fa cd)) Q E s'),
    wpAny (model prg w) (lawA w L fa cd) (execs ((lawBody w.params).drop 4) (lawEnv w L fa cd)) Q E s := by
  unfold Fill
  k_fill
  intro _ w g L fa DR PR cd s m Q E w0 w1 w2 w3 w4 w5 dd n kp ps C F N hL98 hDR hPR hmp hps d4 hdl hdl5 rest
  have hq1 := Held.mk "eval ListComp"
  have hq2 := Held.mk "call ref"
  have hq3 := HeldStop.mk 5
  obtain ⟨K', X', ⟨lo, me, mg, mb, T'⟩, hd48, hd41, hd95, hd102⟩ := C
  have hsc := (rfl : lawScope w.params = lawScope w.params)
  conv at hsc => rhs; whnf
  have hb0 := (rfl : (lawBody w.params).drop 4 = (lawBody w.params).drop 4)
  conv at hb0 => rhs; whnf
  have hb1 := (rfl : (lawBody w.params).drop 5 = (lawBody w.params).drop 5)
  conv at hb1 => rhs; whnf
  unfold lawA lawEnv at rest ⊢
  rw [hb0]
  rw [hsc] at rest ⊢
  rw [hb1] at rest
  clear hsc hb0 hb1
  simp only [LL, T0s, List.cons_append, List.nil_append] at N rest
  have hpl : ps.length = dd.length := ivals_len hps
  rw [← up_same hmp] at F
  obtain ⟨mm, hmm⟩ : ∃ mm, mm = up m (Str.ofString "places") (.ref PR) := ⟨_, rfl⟩
  k_steps
  obtain ⟨N0, hN0⟩ : ∃ N0, N0 = [(L + 1 + 1 + 1 + 1 + 1 + 1, w5), (L + 1 + 1 + 1 + 1 + 1, w4), (L + 1 + 1 + 1 + 1, w3), (L + 1 + 1 + 1, w2), (L + 1 + 1, w1), (L + 1, w0), (PR, W.listOf (ivals ps) kp), (DR, W.listOf (vals dd) n), (44, tabObj #[]), (37, tabObj #[]), (91, tabObj #[]), (98, tabObj #[])] := ⟨_, rfl⟩
  refine Hold.mk (comp_eval (g₀ := g) (L := L) (m := m) (n := dd.length) (P := fun i v => (ivals ps)[i]? = some v) (JInt N0 (prt dd.length)) rfl (by decide) rfl (by decide) rfl ?_ ?_ ?_)
  · k_steps
    rename Fr _ _ _ _ => F1
    rename News _ _ _ _ => N2
    rw [up_same hmp] at F1
    refine ⟨N0, ⟨rfl, [], rfl, rfl⟩, F1, hN0 ▸ N2, Went.refl.go rfl rfl, by omega, rfl, .inl ⟨PR, ivals ps, rfl, by rw [size_ivals, hpl], fun i v h => h, fun i vs led hj => ⟨kp, ?_⟩⟩⟩
    rw [hj.1, hN0]; k_mem
  · intro i v us led I oI C oC D m₂ s₃ E' hi hP hl hJ hC hx F3 N3 o3 hne W3
    obtain ⟨t, rfl⟩ := ivals_get hps hi hP
    obtain ⟨hJ1, qs, rfl, hqs⟩ := hJ
    clear F N rest
    subst hJ1
    rw [hN0] at N3
    unfold plc at hx
    k_steps
    rename Fr _ _ _ _ => F4
    rename News _ _ _ _ => N4
    refine Hold.mk (halved_spec' (dp := 302) (un := 7) (s := ⟨_, s₃.gens, s₃.drawn, _, s₃.os⟩) fill ⟨K', F4, X', N4, _, _, _, _, T'⟩ (by decide) (by decide) (2 * dd.length - i) t (by omega) ?_)
    intro tk s4 W4 F7 N7
    clear F4 N4
    k_steps
    exact ⟨led, ⟨rfl, qs ++ [(_, _)], by rw [List.map_append]; rfl, jint_snoc hqs rfl⟩, o3, F7, hN0 ▸ N7, (show Went s₃ s4 from ⟨W4.os, W4.gens⟩)⟩
  · intro D s2 ys led F2 N2 o2 lt2 W2 hJ hl2
    obtain ⟨hJ1, qs, rfl, hqs⟩ := hJ
    subst hJ1
    obtain ⟨led0, hj0, lt0⟩ := lt2
    have hlt : @LT.lt Nat _ (L + 1 + 1 + 1 + 1 + 1 + 1) D := lt0 (L + 1 + 1 + 1 + 1 + 1 + 1, w5) (by rw [hj0.1, hN0]; exact .head _)
    clear lt0 hj0
    rw [hN0] at N2
    clear o2
    clear F N
    k_steps
    rename Fr _ _ _ _ => F9
    rename News _ _ _ _ => N9
    rename_i h9 o9 d9
    exact Hold.mk (rest _ o9 D qs _ (W2.go rfl rfl) F9 (News.sub N9 (by lcg_sub)) d9 hqs hlt)
end

end
section
open PySem PySem.W PySem.W.X PyProof.Rows PySem.Calls
set_option maxRecDepth 100000
def oddF : Nat → Nat → Nat
  | 0, n => n
  | k + 1, n => if n % 2 = 0 then oddF k (n / 2) else n
theorem oddF_eq : ∀ (k n : Nat), 0 < n → n < 2 ^ k → oddP n = oddF k n
  | 0, n, h0, h => by simp at h; omega
  | k + 1, n, h0, h => by
    unfold oddF
    rcases Nat.mod_two_eq_zero_or_one n with e | e
    · rw [if_pos e, oddP_even e h0, oddF_eq k (n / 2) (by omega) (by rw [Nat.pow_succ] at h; omega)]
    · rw [if_neg (by omega), oddP_odd e]
/-- the odd parts, as a reckonable list -/
def prtL (n : Nat) : List Int := (List.range n).map fun j => ((oddF 5 (2 * n - j) : Nat) : Int)
theorem prt_eq {n : Nat} (h5 : n ≤ 10) : (List.range n).map (prt n) = prtL n := by
  refine List.map_congr_left fun j hj => ?_
  have := List.mem_range.mp hj
  unfold prt
  rw [oddF_eq 5 _ (by omega) (by omega)]
theorem prtL_small : ∀ n, n < 11 → ∀ k ∈ prtL n, ∃ j : Nat, j < 21 ∧ k = (j : Int) := by
  intro n hn k hk
  obtain ⟨j, hj, rfl⟩ := List.mem_map.mp hk
  refine ⟨_, ?_, rfl⟩
  have : ∀ n, n < 11 → ∀ j, j < n → oddF 5 (2 * n - j) < 21 := by decide +kernel
  exact this n hn j (List.mem_range.mp hj)
theorem prtL_mem : ∀ n, n < 11 → ∀ j, j < n → ((2 * n - 1 - 2 * j : Nat) : Int) ∈ prtL n := by decide +kernel
theorem prtL_len {n : Nat} : (prtL n).length = n := by simp [prtL]
theorem small_weight : ∀ j, j < 21 → PyData.weight (.int ((j : Nat) : Int)) ≤ 64 := by decide +kernel
theorem lay_small : ∀ ns : List Int, (∀ k ∈ ns, ∃ j : Nat, j < 21 ∧ k = (j : Int)) → PyData.canLayAll0 (ns.map .int) = true ∧ PyData.depthAll (ns.map .int) = 0 ∧ PyData.weightAll (ns.map .int) ≤ 65 * ns.length
  | [], _ => ⟨rfl, rfl, Nat.le_refl _⟩
  | n :: r, h => by
    obtain ⟨h1, h2, h3⟩ := lay_small r fun m hm => h m (.tail _ hm)
    refine ⟨by simpa [PyData.canLayAll0, PyData.canLay0] using h1, by simp [PyData.depthAll, PyData.depth, h2], ?_⟩
    obtain ⟨j, hj, rfl⟩ := h n (.head _)
    have hw := small_weight j hj
    simp only [List.map_cons, PyData.weightAll, List.length_cons]
    omega
theorem lay_smalls {ns : List Int} (h : ∀ k ∈ ns, ∃ j : Nat, j < 21 ∧ k = (j : Int)) (hl : ns.length ≤ 64) : PyData.layable0 (.list (ns.map .int)) = true := by
  obtain ⟨h1, h2, h3⟩ := lay_small ns h
  unfold PyData.layable0
  simp only [PyData.canLay0, PyData.depth, PyData.weight, h1, h2, Bool.true_and, Bool.and_eq_true, decide_eq_true_eq]
  exact ⟨by decide, decide_eq_true (Nat.le_trans h3 (Nat.le_trans (Nat.mul_le_mul_left 65 hl) (show 65 * 64 ≤ 2 ^ 20 by decide)))⟩
theorem down_rng (n : Nat) (h5 : 5 ≤ n) (h10 : n ≤ 10) : Builtin.Range.small (2 * (n : Int) - 1) 0 (-2) = true ∧ Builtin.Range.rangeSize (2 * (n : Int) - 1) 0 (-2) = (n : Int) := by
  have hn : n = 5 ∨ n = 6 ∨ n = 7 ∨ n = 8 ∨ n = 9 ∨ n = 10 := by omega
  rcases hn with rfl | rfl | rfl | rfl | rfl | rfl <;> decide +kernel
theorem down_at {n i : Nat} (h : i < n) : 2 * (n : Int) - 1 + (i : Int) * -2 = ((2 * n - 1 - 2 * i : Nat) : Int) := by omega
/-- the unit that goes as the j-th -/
def duev (dl : List Str) (j : Nat) : Str := dl.getD ((prtL dl.length).idxOf ((2 * dl.length - 1 - 2 * j : Nat) : Int)) ⟨#[]⟩
def dueL (dl : List Str) : List Str := (List.range dl.length).map (duev dl)
def JDue (news : List (Addr × Obj)) (val : Nat → Str) : Nat → List Value → List (Addr × Obj) → Prop := fun i vs led => led = news ∧ ∃ us : List (Str × Tok), vs = us.map (fun p => Value.str p.1 p.2) ∧ us.map (·.1) = (List.range i).map val
theorem jdue_snoc {ds : List (Str × Tok)} {val : Nat → Str} {i : Nat} {k : Str} {t : Tok} (h : ds.map (·.1) = (List.range i).map val) (e : k = val i) : (ds ++ [(k, t)]).map (·.1) = (List.range (i + 1)).map val := by
  rw [List.map_append, h, List.range_succ, List.map_append, e]; rfl
section
variable {prog : Program} {w : World} {A : Around} {E : Value → Shared → Prop} {s : Shared}
theorem item_str {value slice : Expr} {l : Addr} {dd : List (Str × Tok)} {k : Nat} {u : Tok} {Q : Value → Shared → Prop} (hl : s.heap.IsList l (vals dd)) (hk : k < dd.length) (hd : dd.length ≤ 64)
    (h : ∀ t, Q (.str ((dd.map (·.1)).getD k ⟨#[]⟩) t) s) (hs : subscripted slice false (.ref l) (.int (k : Nat) u) = operate [.ref l, .int (k : Nat) u] (getItem (.ref l) (.int (k : Nat) u)) := by with_unfolding_all rfl) :
    wpAny (model prog w) A (subscriptTail value slice (.ref l) (.int (k : Nat) u)) Q E s := by
  refine tail_any hl.typeIs slot_list_getitem.lookup (wpAny_getItem_list hl (Int.natCast_nonneg _) (by omega) (x := .str dd[k].1 dd[k].2) ?_ ?_) hs
  · rw [Int.toNat_natCast]; simp [vals, hk]
  · have := h dd[k].2
    rw [List.getD_eq_getElem?_getD, List.getElem?_map, List.getElem?_eq_getElem hk] at this
    exact this
end
section
set_option maxHeartbeats 8000000 in
theorem law_5 : Fill → ∀ {w : World} {g : Heap} {L fa DR PR QR : Addr} {cd : Value} {s : Shared} {m : Str → Option Value} {Q : Flow → Shared → Prop} {E : Value → Shared → Prop} {w0 w1 w2 w3 w4 w5 : Obj} {dd : List (Str × Tok)} {n kp kq : Nat} {ps qs : List (Int × Tok)} {tn : Tok} (_ : LawCx w g)
    (_ : Fr g L s.heap m) (_ : News g L s.heap (LL L w0 w1 w2 w3 w4 w5 ++ ((QR, W.listOf (ivals qs) kq) :: (PR, W.listOf (ivals ps) kp) :: (DR, W.listOf (vals dd) n) :: T0s))) (_ : @LT.lt Nat _ 98 L) (_ : @LT.lt Nat _ (L + 1 + 1 + 1 + 1 + 1 + 1) DR)
    (_ : @LT.lt Nat _ (L + 1 + 1 + 1 + 1 + 1 + 1) PR) (_ : @LT.lt Nat _ (L + 1 + 1 + 1 + 1 + 1 + 1) QR)
    (_ : w1.data = .cell (some (.ref DR))) (_ : w3.data = .cell (some (.int (dd.length : Nat) tn))) (_ : w4.data = .cell (some (.ref QR))) (_ : w5.data = .cell none) (_ : qs.map (·.1) = prtL dd.length) (_ : dd.length ≤ 10) (_ : 5 ≤ dd.length)
    (_ : ∀ s' w5' UR (us : List (Str × Tok)) k, Went s s' → Fr g L s'.heap m → News g L s'.heap (LL L w0 w1 w2 w3 w4 w5' ++ ((UR, W.listOf (vals us) k) :: (QR, W.listOf (ivals qs) kq) :: (PR, W.listOf (ivals ps) kp) :: (DR, W.listOf (vals dd) n) :: T0s)) → w5'.data = .cell (some (.ref UR)) → us.map (·.1) = dueL (dd.map (·.1)) →
      @LT.lt Nat _ (L + 1 + 1 + 1 + 1 + 1 + 1) UR → wpAny (model prg w) (lawA w L fa cd) (execs ((lawBody w.params).drop 6) (lawEnv w L fa cd)) Q E s'),
    wpAny (model prg w) (lawA w L fa cd) (execs ((lawBody w.params).drop 5) (lawEnv w L fa cd)) Q E s := by
  unfold Fill
  k_fill
  intro _ w g L fa DR PR QR cd s m Q E w0 w1 w2 w3 w4 w5 dd n kp kq ps qs tn C F N hL98 hDR hPR hQR d1 d3 d4 d5 hqs hdl hdl5 rest
  have hq1 := Held.mk "eval ListComp"
  have hq2 := Held.mk "call builtin:list.index"
  have hq3 := Held.mk "subscriptTail"
  have hq4 := Held.mk "subscriptTail Name Call ref int"
  have hq5 := HeldStop.mk 4
  obtain ⟨K', X', ⟨lo, me, mg, mb, T'⟩, hd48, hd41, hd95, hd102⟩ := C
  have hsc := (rfl : lawScope w.params = lawScope w.params)
  conv at hsc => rhs; whnf
  have hb0 := (rfl : (lawBody w.params).drop 5 = (lawBody w.params).drop 5)
  conv at hb0 => rhs; whnf
  have hb1 := (rfl : (lawBody w.params).drop 6 = (lawBody w.params).drop 6)
  conv at hb1 => rhs; whnf
  unfold lawA lawEnv at rest ⊢
  rw [hb0]
  rw [hsc] at rest ⊢
  rw [hb1] at rest
  clear hsc hb0 hb1
  simp only [LL, T0s, List.cons_append, List.nil_append] at N rest
  have hlays : PyData.layable0 (.list ((qs.map (·.1)).map .int)) = true := by
    rw [hqs]
    exact lay_smalls (prtL_small _ (by omega)) (by rw [prtL_len]; omega)
  k_steps
  obtain ⟨N0, hN0⟩ : ∃ N0, N0 = [(L + 1 + 1 + 1 + 1 + 1 + 1, w5), (L + 1 + 1 + 1 + 1 + 1, w4), (L + 1 + 1 + 1 + 1, w3), (L + 1 + 1 + 1, w2), (L + 1 + 1, w1), (L + 1, w0), (QR, W.listOf (ivals qs) kq), (PR, W.listOf (ivals ps) kp), (DR, W.listOf (vals dd) n), (44, tabObj #[]), (37, tabObj #[]), (91, tabObj #[]), (98, tabObj #[])] := ⟨_, rfl⟩
  refine Hold.mk (comp_eval (g₀ := g) (L := L) (m := m) (n := dd.length) (P := fun i v => ∃ t, v = .int ((2 * dd.length - 1 - 2 * i : Nat) : Int) t) (JDue N0 (duev (dd.map (·.1)))) rfl (by decide) rfl (by decide) rfl ?_ ?_ ?_)
  · k_steps
    rename IsRange _ _ _ _ _ _ _ _ => hR
    rename Fr _ _ _ _ => F1
    rename News _ _ _ _ => N2
    refine ⟨N0, ⟨rfl, [], rfl, rfl⟩, F1, hN0 ▸ N2, Went.refl.go rfl rfl, by omega, rfl, .inr ⟨_, _, _, _, _, _, _, rfl, hR, ?_, ?_, fun i t hi => ⟨t, ?_⟩⟩⟩
    · exact (down_rng _ hdl5 hdl).1
    · exact (down_rng _ hdl5 hdl).2
    · rw [down_at hi]
  · intro i v us led I oI C oC D m₂ s₃ E' hi hP hl hJ hC hx F3 N3 o3 hne W3
    obtain ⟨t, rfl⟩ := hP
    obtain ⟨hJ1, us, rfl, hus⟩ := hJ
    clear F N rest
    subst hJ1
    rw [hN0] at N3
    k_steps
    rename Fr _ _ _ _ => F4
    rename News _ _ _ _ => N4
    refine Hold.mk (index_list_ints (News.isList N4 (by k_mem)) (ints_are qs) hlays (by rw [hqs]; exact prtL_mem _ (by omega) _ hi) ?_)
    rw [hqs]
    have hix : (prtL dd.length).idxOf ((2 * dd.length - 1 - 2 * i : Nat) : Int) < dd.length := by
      have := List.idxOf_lt_length_iff.mpr (prtL_mem dd.length (by omega) i hi)
      rwa [prtL_len] at this
    k_steps
    refine Hold.mk (item_str (dd := dd) (News.isList N4 (by k_mem)) hix (by omega) (fun t9 => ?_))
    k_steps
    exact ⟨led, ⟨rfl, us ++ [(_, t9)], by rw [List.map_append]; rfl, jdue_snoc hus (by unfold duev; rw [List.length_map]; rfl)⟩, o3, F4, hN0 ▸ N4, Went.refl.go rfl rfl⟩
  · intro D s2 ys led F2 N2 o2 lt2 W2 hJ hl2
    obtain ⟨hJ1, us, rfl, hus⟩ := hJ
    subst hJ1
    obtain ⟨led0, hj0, lt0⟩ := lt2
    have hlt : @LT.lt Nat _ (L + 1 + 1 + 1 + 1 + 1 + 1) D := lt0 (L + 1 + 1 + 1 + 1 + 1 + 1, w5) (by rw [hj0.1, hN0]; exact .head _)
    clear lt0 hj0
    rw [hN0] at N2
    clear o2
    clear F N
    k_steps
    rename Fr _ _ _ _ => F9
    rename News _ _ _ _ => N9
    rename_i h9 o9 d9
    exact Hold.mk (rest _ o9 D us _ (W2.go rfl rfl) F9 (News.sub N9 (by lcg_sub)) d9 (by rw [hus]; unfold dueL; rw [List.length_map]) hlt)
end

end
section
open PySem PySem.W PySem.W.X PyProof.Rows PySem.Calls
set_option maxRecDepth 100000
theorem list_cases {α : Type} {P : List α → Prop} (h5 : ∀ a b c d e, P [a, b, c, d, e]) (h6 : ∀ a b c d e f, P [a, b, c, d, e, f]) (h7 : ∀ a b c d e f g, P [a, b, c, d, e, f, g]) (h8 : ∀ a b c d e f g h, P [a, b, c, d, e, f, g, h])
    (h9 : ∀ a b c d e f g h i, P [a, b, c, d, e, f, g, h, i]) (h10 : ∀ a b c d e f g h i j, P [a, b, c, d, e, f, g, h, i, j]) : ∀ l : List α, 5 ≤ l.length → l.length ≤ 10 → P l
  | [], h, _ => absurd h (by simp)
  | [_], h, _ => absurd h (by simp)
  | [_, _], h, _ => absurd h (by simp)
  | [_, _, _], h, _ => absurd h (by simp)
  | [_, _, _, _], h, _ => absurd h (by simp)
  | [_, _, _, _, _], _, _ => h5 ..
  | [_, _, _, _, _, _], _, _ => h6 ..
  | [_, _, _, _, _, _, _], _, _ => h7 ..
  | [_, _, _, _, _, _, _, _], _, _ => h8 ..
  | [_, _, _, _, _, _, _, _, _], _, _ => h9 ..
  | [_, _, _, _, _, _, _, _, _, _], _, _ => h10 ..
  | _ :: _ :: _ :: _ :: _ :: _ :: _ :: _ :: _ :: _ :: _ :: r, _, h => absurd h (by simp)
/-- the plain law, 1: who goes when -/
theorem rgone_due : ∀ dl : List Str, 5 ≤ dl.length → dl.length ≤ 10 → rgone dl.length (0, dl, []) = dueL dl :=
  list_cases (fun _ _ _ _ _ => by kernel_rfl) (fun _ _ _ _ _ _ => by kernel_rfl) (fun _ _ _ _ _ _ _ => by kernel_rfl) (fun _ _ _ _ _ _ _ _ => by kernel_rfl) (fun _ _ _ _ _ _ _ _ _ => by kernel_rfl) (fun _ _ _ _ _ _ _ _ _ _ => by kernel_rfl)

end
section
open PySem PySem.W PySem.W.X PyProof.Rows PySem.Calls
set_option maxRecDepth 100000
theorem due_unit {dl : List Str} (h : ∀ u ∈ dl, IsUnit u) (h5 : 5 ≤ dl.length) (h10 : dl.length ≤ 10) : ∀ u ∈ dueL dl, IsUnit u := fun u hu => by
  obtain ⟨j, hj, rfl⟩ := List.mem_map.mp hu
  have hix : (prtL dl.length).idxOf ((2 * dl.length - 1 - 2 * j : Nat) : Int) < dl.length := by
    have := List.idxOf_lt_length_iff.mpr (prtL_mem dl.length (by omega) j (List.mem_range.mp hj))
    rwa [prtL_len] at this
  unfold duev
  rw [List.getD_eq_getElem?_getD, List.getElem?_eq_getElem hix]
  exact h _ (List.getElem_mem hix)
theorem due_len {dl : List Str} : (dueL dl).length = dl.length := by simp [dueL]
section
set_option maxHeartbeats 8000000 in
theorem law_6 : Fill → ∀ {w : World} {g : Heap} {L fa DR PR QR UR : Addr} {cd : Value} {s : Shared} {m : Str → Option Value} {Q : Flow → Shared → Prop} {E : Value → Shared → Prop} {w0 w1 w2 w3 w4 w5 : Obj} {dd us : List (Str × Tok)} {n kp kq ku : Nat} {ps qs : List (Int × Tok)} (_ : LawCx w g)
    (_ : Fr g L s.heap m) (_ : News g L s.heap (LL L w0 w1 w2 w3 w4 w5 ++ ((UR, W.listOf (vals us) ku) :: (QR, W.listOf (ivals qs) kq) :: (PR, W.listOf (ivals ps) kp) :: (DR, W.listOf (vals dd) n) :: T0s)))
    (_ : w1.data = .cell (some (.ref DR))) (_ : w5.data = .cell (some (.ref UR))) (_ : us.map (·.1) = dueL (dd.map (·.1))) (_ : dd.length ≤ 10) (_ : 5 ≤ dd.length) (_ : ∀ p ∈ dd, IsUnit p.1)
    (_ : ∀ s', Went s s' → Fr g L s'.heap m → News g L s'.heap (LL L w0 w1 w2 w3 w4 w5 ++ ((UR, W.listOf (vals us) ku) :: (QR, W.listOf (ivals qs) kq) :: (PR, W.listOf (ivals ps) kp) :: (DR, W.listOf (vals dd) n) :: T0s)) →
      wpAny (model prg w) (lawA w L fa cd) (execs ((lawBody w.params).drop 7) (lawEnv w L fa cd)) Q E s'),
    wpAny (model prg w) (lawA w L fa cd) (execs ((lawBody w.params).drop 6) (lawEnv w L fa cd)) Q E s := by
  unfold Fill
  k_fill
  intro _ w g L fa DR PR QR UR cd s m Q E w0 w1 w2 w3 w4 w5 dd us n kp kq ku ps qs C F N d1 d5 hus hdl hdl5 hdu rest
  have hq1 := Held.mk "call ref"
  have hq2 := Held.mk "compareOp NotEq ref ref"
  have hq3 := HeldStop.mk 3
  obtain ⟨K', X', ⟨lo, me, mg, mb, T'⟩, hd48, hd41, hd95, hd102⟩ := C
  have hsc := (rfl : lawScope w.params = lawScope w.params)
  conv at hsc => rhs; whnf
  have hb0 := (rfl : (lawBody w.params).drop 6 = (lawBody w.params).drop 6)
  conv at hb0 => rhs; whnf
  have hb1 := (rfl : (lawBody w.params).drop 7 = (lawBody w.params).drop 7)
  conv at hb1 => rhs; whnf
  unfold lawA lawEnv at rest ⊢
  rw [hb0]
  rw [hsc] at rest ⊢
  rw [hb1] at rest
  clear hsc hb0 hb1
  simp only [LL, T0s, List.cons_append, List.nil_append] at N rest
  have hul : us.length = dd.length := by have := congrArg List.length hus; rw [due_len] at this; simpa using this
  have hdu1 : ∀ u ∈ dd.map (·.1), IsUnit u := fun u hu => by obtain ⟨p, hp, rfl⟩ := List.mem_map.mp hu; exact hdu p hp
  have huu : ∀ p ∈ us, IsUnit p.1 := fun p hp => due_unit hdu1 (by simpa using hdl5) (by simpa using hdl) _ (hus ▸ List.mem_map_of_mem hp)
  k_steps
  rename Fr _ _ _ _ => F4
  rename News _ _ _ _ => N4
  refine Hold.mk (rounds_spec' (dp := 302) (un := 7) (s := ⟨_, s.gens, s.drawn, _, s.os⟩) fill ⟨K', F4, X', N4, _, _, _, _, T'⟩ (by decide) (by decide) DR dd n (by k_mem) hdu (by omega) ?_)
  intro D ks n' s2 hks hD W2 F2 N2
  clear F4 N4
  k_steps
  rename Fr _ _ _ _ => F4
  rename News _ _ _ _ => N4
  have hkd : ks.map (·.1) = dueL (dd.map (·.1)) := by
    rw [hks, ← rgone_due (dd.map (·.1)) (by simpa using hdl5) (by simpa using hdl), List.length_map]
  have hku : ∀ p ∈ ks, IsUnit p.1 := fun p hp => due_unit hdu1 (by simpa using hdl5) (by simpa using hdl) _ (hkd ▸ List.mem_map_of_mem hp)
  refine Hold.mk (ne_strs (us := ks) (vs := us) N4 (by k_mem) (by k_mem) hku huu (by decide : 7 + 64 < cLine) ?_)
  rw [hkd, ← hus, decide_eq_true rfl]
  k_steps
  rename Fr _ _ _ _ => F9
  rename News _ _ _ _ => N9
  exact Hold.mk (rest _ (show Went s s2 from ⟨W2.os, W2.gens⟩) F9 (News.sub N9 (by lcg_sub)))
end

end
section
open PySem PySem.W PySem.W.X PyProof.Rows PySem.Calls
set_option maxRecDepth 100000
theorem oddP_mul {f : Nat} (hf : f % 2 = 1) : ∀ m, 0 < m → oddP (f * m) = f * oddP m := by
  intro m
  induction m using Nat.strongRecOn with
  | _ m ih =>
    intro hm
    rcases Nat.mod_two_eq_zero_or_one m with e | e
    · obtain ⟨k, rfl⟩ : ∃ k, m = 2 * k := ⟨m / 2, by omega⟩
      have h1 : f * (2 * k) = 2 * (f * k) := by rw [Nat.mul_left_comm]
      have hk : 0 < k := by omega
      have hfk : 0 < f * k := Nat.mul_pos (by omega) hk
      rw [h1, oddP_even (by omega) (by omega), oddP_even (n := 2 * k) (by omega) (by omega)]
      rw [show 2 * (f * k) / 2 = f * k by omega, show 2 * k / 2 = k by omega]
      exact ih k (by omega) hk
    · rw [oddP_odd e, oddP_odd]
      rw [Nat.mul_mod, hf, e]
theorem tab_off {g h : Heap} {L P X : Addr} {ln co : Nat} {q : Str} {tl : List (Addr × Obj)} {oX : Obj} (hT : Tab P ln co q tl) (N : News g L h tl) (hX : h.get? X = some oX) (hNC : NoCode oX) (hP : P ≠ X) : ∀ p ∈ tl, p.1 ≠ X := by
  rcases hT with rfl | ⟨c', oc, vs, t, rfl, hd, hv, _⟩
  · intro p hp
    rw [List.mem_singleton.mp hp]; exact hP
  · intro p hp
    rcases List.mem_cons.mp hp with rfl | hp
    · exact hP
    · rw [List.mem_singleton.mp hp]
      intro e
      have h1 := (N (c', oc) (.tail _ (.head _))).1
      rw [show c' = X from e, hX] at h1
      have h2 := Option.some.inj h1
      subst h2
      exact hNC vs q t hd hv
theorem noCode_ns {o : Obj} {m : Str → Option Value} (h : LCg.NsObj o m) : NoCode o := fun vs q t e _ => by
  obtain ⟨es, ep, hd, _⟩ := h
  rw [hd] at e; cases e
theorem noCode_lst {ys : List Value} : NoCode (LCg.lst ys) := fun vs q t e _ => by cases e
theorem dat_ints {news : List (Addr × Obj)} : ∀ us : List (Int × Tok), DatAll news (us.map fun p => Value.int p.1 p.2) ((us.map (·.1)).map Dat.int)
  | [] => .nil
  | _ :: r => .cons (.int _ _) (dat_ints r)
open Classical in
theorem ne_ints {prog : Program} {w : World} {A : Around} {E : Value → Shared → Prop} {s : Shared} {h₀ : Heap} {L : Addr} {news : List (Addr × Obj)} {Q : Value → Shared → Prop} {a b : Addr} {us vs : List (Int × Tok)}
    (N : News h₀ L s.heap news) (ha : (a, LCg.lst (us.map fun p => Value.int p.1 p.2)) ∈ news) (hb : (b, LCg.lst (vs.map fun p => Value.int p.1 p.2)) ∈ news) (e : us.map (·.1) = vs.map (·.1)) (hun : A.units + 64 < cLine)
    (h : Q (.bool false) s) : wpAny (model prog w) A (compareOp .NotEq (.ref a) (.ref b)) Q E s := by
  have ok : ∀ ns : List Int, ∀ d ∈ ns.map Dat.int, kqdOk 8 d = true := fun ns d hd => by obtain ⟨k, _, rfl⟩ := List.mem_map.mp hd; rfl
  refine kqd_ne (n₁ := []) (n₂ := []) N ha rfl rfl (dat_ints us) (fun _ h => nomatch h) hb rfl rfl (dat_ints vs) (fun _ h => nomatch h) (ok _) (ok _) hun ?_
  rw [e, decide_eq_true rfl]; exact h
def scl (f n j : Nat) : Int := ((f * oddP (2 * n - j) : Nat) : Int)
def JShorn (P0 : List (Addr × Obj)) (val : Nat → Int) : Nat → List Value → List (Addr × Obj) → Prop := fun i vs led =>
  ∃ (t1 t2 : List (Addr × Obj)) (ds : List (Int × Tok)), led = P0 ++ (t1 ++ t2) ∧ Tab 37 40 4 qI2 t1 ∧ Tab 44 55 4 qI3 t2 ∧ vs = ds.map (fun p : Int × Tok => Value.int p.1 p.2) ∧ ds.map (·.1) = (List.range i).map val
section
set_option maxHeartbeats 8000000 in
theorem law_7 : Fill → ∀ {w : World} {g : Heap} {L fa DR PR QR UR : Addr} {cd : Value} {s : Shared} {m : Str → Option Value} {Q : Flow → Shared → Prop} {E : Value → Shared → Prop} {w0 w1 w2 w3 w4 w5 : Obj} {dd us : List (Str × Tok)} {n kp kq ku f : Nat} {ps qs : List (Int × Tok)} {tf : Tok} (_ : LawCx w g)
    (_ : Fr g L s.heap m) (_ : News g L s.heap (LL L w0 w1 w2 w3 w4 w5 ++ ((UR, W.listOf (vals us) ku) :: (QR, W.listOf (ivals qs) kq) :: (PR, W.listOf (ivals ps) kp) :: (DR, W.listOf (vals dd) n) :: T0s))) (_ : @LT.lt Nat _ 98 L) (_ : @LT.lt Nat _ (L + 1 + 1 + 1 + 1 + 1 + 1) DR)
    (_ : @LT.lt Nat _ (L + 1 + 1 + 1 + 1 + 1 + 1) PR) (_ : @LT.lt Nat _ (L + 1 + 1 + 1 + 1 + 1 + 1) QR) (_ : @LT.lt Nat _ (L + 1 + 1 + 1 + 1 + 1 + 1) UR) (_ : m (Str.ofString "places") = some (.ref PR))
    (_ : w2.data = .cell (some (.int (f : Nat) tf))) (_ : w4.data = .cell (some (.ref QR))) (_ : ps.map (·.1) = (List.range dd.length).map (plc dd.length)) (_ : qs.map (·.1) = (List.range dd.length).map (prt dd.length)) (_ : dd.length ≤ 10) (_ : 5 ≤ dd.length) (_ : f % 2 = 1) (_ : f ≤ 8191)
    (_ : ∀ s' t1 t2, Tab 37 40 4 qI2 t1 → Tab 44 55 4 qI3 t2 → Went s s' → Fr g L s'.heap m → News g L s'.heap (LL L w0 w1 w2 w3 w4 w5 ++ ((UR, W.listOf (vals us) ku) :: (DR, W.listOf (vals dd) n) :: (91, tabObj #[]) :: (98, tabObj #[]) :: (t1 ++ t2))) →
      wpAny (model prg w) (lawA w L fa cd) (execs ((lawBody w.params).drop 8) (lawEnv w L fa cd)) Q E s'),
    wpAny (model prg w) (lawA w L fa cd) (execs ((lawBody w.params).drop 7) (lawEnv w L fa cd)) Q E s := by
  unfold Fill
  k_fill
  intro _ w g L fa DR PR QR UR cd s m Q E w0 w1 w2 w3 w4 w5 dd us n kp kq ku f ps qs tf C F N hL98 hDR hPR hQR hUR hmp d2 d4 hps hqs hdl hdl5 hf1 hf2 rest
  have hq1 := Held.mk "eval ListComp"
  have hq2 := Held.mk "call ref"
  have hq3 := Held.mk "compareOp NotEq ref ref"
  have hq4 := HeldStop.mk 2
  obtain ⟨K', X', ⟨lo, me, mg, mb, T'⟩, hd48, hd41, hd95, hd102⟩ := C
  have hsc := (rfl : lawScope w.params = lawScope w.params)
  conv at hsc => rhs; whnf
  have hb0 := (rfl : (lawBody w.params).drop 7 = (lawBody w.params).drop 7)
  conv at hb0 => rhs; whnf
  have hb1 := (rfl : (lawBody w.params).drop 8 = (lawBody w.params).drop 8)
  conv at hb1 => rhs; whnf
  unfold lawA lawEnv at rest ⊢
  rw [hb0]
  rw [hsc] at rest ⊢
  rw [hb1] at rest
  clear hsc hb0 hb1
  simp only [LL, T0s, List.cons_append, List.nil_append] at N rest
  have hpl : ps.length = dd.length := ivals_len hps
  have hql : qs.length = dd.length := ivals_len hqs
  rw [← up_same hmp] at F
  obtain ⟨P0, hP0⟩ : ∃ P0, P0 = [(L + 1 + 1 + 1 + 1 + 1 + 1, w5), (L + 1 + 1 + 1 + 1 + 1, w4), (L + 1 + 1 + 1 + 1, w3), (L + 1 + 1 + 1, w2), (L + 1 + 1, w1), (L + 1, w0), (UR, W.listOf (vals us) ku), (QR, W.listOf (ivals qs) kq), (PR, W.listOf (ivals ps) kp), (DR, W.listOf (vals dd) n), (91, tabObj #[]), (98, tabObj #[])] := ⟨_, rfl⟩
  have hne0 : ∀ p ∈ P0, p.1 ≠ 37 ∧ p.1 ≠ 44 := by
    rw [hP0]
    intro p hp
    simp only [List.mem_cons, List.not_mem_nil, or_false] at hp
    rcases hp with rfl | rfl | rfl | rfl | rfl | rfl | rfl | rfl | rfl | rfl | rfl | rfl
    all_goals (refine ⟨neN ?_, neN ?_⟩ <;> (dsimp only; omega))
  k_steps
  refine Hold.mk (comp_eval (g₀ := g) (L := L) (m := m) (n := dd.length) (P := fun i v => (ivals ps)[i]? = some v) (JShorn P0 (scl f dd.length)) rfl (by decide) rfl (by decide) rfl ?_ ?_ ?_)
  · k_steps
    rename Fr _ _ _ _ => F1
    rename News _ _ _ _ => N2
    rw [up_same hmp] at F1
    refine ⟨P0 ++ ([(37, tabObj #[])] ++ [(44, tabObj #[])]), ⟨_, _, [], rfl, .inl rfl, .inl rfl, rfl, rfl⟩, F1, ?_, Went.refl.go rfl rfl, by omega, rfl, .inl ⟨PR, ivals ps, rfl, by rw [size_ivals, hpl], fun i v h => h, fun i vs led hj => ⟨kp, ?_⟩⟩⟩
    · rw [hP0]
      simp only [List.cons_append, List.nil_append]
      exact News.sub N2 (by lcg_sub)
    · obtain ⟨_, _, _, rfl, _⟩ := hj
      rw [hP0]
      exact List.mem_append_left _ (by k_mem)
  · intro i v us2 led I oI C oC D m₂ s₃ E' hi hP hl hJ hC hx F3 N3 o3 hne W3
    obtain ⟨t, rfl⟩ := ivals_get hps hi hP
    obtain ⟨t1, t2, ds, rfl, hT1, hT2, rfl, hds⟩ := hJ
    clear F N rest
    have o3' := o3.mem
    have N3' := N3
    rw [hP0] at N3'
    simp only [List.cons_append, List.nil_append] at N3'
    unfold plc at hx
    clear N3
    k_steps
    rename Fr _ _ _ _ => F4
    rename News _ _ _ _ => N4
    obtain ⟨q1, hq1⟩ := hT1.mem
    obtain ⟨q2, hq2⟩ := hT2.mem
    have m1 : (37, q1) ∈ P0 ++ (t1 ++ t2) := List.mem_append_right _ (List.mem_append_left _ hq1)
    have m2 : (44, q2) ∈ P0 ++ (t1 ++ t2) := List.mem_append_right _ (List.mem_append_right _ hq2)
    have e37 := o3' _ m1
    have e44 := o3' _ m2
    have N4' : News g L s₃.heap ((I, oI) :: (C, oC) :: (D, LCg.lst (ds.map fun p => Value.int p.1 p.2)) :: (P0 ++ (t1 ++ t2))) := by rw [hP0]; exact N4
    have Nt : News g L s₃.heap (t1 ++ t2) := fun p hp => N4' p (.tail _ (.tail _ (.tail _ (List.mem_append_right _ hp))))
    have Np : News g L s₃.heap ((I, oI) :: (C, oC) :: (D, LCg.lst (ds.map fun p => Value.int p.1 p.2)) :: P0) := by
      rw [hP0]; exact News.sub N4 (by lcg_sub)
    have hpos : 0 < f * (2 * dd.length - i) := Nat.mul_pos (by omega) (by omega)
    have hbd : f * (2 * dd.length - i) ≤ 8191 * 20 := Nat.mul_le_mul hf2 (by omega)
    rw [← Int.natCast_mul]
    refine Hold.mk (shorn_spec' (dp := 302) (un := 7) (s := ⟨s₃.heap, s₃.gens, s₃.drawn, s₃.toks + 1, s₃.os⟩) (t1 := t1) (t2 := t2) (news := (I, oI) :: (C, oC) :: (D, LCg.lst (ds.map fun p => Value.int p.1 p.2)) :: P0) fill
      ⟨K', F4, X', News.both (News.left Nt) (News.both (News.right Nt) Np), _, _, _, _, T'⟩ hd41 hd48 hT1 hT2 ?_ (by decide) (by decide) (f * (2 * dd.length - i)) _ hpos (intBits_le_64 (by omega) (by omega)) ?_)
    · exact List.forall_mem_cons.mpr ⟨⟨Ne.symm e37.1, Ne.symm e44.1⟩, List.forall_mem_cons.mpr ⟨⟨Ne.symm e37.2.1, Ne.symm e44.2.1⟩, List.forall_mem_cons.mpr ⟨⟨Ne.symm e37.2.2, Ne.symm e44.2.2⟩, hne0⟩⟩⟩
    intro ty t1' t2' s4 hT1' hT2' W4 F7 N7
    clear F4 N4
    k_steps
    have Na : News g L s4.heap t1' := News.left N7
    have Nb : News g L s4.heap t2' := News.left (News.right N7)
    have Nc : News g L s4.heap ((I, oI) :: (C, oC) :: (D, LCg.lst (ds.map fun p => Value.int p.1 p.2)) :: P0) := News.right (News.right N7)
    have gI := (Nc (I, oI) (.head _)).1
    have gC := (Nc (C, oC) (.tail _ (.head _))).1
    have gD := (Nc (D, _) (.tail _ (.tail _ (.head _)))).1
    refine ⟨P0 ++ (t1' ++ t2'), ⟨t1', t2', ds ++ [(_, ty)], rfl, hT1', hT2', by rw [List.map_append]; rfl, jint_snoc hds ?_⟩, LCg.Off3.of fun p hp => ?_, F7, News.both (a := (I, oI) :: (C, oC) :: (D, LCg.lst (ds.map fun p : Int × Tok => Value.int p.1 p.2)) :: P0) Nc (News.both Na Nb), (show Went s₃ s4 from ⟨W4.os, W4.gens⟩)⟩
    · unfold scl; rw [oddP_mul hf1 _ (by omega)]
    · rcases List.mem_append.mp hp with hp | hp
      · exact o3' p (List.mem_append_left _ hp)
      · rcases List.mem_append.mp hp with hp | hp
        · exact ⟨tab_off hT1' Na gI hne.2.2.2 e37.1 p hp, tab_off hT1' Na gC (noCode_ns hC) e37.2.1 p hp, tab_off hT1' Na gD noCode_lst e37.2.2 p hp⟩
        · exact ⟨tab_off hT2' Nb gI hne.2.2.2 e44.1 p hp, tab_off hT2' Nb gC (noCode_ns hC) e44.2.1 p hp, tab_off hT2' Nb gD noCode_lst e44.2.2 p hp⟩
  · intro D s2 ys led F2 N2 o2 lt2 W2 hJ hl2
    clear lt2 o2
    obtain ⟨t1, t2, ds, rfl, hT1, hT2, rfl, hds⟩ := hJ
    clear F N
    rw [hP0] at N2
    simp only [List.cons_append, List.nil_append] at N2
    obtain ⟨N0, hN0⟩ : ∃ N0, N0 = (D, LCg.lst (ds.map fun p => Value.int p.1 p.2)) :: (P0 ++ (t1 ++ t2)) := ⟨_, rfl⟩
    k_steps
    refine Hold.mk (comp_eval (g₀ := g) (L := L) (m := m) (n := dd.length) (P := fun i v => (ivals qs)[i]? = some v) (JInt N0 (scl f dd.length)) rfl (by decide) rfl (by decide) rfl ?_ ?_ ?_)
    · k_steps
      rename Fr _ _ _ _ => F1
      rename News _ _ _ _ => N3
      refine ⟨N0, ⟨rfl, [], rfl, rfl⟩, F1, ?_, Went.refl.go rfl rfl, by omega, rfl, .inl ⟨QR, ivals qs, rfl, by rw [size_ivals, hql], fun i v h => h, fun i vs led hj => ⟨kq, ?_⟩⟩⟩
      · rw [hN0, hP0]; exact N3
      · rw [hj.1, hN0, hP0]; exact .tail _ (List.mem_append_left _ (by k_mem))
    · intro i v us2 led I oI C oC D2 m₂ s₃ E' hi hP hl hJ hC hx F3 N3 o3 hne W3
      obtain ⟨t, rfl⟩ := ivals_get hqs hi hP
      obtain ⟨hJ1, es, rfl, hes⟩ := hJ
      clear F2 N2 rest
      subst hJ1
      rw [hN0, hP0] at N3
      simp only [List.cons_append, List.nil_append] at N3
      unfold prt at hx
      k_steps
      rename Fr _ _ _ _ => F4
      rename News _ _ _ _ => N4
      exact ⟨led, ⟨rfl, es ++ [(_, _)], by rw [List.map_append]; rfl, jint_snoc hes (by unfold scl; rw [Int.natCast_mul])⟩, o3, F4, by rw [hN0, hP0]; exact N4, Went.refl.go rfl rfl⟩
    · intro D2 s3 ys led F3 N3 o3 lt3 W3 hJ hl3
      clear lt3 o3
      obtain ⟨hJ1, es, rfl, hes⟩ := hJ
      subst hJ1
      rw [hN0, hP0] at N3
      simp only [List.cons_append, List.nil_append] at N3
      clear F2 N2
      k_steps
      rename Fr _ _ _ _ => F4
      rename News _ _ _ _ => N4
      refine Hold.mk (ne_ints (us := ds) (vs := es) N4 (by k_mem) (by k_mem) (by rw [hds, hes]) (by decide : 7 + 64 < cLine) ?_)
      k_steps
      rename Fr _ _ _ _ => F9
      rename News _ _ _ _ => N9
      refine Hold.mk (rest _ t1 t2 hT1 hT2 ((show Went s s2 from ⟨W2.os, W2.gens⟩).trans (show Went s2 s3 from ⟨W3.os, W3.gens⟩)) F9 ?_)
      exact News.both (a := [(L + 1 + 1 + 1 + 1 + 1 + 1, w5), (L + 1 + 1 + 1 + 1 + 1, w4), (L + 1 + 1 + 1 + 1, w3), (L + 1 + 1 + 1, w2), (L + 1 + 1, w1), (L + 1, w0), (UR, W.listOf (vals us) ku), (DR, W.listOf (vals dd) n), (91, tabObj #[]), (98, tabObj #[])])
        (News.sub N9 (by lcg_sub)) (News.tl (News.tl (News.tl (News.tl (News.tl (News.tl (News.tl (News.tl (News.tl (News.tl (News.tl (News.tl (News.tl (News.tl N9))))))))))))))
end

end
section
open PySem PySem.W PySem.W.X PyProof.Rows PySem.Calls
set_option maxRecDepth 100000
def JGrown (P0 tt : List (Addr × Obj)) (us : List Str) : Nat → List Value → List (Addr × Obj) → Prop := fun i vs led =>
  ∃ R : List (Addr × Obj), led = P0 ++ R ∧ (∀ p ∈ tt, p ∈ R) ∧ (∀ p ∈ R, p.1 ≠ 91 ∧ p.1 ≠ 98) ∧ DatAll R vs ((List.range i).map (zdat us))
section
set_option maxHeartbeats 8000000 in
theorem law_8 : Fill → ∀ {w : World} {g : Heap} {L fa DR UR : Addr} {cd : Value} {s : Shared} {m : Str → Option Value} {Q : Flow → Shared → Prop} {E : Value → Shared → Prop} {w0 w1 w2 w3 w4 w5 : Obj} {dd us : List (Str × Tok)} {n ku : Nat} {tn : Tok} {tt : List (Addr × Obj)} (_ : LawCx w g)
    (_ : Fr g L s.heap m) (_ : News g L s.heap (LL L w0 w1 w2 w3 w4 w5 ++ ((UR, W.listOf (vals us) ku) :: (DR, W.listOf (vals dd) n) :: (91, tabObj #[]) :: (98, tabObj #[]) :: tt)))
    (_ : w3.data = .cell (some (.int (dd.length : Nat) tn))) (_ : w5.data = .cell (some (.ref UR))) (_ : us.length = dd.length) (_ : dd.length ≤ 10) (_ : ∀ p ∈ us, IsUnit p.1) (_ : ∀ p ∈ tt, p.1 ≠ 91 ∧ p.1 ≠ 98)
    (_ : ∀ s' GR gv kg R, Went s s' → Fr g L s'.heap (fun z => if z = Str.ofString "grown" then some (.ref GR) else m z) → News g L s'.heap (LL L w0 w1 w2 w3 w4 w5 ++ ((UR, W.listOf (vals us) ku) :: (DR, W.listOf (vals dd) n) :: (91, tabObj #[]) :: (98, tabObj #[]) :: (GR, W.listOf gv kg) :: R)) → (∀ p ∈ tt, p ∈ R) → (∀ p ∈ R, p.1 ≠ 91 ∧ p.1 ≠ 98) →
      DatAll R gv.toList ((List.range dd.length).map (zdat (us.reverse.map (·.1)))) → @LT.lt Nat _ (L + 1 + 1 + 1 + 1 + 1 + 1) GR →
      wpAny (model prg w) (lawA w L fa cd) (execs ((lawBody w.params).drop 9) (lawEnv w L fa cd)) Q E s'),
    wpAny (model prg w) (lawA w L fa cd) (execs ((lawBody w.params).drop 8) (lawEnv w L fa cd)) Q E s := by
  unfold Fill
  k_fill
  intro _ w g L fa DR UR cd s m Q E w0 w1 w2 w3 w4 w5 dd us n ku tn tt C F N d3 d5 hul hdl huu htt rest
  have hq1 := Held.mk "exec Assign cons ListComp"
  have hq2 := Held.mk "subscriptTail Name Slice ref ref"
  have hq3 := Held.mk "call builtin:str.join"
  have hq4 := HeldStop.mk 1
  obtain ⟨K', X', ⟨lo, me, mg, mb, T'⟩, hd48, hd41, hd95, hd102⟩ := C
  have hsc := (rfl : lawScope w.params = lawScope w.params)
  conv at hsc => rhs; whnf
  have hb0 := (rfl : (lawBody w.params).drop 8 = (lawBody w.params).drop 8)
  conv at hb0 => rhs; whnf
  have hb1 := (rfl : (lawBody w.params).drop 9 = (lawBody w.params).drop 9)
  conv at hb1 => rhs; whnf
  unfold lawA lawEnv at rest ⊢
  rw [hb0]
  rw [hsc] at rest ⊢
  rw [hb1] at rest
  clear hsc hb0 hb1
  simp only [LL, List.cons_append, List.nil_append] at N rest
  obtain ⟨P0, hP0⟩ : ∃ P0, P0 = [(L + 1 + 1 + 1 + 1 + 1 + 1, w5), (L + 1 + 1 + 1 + 1 + 1, w4), (L + 1 + 1 + 1 + 1, w3), (L + 1 + 1 + 1, w2), (L + 1 + 1, w1), (L + 1, w0), (UR, W.listOf (vals us) ku), (DR, W.listOf (vals dd) n), (91, tabObj #[]), (98, tabObj #[])] := ⟨_, rfl⟩
  k_steps
  refine Hold.mk (comp_assign (g₀ := g) (L := L) (m := m) (n := dd.length) (P := fun i v => ∃ t, v = .int (1 + (i : Int) * 1) t) (JGrown P0 tt (us.reverse.map (·.1))) rfl rfl rfl (by decide) rfl (by decide) rfl rfl rfl ?_ ?_ ?_)
  · k_steps
    rename IsRange _ _ _ _ _ _ _ _ => hR
    rename Fr _ _ _ _ => F1
    rename News _ _ _ _ => N2
    refine ⟨P0 ++ tt, ⟨tt, rfl, fun p hp => hp, htt, .nil⟩, F1, hP0 ▸ N2, Went.refl.go rfl rfl, by omega, rfl, .inr ⟨_, _, _, _, _, _, _, rfl, hR, ?_, ?_, fun i t hi => ⟨t, rfl⟩⟩⟩
    · exact small_one (by decide) (by decide) (by omega) (by omega)
    · rw [rangeSize_nat]
      omega
  · intro i v us2 led I oI C oC D m₂ s₃ E' hi hP hl hJ hC hx F3 N3 o3 hne W3
    obtain ⟨t, rfl⟩ := hP
    obtain ⟨R, rfl, hR, hRn, hD⟩ := hJ
    have o3' := o3.mem
    clear F N rest
    have N4 := N3
    rw [hP0] at N4
    simp only [List.cons_append, List.nil_append] at N4
    clear N3
    k_steps
    rename Fr _ _ _ _ => F5
    rename News _ _ _ _ => N5
    have e1 : ((dd.length : Int) - (1 + (i : Int) * 1)) = ((dd.length - (i + 1) : Nat) : Int) := by omega
    rw [e1]
    refine Hold.mk (slice_list (lo := some ((dd.length - (i + 1) : Nat) : Int)) (hi := none) F5 N5 (News.isList N5 (by k_mem)) (.int _ _) .none (fun h6 F6 N6 => ?_) (hsz := Nat.le_trans (show _ ≤ 4096 by rw [size_vals]; omega) (by decide)))
    have e2 : PySem.slicePick (vals us) (some ((dd.length - (i + 1) : Nat) : Int)) none none = vals (us.drop (dd.length - (i + 1))) := by
      rw [PySem.slicePick_from _ _ (by rw [size_vals]; omega)]
      simp [vals]
    dsimp only at N6
    rw [e2] at N6
    clear F5 N5
    k_steps
    rename Fr _ _ _ _ => F5
    rename News _ _ _ _ => N5
    have hyl : ((us.drop (dd.length - (i + 1))).map (·.1)).length ≤ 10 := by rw [List.length_map, List.length_drop]; omega
    have hy2 : ∀ u ∈ (us.drop (dd.length - (i + 1))).map (·.1), u.length ≤ 2 := fun u hu => by
      obtain ⟨p, hp, rfl⟩ := List.mem_map.mp hu; exact unit_len (huu p (List.mem_of_mem_drop hp))
    refine Hold.mk (join_list (ys := (us.drop (dd.length - (i + 1))).map (·.1)) ⟨_, (N5 _ (.head _)).1, rfl, _, rfl⟩ (strs_are _) ?_ ?_)
    · have h1 := flat_le _ hy2
      have h0 : (Str.ofString "").length = 0 := by decide +kernel
      rw [flat_sum, h0]
      omega
    intro t' k'
    have hjt : (Txt.join (Str.ofString "") ((us.drop (dd.length - (i + 1))).map (·.1))).length = (((us.reverse.map (·.1)).take (i + 1)).map Str.length).sum := by
      rw [← len_cps, join_cat, ← flat_sum]
      have e3 : ((us.reverse.map (·.1)).take (i + 1)) = ((us.drop (dd.length - (i + 1))).map (·.1)).reverse := by
        rw [← List.map_take, List.take_reverse, hul, List.map_reverse]
      rw [e3, List.map_reverse, List.sum_reverse]
    have hjl : (Txt.join (Str.ofString "") ((us.drop (dd.length - (i + 1))).map (·.1))).length ≤ 4096 := by
      rw [← len_cps, join_cat]
      have h1 := flat_le _ hy2
      omega
    generalize Txt.join (Str.ofString "") ((us.drop (dd.length - (i + 1))).map (·.1)) = jt at *
    k_steps
    rename Fr _ _ _ _ => F7
    rename News _ _ _ _ => N7
    rename_i Z hZ lZ
    show CEnd g L m s₃ I oI C oC D us2 (JGrown P0 tt (us.reverse.map (·.1))) i (.ref Z) _
    have e4 : (1 + (i : Int) * 1) = ((i + 1 : Nat) : Int) := by omega
    rw [e4, hjt] at N7
    obtain ⟨oZ, hoZ⟩ : ∃ oZ : Obj, oZ = { cls := .type "tuple", data := .seq #[Value.int 0 s₃.toks, Value.int ((i + 1 : Nat) : Int) t, Value.int ((((us.reverse.map (·.1)).take (i + 1)).map Str.length).sum : Nat) (k' + 1)] } := ⟨_, rfl⟩
    rw [← hoZ] at N7
    have hZin : DatIn ((Z, oZ) :: R) (.ref Z) (zdat (us.reverse.map (·.1)) i) := by
      rw [hoZ]
      exact .tuple (vs := [.int 0 s₃.toks, .int ((i + 1 : Nat) : Int) t, .int ((((us.reverse.map (·.1)).take (i + 1)).map Str.length).sum : Nat) (k' + 1)]) (n := 0) (.head _) (.cons (.int _ _) (.cons (.int _ _) (.cons (.int _ _) .nil)))
    refine ⟨P0 ++ ((Z, oZ) :: R), ⟨(Z, oZ) :: R, rfl, fun p hp => .tail _ (hR p hp), List.forall_mem_cons.mpr ⟨⟨neN (by dsimp only; omega), neN (by dsimp only; omega)⟩, hRn⟩, ?_⟩, LCg.Off3.of fun p hp => ?_, F7, ?_, Went.refl.go rfl rfl⟩
    · rw [List.range_succ, List.map_append]
      exact (hD.mono fun p hp => .tail _ hp).append (.one hZin)
    · rcases List.mem_append.mp hp with hp | hp
      · exact o3' p (List.mem_append_left _ hp)
      · rcases List.mem_cons.mp hp with rfl | hp
        · refine ⟨neN ?_, neN ?_, neN ?_⟩ <;> (dsimp only; omega)
        · exact o3' p (List.mem_append_right _ hp)
    · rw [hP0]
      exact News.both (a := [(I, oI), (C, oC), (D, LCg.lst us2), (L + 1 + 1 + 1 + 1 + 1 + 1, w5), (L + 1 + 1 + 1 + 1 + 1, w4), (L + 1 + 1 + 1 + 1, w3), (L + 1 + 1 + 1, w2), (L + 1 + 1, w1), (L + 1, w0), (UR, W.listOf (vals us) ku), (DR, W.listOf (vals dd) n), (91, tabObj #[]), (98, tabObj #[])])
        (News.sub N7 (by lcg_sub)) (News.put N7 (.head _) (News.tl (News.tl (News.tl (News.tl (News.tl (News.tl (News.tl (News.tl (News.tl (News.tl (News.tl (News.tl (News.tl (News.tl (News.tl N7))))))))))))))))
  · intro D s2 ys led F2 N2 o2 lt2 W2 hJ hl2
    obtain ⟨led0, ⟨R0, e0, _⟩, lt0⟩ := lt2
    have hlt : @LT.lt Nat _ (L + 1 + 1 + 1 + 1 + 1 + 1) D := lt0 (L + 1 + 1 + 1 + 1 + 1 + 1, w5) (by rw [e0, hP0]; exact .head _)
    clear lt0 o2
    obtain ⟨R, rfl, hR, hRn, hD⟩ := hJ
    clear F N
    rw [hP0] at N2
    simp only [List.cons_append, List.nil_append] at N2
    k_steps
    refine Hold.mk (rest _ D ys.toArray ys.length R W2 F2 ?_ hR hRn hD hlt)
    exact News.both (a := [(L + 1 + 1 + 1 + 1 + 1 + 1, w5), (L + 1 + 1 + 1 + 1 + 1, w4), (L + 1 + 1 + 1 + 1, w3), (L + 1 + 1 + 1, w2), (L + 1 + 1, w1), (L + 1, w0), (UR, W.listOf (vals us) ku), (DR, W.listOf (vals dd) n), (91, tabObj #[]), (98, tabObj #[])])
      (News.sub N2 (by lcg_sub)) (News.put N2 (.head _) (News.tl (News.tl (News.tl (News.tl (News.tl (News.tl (News.tl (News.tl (News.tl (News.tl (News.tl N2))))))))))))
end

end
section
open PySem PySem.W PySem.W.X PyProof.Rows PySem.Calls
set_option maxRecDepth 100000
theorem bring_due : ∀ dl : List Str, 5 ≤ dl.length → dl.length ≤ 10 → bring (dueL dl).reverse = dl.map fun u => (uPre u, uSuf u) :=
  list_cases (fun _ _ _ _ _ => by kernel_rfl) (fun _ _ _ _ _ _ => by kernel_rfl) (fun _ _ _ _ _ _ _ => by kernel_rfl) (fun _ _ _ _ _ _ _ _ => by kernel_rfl) (fun _ _ _ _ _ _ _ _ _ => by kernel_rfl) (fun _ _ _ _ _ _ _ _ _ _ => by kernel_rfl)
theorem txText_unit {u : Str} (h : IsUnit u) : txText (uPre u, uSuf u) = u := by
  obtain ⟨c, _, rfl | ⟨rfl, _⟩⟩ := h
  · unfold txText; dsimp only; rw [unit_pre.1, unit_pre.2.1]; rfl
  · unfold txText; dsimp only; rw [(unit_pre (c := c)).2.2.1, (unit_pre (c := c)).2.2.2]; rfl
/-- the plain law, 2: all goes back -/
theorem back_due {dl : List Str} (h : ∀ u ∈ dl, IsUnit u) (h5 : 5 ≤ dl.length) (h10 : dl.length ≤ 10) : (bring (dueL dl).reverse).map txText = dl := by
  rw [bring_due dl h5 h10, List.map_map]
  exact (List.map_congr_left fun u hu => txText_unit (h u hu)).trans (List.map_id _)
theorem strOk_join {l : List Str} (h : ∀ u ∈ l, PyData.strOk u = true) : PyData.strOk (Txt.join (Str.ofString "") l) = true := by
  show (Txt.join (Str.ofString "") l).cps.all (fun x => decide (x < 0x110000)) = true
  rw [← Array.all_toList, join_cat]
  induction l with
  | nil => rfl
  | cons u r ih =>
    rw [flat_cons, List.all_append, ih fun v hv => h v (.tail _ hv), Bool.and_true]
    have := h u (.head _)
    rw [Array.all_toList]; exact this
theorem tab_grown {g h : Heap} {L P : Addr} {ln co : Nat} {q : Str} {tl : List (Addr × Obj)} (hT : Tab P ln co q tl) (N : News g L h tl) : GrownAt P h := by
  rcases hT with rfl | ⟨c', oc, vs, t, rfl, _⟩
  · exact .of N (.head _)
  · exact .of N (.head _)
theorem gtab_grown {g h : Heap} {L P : Addr} {o : Obj} {news : List (Addr × Obj)} (hT : GTab P o) (N : News g L h news) (hm : (P, o) ∈ news) : GrownAt P h := by
  obtain ⟨ps, rfl, _⟩ := hT
  exact .of N hm
section
set_option maxHeartbeats 8000000 in
theorem law_9 : Fill → ∀ {w : World} {g : Heap} {L fa DR UR GR : Addr} {cd : Value} {s : Shared} {m : Str → Option Value} {Q : Flow → Shared → Prop} {E : Value → Shared → Prop} {w0 w1 w2 w3 w4 w5 : Obj} {dd us : List (Str × Tok)} {n ku kg : Nat} {gv : Array Value} {R t1 t2 : List (Addr × Obj)} (_ : LawCx w g)
    (_ : Fr g L s.heap m) (_ : News g L s.heap (LL L w0 w1 w2 w3 w4 w5 ++ ((UR, W.listOf (vals us) ku) :: (DR, W.listOf (vals dd) n) :: (91, tabObj #[]) :: (98, tabObj #[]) :: (GR, W.listOf gv kg) :: R))) (_ : @LT.lt Nat _ 98 L) (_ : @LT.lt Nat _ (L + 1 + 1 + 1 + 1 + 1 + 1) DR)
    (_ : w1.data = .cell (some (.ref DR))) (_ : w5.data = .cell (some (.ref UR))) (_ : m (Str.ofString "grown") = some (.ref GR)) (_ : us.map (·.1) = dueL (dd.map (·.1))) (_ : dd.length ≤ 10) (_ : 5 ≤ dd.length) (_ : ∀ p ∈ dd, IsUnit p.1) (_ : ∀ p ∈ us, IsUnit p.1)
    (_ : @LT.lt Nat _ (L + 1 + 1 + 1 + 1 + 1 + 1) GR) (_ : @LT.lt Nat _ (L + 1 + 1 + 1 + 1 + 1 + 1) UR) (_ : ∀ p ∈ t1 ++ t2, p ∈ R) (_ : ∀ p ∈ R, p.1 ≠ 91 ∧ p.1 ≠ 98) (_ : Tab 37 40 4 qI2 t1) (_ : Tab 44 55 4 qI3 t2)
    (_ : DatAll R gv.toList ((List.range dd.length).map (zdat (us.reverse.map (·.1)))))
    (_ : ∀ s' m', Went s s' → Fr g L s'.heap m' → GrownAt 44 s'.heap → GrownAt 37 s'.heap → GrownAt 91 s'.heap → GrownAt 98 s'.heap → Q (.ret (.bool true)) s'),
    wpAny (model prg w) (lawA w L fa cd) (execs ((lawBody w.params).drop 9) (lawEnv w L fa cd)) Q E s := by
  unfold Fill
  k_fill
  intro _ w g L fa DR UR GR cd s m Q E w0 w1 w2 w3 w4 w5 dd us n ku kg gv R t1 t2 C F N hL98 hDR d1 d5 hmg hus hdl hdl5 hdu huu hGR hUR hRt hRn hT1 hT2 hD rest
  have hq1 := Held.mk "call ref"
  have hq2 := Held.mk "call builtin:str.join"
  have hq3 := Held.mk "compareOp Eq ref ref"
  obtain ⟨K', X', ⟨lo, me, mg, mb, T'⟩, hd48, hd41, hd95, hd102⟩ := C
  have hsc := (rfl : lawScope w.params = lawScope w.params)
  conv at hsc => rhs; whnf
  have hb0 := (rfl : (lawBody w.params).drop 9 = (lawBody w.params).drop 9)
  conv at hb0 => rhs; whnf
  unfold lawA lawEnv
  rw [hb0]
  rw [hsc]
  clear hsc hb0
  simp only [LL, List.cons_append, List.nil_append] at N
  have hul : us.length = dd.length := by have := congrArg List.length hus; rw [due_len] at this; simpa using this
  have hdu1 : ∀ u ∈ dd.map (·.1), IsUnit u := fun u hu => by obtain ⟨p, hp, rfl⟩ := List.mem_map.mp hu; exact hdu p hp
  rw [← up_same hmg] at F
  k_steps
  rename Fr _ _ _ _ => F4
  rename News _ _ _ _ => N4
  refine Hold.mk (back_spec' (dp := 302) (un := 7) (s := ⟨_, s.gens, s.drawn, _, s.os⟩) fill UR us ku (tabObj #[]) (tabObj #[])
    (news := [(L + 1 + 1 + 1 + 1 + 1 + 1, w5), (L + 1 + 1 + 1 + 1 + 1, w4), (L + 1 + 1 + 1 + 1, w3), (L + 1 + 1 + 1, w2), (L + 1 + 1, w1), (L + 1, w0), (UR, W.listOf (vals us) ku), (DR, W.listOf (vals dd) n)] ++ ((GR, W.listOf gv kg) :: R))
    ⟨K', F4, X', ?_, _, _, _, _, T'⟩ hd95 ⟨#[], rfl, trivial⟩ hd102 ⟨#[], rfl, trivial⟩ (List.mem_append_left _ (by k_mem)) ?_ (by decide) (by decide) (by omega) huu ?_)
  · exact News.put N4 (by k_mem) (News.put N4 (by k_mem) (News.both (News.sub N4 (by lcg_sub)) (News.tl (News.tl (News.tl (News.tl (News.tl (News.tl (News.tl (News.tl (News.tl (News.tl N4))))))))))))
  · intro p hp
    rcases List.mem_append.mp hp with hp | hp
    · simp only [List.mem_cons, List.not_mem_nil, or_false] at hp
      rcases hp with rfl | rfl | rfl | rfl | rfl | rfl | rfl | rfl
      all_goals (refine ⟨neN ?_, neN ?_⟩ <;> (dsimp only; omega))
    · rcases List.mem_cons.mp hp with rfl | hp
      · refine ⟨neN ?_, neN ?_⟩ <;> (dsimp only; omega)
      · exact hRn p hp
  intro D o91 o98 led' s2 hG1 hG2 hsub hne hDin W2 F2 N2
  clear F4 N4
  have g0 : (DR, W.listOf (vals dd) n) ∈ led' := hsub _ (List.mem_append_left _ (by k_mem))
  have g1 : (L + 1 + 1, w1) ∈ led' := hsub _ (List.mem_append_left _ (by k_mem))
  have g2 : (GR, W.listOf gv kg) ∈ led' := hsub _ (List.mem_append_right _ (.head _))
  have N3 : News g L s2.heap ((DR, W.listOf (vals dd) n) :: (L + 1 + 1, w1) :: (GR, W.listOf gv kg) :: (91, o91) :: (98, o98) :: led') :=
    News.put N2 (.tail _ (.tail _ g0)) (News.put N2 (.tail _ (.tail _ g1)) (News.put N2 (.tail _ (.tail _ g2)) N2))
  clear N2
  k_steps
  rename Fr _ _ _ _ => F5
  rename News _ _ _ _ => N5
  have hdl2 : ∀ u ∈ dd.map (·.1), u.length ≤ 2 := fun u hu => unit_len (hdu1 u hu)
  refine Hold.mk (join_list (ys := dd.map (·.1)) ⟨_, (N5 _ (.head _)).1, rfl, _, rfl⟩ (strs_are dd) ?_ ?_)
  · have h1 := flat_le _ hdl2
    have h0 : (Str.ofString "").length = 0 := by decide +kernel
    rw [List.length_map] at h1
    rw [flat_sum, h0]
    omega
  intro t' k'
  k_steps
  rename Fr _ _ _ _ => F6
  rename News _ _ _ _ => N6
  rename_i T2 h2 l2
  have hrev : us.reverse.map (·.1) = (dueL (dd.map (·.1))).reverse := by rw [List.map_reverse, hus]
  have hlen : (us.reverse.map (·.1)).length = dd.length := by rw [List.length_map, List.length_reverse, hul]
  have hbk : (bring (us.reverse.map (·.1))).map txText = dd.map (·.1) := by
    rw [hrev]; exact back_due hdu1 (by simpa using hdl5) (by simpa using hdl)
  have hst : PyData.strOk (Txt.join (Str.ofString "") (dd.map (·.1))) = true := strOk_join fun u hu => unit_ok (hdu1 u hu)
  have hbd : backDat (us.reverse.map (·.1)) = .tuple [.list ((List.range dd.length).map (zdat (us.reverse.map (·.1)))), .str (Txt.join (Str.ofString "") (dd.map (·.1)))] := by
    unfold backDat; rw [hlen, hbk]
  have hok : kqdOk 9 (.tuple [.list ((List.range dd.length).map (zdat (us.reverse.map (·.1)))), .str (Txt.join (Str.ofString "") (dd.map (·.1)))]) = true := by
    simp only [kqdOk, List.all_cons, List.all_nil, hst, Bool.and_true, List.all_eq_true]
    intro d hd
    obtain ⟨j, _, rfl⟩ := List.mem_map.mp hd
    rfl
  rw [hbd] at hDin
  refine Hold.mk (dat_eqB true ⟨fun _ => rfl, fun _ => rfl⟩ N6 (hDin.mono fun p hp => .tail _ (.tail _ (.tail _ (.tail _ (.tail _ (.tail _ hp))))))
    (.tuple (vs := [.ref GR, .str _ t']) (n := 0) (.head _) (.cons (.list (vs := gv.toList) (n := kg) (by rw [Array.toArray_toList]; k_mem) (hD.mono fun p hp => .tail _ (.tail _ (.tail _ (.tail _ (.tail _ (.tail _ (hsub p (List.mem_append_right _ (.tail _ hp))))))))) ) (.cons (.str _ _) .nil))) hok hok (by decide : 7 + 64 < cLine) ?_)
  k_steps
  have Nr : News g L h2 R := fun p hp => N6 p (.tail _ (.tail _ (.tail _ (.tail _ (.tail _ (.tail _ (hsub p (List.mem_append_right _ (.tail _ hp)))))))))
  exact rest _ _ ((show Went s s2 from ⟨W2.os, W2.gens⟩).go rfl rfl) F6 (tab_grown hT2 fun p hp => Nr p (hRt p (List.mem_append_right _ hp))) (tab_grown hT1 fun p hp => Nr p (hRt p (List.mem_append_left _ hp)))
    (gtab_grown hG1 N6 (.tail _ (.tail _ (.tail _ (.tail _ (.head _)))))) (gtab_grown hG2 N6 (.tail _ (.tail _ (.tail _ (.tail _ (.tail _ (.head _)))))))
end

end
section
open PySem PySem.W PySem.W.X PyProof.Rows PySem.Calls
set_option maxRecDepth 100000
set_option maxHeartbeats 8000000 in
theorem law_all {w : World} {g : Heap} {L fa S : Addr} {cd : Value} {s : Shared} {m : Str → Option Value} {Q : Flow → Shared → Prop} {E : Value → Shared → Prop} {w0 w1 w2 w3 w4 w5 : Obj} {vs : List Value} {ns : List Int} (C : LawCx w g)
    (F : Fr g L s.heap m) (N : News g L s.heap (LL L w0 w1 w2 w3 w4 w5 ++ T0s)) (hS : g.IsList S vs.toArray) (hI : IntsAre vs ns) (hlen : ns.length ≤ 63) (hLay : PyData.layable0 (.list (ns.map .int)) = true) (hL98 : @LT.lt Nat _ 98 L)
    (d5 : w5.data = .cell none) (d4 : w4.data = .cell none) (d3 : w3.data = .cell none) (d2 : w2.data = .cell none) (d1 : w1.data = .cell none) (d0 : w0.data = .cell (some (.ref S)))
    (rest : ∀ s' m', Went s s' → Fr g L s'.heap m' → GrownAt 44 s'.heap → GrownAt 37 s'.heap → GrownAt 91 s'.heap → GrownAt 98 s'.heap → Q (.ret (.bool true)) s') :
    wpAny (model prg w) (lawA w L fa cd) (execs (lawBody w.params) (lawEnv w L fa cd)) Q E s := by
  refine law_1 fill C F N hS hI hlen hLay hL98 d5 d4 d3 d2 d1 d0 fun s1 w1' DR n dd W1 F1 N1 d1' hdu hddl hDR => ?_
  have h10 : dd.length ≤ 10 := by omega
  have h5 : 5 ≤ dd.length := by omega
  refine law_2 fill C F1 N1 hS hI hlen hLay hL98 hDR d5 d4 d3 d2 d1' d0 h10 fun s2 w2' w3' f tf tn W2 F2 N2 d2' d3' hf1 hf2 => ?_
  refine law_3 fill C F2 N2 hL98 hDR d3' h10 fun s3 PR ps kp W3 F3 N3 hps oPR => ?_
  refine law_4 fill C F3 N3 hL98 hDR oPR (if_pos rfl) hps d4 h10 h5 fun s4 w4' QR qs kq W4 F4 N4 d4' hqs oQR => ?_
  refine law_5 fill C F4 N4 hL98 hDR oPR oQR d1' d3' d4' d5 (hqs.trans (prt_eq h10)) h10 h5 fun s5 w5' UR us ku W5 F5 N5 d5' hus oUR => ?_
  refine law_6 fill C F5 N5 d1' d5' hus h10 h5 hdu fun s6 W6 F6 N6 => ?_
  refine law_7 fill C F6 N6 hL98 hDR oPR oQR oUR (if_pos rfl) d2' d4' hps hqs h10 h5 hf1 hf2 fun s7 t1 t2 hT1 hT2 W7 F7 N7 => ?_
  have hul : us.length = dd.length := by have := congrArg List.length hus; rw [due_len] at this; simpa using this
  have hdu1 : ∀ u ∈ dd.map (·.1), IsUnit u := fun u hu => by obtain ⟨p, hp, rfl⟩ := List.mem_map.mp hu; exact hdu p hp
  have huu : ∀ p ∈ us, IsUnit p.1 := fun p hp => due_unit hdu1 (by simpa using h5) (by simpa using h10) _ (hus ▸ List.mem_map_of_mem hp)
  have htt : ∀ p ∈ t1 ++ t2, p.1 ≠ 91 ∧ p.1 ≠ 98 := fun p hp => (List.mem_append.mp hp).elim (fun h => ⟨hT1.ne (by decide) (by decide) p h, hT1.ne (by decide) (by decide) p h⟩) fun h => ⟨hT2.ne (by decide) (by decide) p h, hT2.ne (by decide) (by decide) p h⟩
  refine law_8 fill C F7 N7 d3' d5' hul h10 huu htt fun s8 GR gv kg R W8 F8 N8 hRt hRn hD oGR => ?_
  refine law_9 fill C F8 N8 hL98 hDR d1' d5' (if_pos rfl) hus h10 h5 hdu huu oGR oUR hRt hRn hT1 hT2 hD fun s9 m' W9 F9 g44 g37 g91 g98 => ?_
  exact rest s9 m' (W1.trans (W2.trans (W3.trans (W4.trans (W5.trans (W6.trans (W7.trans (W8.trans W9)))))))) F9 g44 g37 g91 g98

end
section
open PySem PySem.W PySem.W.X PyProof.Rows PySem.Calls
set_option maxRecDepth 100000
set_option maxHeartbeats 8000000 in
theorem law_holds : PySem.Challenge.rw_ul0002_01.Holds := hd (by
  k_fill
  intro w s₀ s₁ mg mb G Y fa o pm cd doc dV kV ho hdd hcd hD hmg hg args vals as hpre hlay hrd hwl hlo
  have KX := km_in_of Y
  have hT8 := km_tabs_of Y
  have X := (Ground.X G).1
  have V := (Ground.X G).2
  refine Ground.open G ?_
  intro T B D TE TW
  try (refine guard_noD D (by decide +kernel) ?_; clear D)
  have hT9 : TabsAt [(48, 44), (41, 37), (95, 91), (102, 98)] s₁.heap :=
    List.forall_mem_cons.mpr ⟨⟨codeHd_of_K (c := 48) (P := 44) KX (by kernel_rfl), hT8 44 (by k_mem)⟩, List.forall_mem_cons.mpr ⟨⟨codeHd_of_K (c := 41) (P := 37) KX (by kernel_rfl), hT8 37 (by k_mem)⟩,
      List.forall_mem_cons.mpr ⟨⟨codeHd_of_K (c := 95) (P := 91) KX (by kernel_rfl), hT8 91 (by k_mem)⟩, List.forall_mem_cons.mpr ⟨⟨codeHd_of_K (c := 102) (P := 98) KX (by kernel_rfl), hT8 98 (by k_mem)⟩, fun _ h => nomatch h⟩⟩⟩⟩
  clear hmg
  wrow_args hpre hlay hrd hwl hlo
  all_goals (
    first | refine callC_kw (enter_call ?_) | refine enter_call ?_
    w_top on
    refine good_post hT9 (fun _ _ => rfl) ?_
    w_call any ho hdd hcd hD T F
    clear hdd
    kn_ghosts F T
    k_drop
    skip)
  with_reducible rename List Int => ns
  with_reducible rename IntsAre _ _ => hI
  with_reducible rename List Value => vs
  with_reducible rename Heap => h1
  with_reducible rename Heap.IsList _ _ _ => hL'
  with_reducible rename ¬ (_ : Int) < _ => hcond
  with_reducible rename Frag.In _ _ => X'
  with_reducible rename Top _ _ _ _ _ _ => T'
  with_reducible rename Below _ _ _ _ => K'
  with_reducible rename Fr _ _ _ _ => F'
  with_reducible rename News _ _ _ _ => N'
  with_reducible rename CodeHd _ (48, 44).fst _ => hd48
  with_reducible rename CodeHd _ (41, 37).fst _ => hd41
  with_reducible rename CodeHd _ (95, 91).fst _ => hd95
  with_reducible rename CodeHd _ (102, 98).fst _ => hd102
  with_reducible rename PyData.layable0 _ = true => hLay
  with_reducible rename _ ∧ _ => hlt
  have hlen : ns.length ≤ 63 := by omega
  refine law_all ⟨K', X', ⟨_, _, _, _, T'⟩, hd48, hd41, hd95, hd102⟩ F' N' hL' hI hlen hLay (by omega) (by assumption) (by assumption) (by assumption) (by assumption) (by assumption) (by assumption) ?_
  intro s' m' W F g44 g37 g91 g98
  refine ⟨goodW_bool F rfl (raisesW_false ?_) ?_ W.os, ?_, g44, g37, g91, g98, trivial⟩
  · wrow_none_raised
  · wrow_post
  · obtain ⟨ys, e, hb⟩ := W.gens
    rw [e]
    dsimp only
    rw [hg, Array.empty_append]
    exact hb)

end
end Mine
theorem PySem.Challenge.cw_ul0002_01_holds : PySem.Challenge.rw_ul0002_01.Holds := by
  exact Mine.law_holds
