import PyProof.Rows.All
import Wide.All
import OpenK.AllK
import Wide.FinOn
import PySem.Challenge.RW_gl0007_01
set_option Elab.async false
set_option linter.unusedVariables false
section
open PySem PySem.W PyProof.Rows
namespace Mine
set_option maxRecDepth 100000 in
set_option maxHeartbeats 8000000 in
open_top hd for PySem.Challenge.rw_gl0007_01
end Mine
end
open PySem PySem.W PySem.W.X PyProof.Rows PySem.Spec PySem.Calls
namespace Mine
local macro_rules | `(tactic| k_room) => `(tactic| ((try simp only [depth_under_make, depth_under_kw, depth_in1, depth_deeper, depth_caller]); (try dsimp only [ktrTop]); (simp only [recursionLimit]); omega))
local macro_rules | `(tactic| kn_code) => `(tactic| first | exact codeHd_of_K (c := 55) (P := 51) (by k_asm) (by kernel_rfl) | exact codeHd_of_K (c := 62) (P := 58) (by k_asm) (by kernel_rfl))
local macro_rules | `(tactic| k_all) => `(tactic| k_extra "all")
local macro_rules | `(tactic| walk_at $s:str) => `(tactic| k_extra $s)
section
/-- how deep a row of signs stands; none where it closes what nothing opened -/
def run : Int → List Int → Option Int
  | d, [] => some d
  | d, c :: r => if d + (if c = 40 then 1 else if c = 41 then -1 else 0) < 0 then none else run (d + (if c = 40 then 1 else if c = 41 then -1 else 0)) r
def closesL (l : List Int) : Bool := run 0 l == some 0
def closes (x : PySem.Str) : Bool := closesL (KStt.codes x)
theorem run_append (a b : List Int) : ∀ d, run d (a ++ b) = (run d a).bind fun e => run e b := by
  induction a with
  | nil => intro d; rfl
  | cons c r ih =>
    intro d
    simp only [List.cons_append, run]
    generalize d + (if c = 40 then 1 else if c = 41 then -1 else 0) = e
    by_cases h : e < 0
    · rw [if_pos h, if_pos h]; rfl
    · rw [if_neg h, if_neg h]; exact ih e
structure Deep (pre : List Int) (d : Int) : Prop where
  is : run 0 pre = some d
  lo : 0 ≤ d
  hi : d ≤ pre.length
theorem Deep.nil : Deep [] 0 := ⟨rfl, by decide, by decide⟩
theorem cps_inj {n k : Nat} : (({ cps := #[n] } : PySem.Str) == { cps := #[k] }) = decide (n = k) := by
  by_cases h : n = k
  · subst h; simp
  · rw [decide_eq_false h]
    refine beq_false_of_ne fun e => h ?_
    have e' : (#[n] : Array Nat) = #[k] := congrArg PySem.Str.cps e
    simpa using e'
theorem lit_open : PySem.Str.ofString "(" = { cps := #[40] } := by decide +kernel
theorem lit_close : PySem.Str.ofString ")" = { cps := #[41] } := by decide +kernel
theorem sign_open {n : Nat} {b : Bool} (h : (({ cps := #[n] } : PySem.Str) == PySem.Str.ofString "(") = b) : decide (n = 40) = b := by
  rw [lit_open, cps_inj] at h; exact h
theorem sign_close {n : Nat} {b : Bool} (h : (({ cps := #[n] } : PySem.Str) == PySem.Str.ofString ")") = b) : decide (n = 41) = b := by
  rw [lit_close, cps_inj] at h; exact h
theorem Deep.step {pre : List Int} {d e : Int} {n : Nat} (D : Deep pre d) (he : e = d + (if (n : Int) = 40 then 1 else if (n : Int) = 41 then -1 else 0)) (h : 0 ≤ e) : Deep (pre ++ [(n : Int)]) e := by
  obtain ⟨a, b, c⟩ := D
  subst he
  refine ⟨?_, h, ?_⟩
  · rw [run_append, a]
    simp only [Option.bind_some, run]
    rw [if_neg (by omega)]
  · rw [List.length_append]
    simp only [List.length_cons, List.length_nil]
    split <;> (try split) <;> omega
theorem Deep.dead {pre post : List Int} {d : Int} {n : Nat} (D : Deep pre d) (h : d + (if (n : Int) = 40 then 1 else if (n : Int) = 41 then -1 else 0) < 0) : closesL (pre ++ (n : Int) :: post) = false := by
  unfold closesL
  rw [run_append, D.is]
  simp only [Option.bind_some, run]
  rw [if_pos h]; rfl
theorem Deep.open {pre : List Int} {d : Int} {n : Nat} (D : Deep pre d) (h : (({ cps := #[n] } : PySem.Str) == PySem.Str.ofString "(") = true) : Deep (pre ++ [(n : Int)]) (d + 1) := by
  have h := of_decide_eq_true (sign_open h)
  subst h
  exact D.step rfl (by have := D.lo; omega)
theorem Deep.other {pre : List Int} {d : Int} {n : Nat} (D : Deep pre d) (h : (({ cps := #[n] } : PySem.Str) == PySem.Str.ofString "(") = false)
    (g : ¬ d + (0 - if (({ cps := #[n] } : PySem.Str) == PySem.Str.ofString ")") = true then 1 else 0) < 0) :
    Deep (pre ++ [(n : Int)]) (d + (0 - if (({ cps := #[n] } : PySem.Str) == PySem.Str.ofString ")") = true then 1 else 0)) := by
  have h := of_decide_eq_false (sign_open h)
  refine D.step ?_ (by omega)
  rw [lit_close, cps_inj]
  by_cases q : n = 41
  · subst q; simp
  · have : ¬ (n : Int) = 41 := by omega
    have : ¬ (n : Int) = 40 := by omega
    simp [*]
theorem Deep.shut {x : PySem.Str} {pre post : List Int} {d : Int} {n : Nat} (D : Deep pre d) (e : KStt.codes x = pre ++ (n : Int) :: post) (h : (({ cps := #[n] } : PySem.Str) == PySem.Str.ofString "(") = false)
    (g : d + (0 - if (({ cps := #[n] } : PySem.Str) == PySem.Str.ofString ")") = true then 1 else 0) < 0) : closes x = false := by
  have h := of_decide_eq_false (sign_open h)
  unfold closes
  rw [e]
  refine D.dead ?_
  rw [lit_close, cps_inj] at g
  by_cases q : n = 41
  · subst q; simpa using g
  · have := D.lo
    simp [q] at g; omega
theorem Deep.shutting {pre : List Int} {d : Int} {n : Nat} (D : Deep pre d) (h9 : (({ cps := #[n] } : PySem.Str) == PySem.Str.ofString "(") = false) (g : (({ cps := #[n] } : PySem.Str) == PySem.Str.ofString ")") = true)
    (k : ¬ d - 1 < 0) : Deep (pre ++ [(n : Int)]) (d - 1) := by
  have g := of_decide_eq_true (sign_close g)
  subst g
  exact D.step (by rw [if_neg (by omega), if_pos (by omega)]; omega) (by omega)
theorem Deep.skip {pre : List Int} {d : Int} {n : Nat} (D : Deep pre d) (h : (({ cps := #[n] } : PySem.Str) == PySem.Str.ofString "(") = false) (g : (({ cps := #[n] } : PySem.Str) == PySem.Str.ofString ")") = false) :
    Deep (pre ++ [(n : Int)]) d := by
  have h := of_decide_eq_false (sign_open h)
  have g := of_decide_eq_false (sign_close g)
  exact D.step (by rw [if_neg (by omega), if_neg (by omega)]; omega) D.lo
theorem Deep.broken {x : PySem.Str} {pre post : List Int} {d : Int} {n : Nat} (D : Deep pre d) (e : KStt.codes x = pre ++ (n : Int) :: post) (g : (({ cps := #[n] } : PySem.Str) == PySem.Str.ofString ")") = true)
    (k : d - 1 < 0) : closes x = false := by
  have g := of_decide_eq_true (sign_close g)
  subst g
  unfold closes
  rw [e]
  exact D.dead (by rw [if_neg (by omega), if_pos (by omega)]; omega)
theorem Deep.never {pre : List Int} {d : Int} (D : Deep pre d) (h : d + 1 < 0) : False := by have := D.lo; omega
theorem Deep.whole {x : PySem.Str} {d : Int} (D : Deep (KStt.codes x) d) : closes x = (d == 0) := by
  unfold closes closesL
  rw [D.is]
  by_cases h : d = 0
  · subst h; rfl
  · rw [beq_false_of_ne h]
    exact beq_false_of_ne fun e => h (Option.some.inj e)
end
section
set_option maxRecDepth 100000 in
set_option maxHeartbeats 8000000 in
theorem closes_call {w : World} {p : Program} {loose : List Str} {mean : ExcName → Option Value} {mg mb : Str → Option Value}
  (dp un : Nat) (gd : Option (List Code)) (cn : Str) (cs : Scope) (a : Addr) (ccd : Value) (cl : List (Str × Addr)) (outer : List Env) (A₀ : Around) (base h₀ : Heap) (L : Addr) (m : Str → Option Value) (s : Shared) (Q : Value → Shared → Prop) (E : Value → Shared → Prop) (news : List (Addr × Obj))
  (B : Below A₀ base outer h₀) (F : Fr h₀ L s.heap m) (X : (hd.heap_39 w.params).In h₀) (N : News h₀ L s.heap news) (T : Top p loose mean mg mb h₀) (hk : cs.kind = .function)
  (hd : dp < 500) (hu : un < 500) (x : Str) (t : Tok) (hlen : x.length ≤ 1000)
  (hret : ∀ h' tk', Fr h₀ L h' m → News h₀ L h' news → Q (.bool (closes x)) { s with heap := h', toks := tk' }) :
  wpAny (model PySem.Challenge.rw_gl0007_01.row.prog w) (ktrTop dp un gd cn cs L a ccd cl outer) (call (.ref 96) [.str x t]) Q E s := by
  k_with_none
  w_top off
  revert X; k_fill; intro X
  refine wpAny_call ?_
  k_dflt cell_enter
  k_with "pyIter str" => k_state (fun pre d => Deep pre d) "depth"
  k_with "state" => first | exact Deep.nil | exact Deep.open (by assumption) (by assumption) | exact Deep.other (by assumption) (by assumption) (by assumption)
  k_steps
  all_goals first
    | (rw [← Deep.shut (by assumption) (by assumption) (by assumption) (by assumption)]; exact hret _ _ (by assumption) (cb_drop (by assumption) fun p hp => List.mem_append_left _ hp))
    | (rw [← Deep.whole (by assumption)]; exact hret _ _ (by assumption) (by assumption))
    | exact (Deep.never (by assumption) (by assumption)).elim
end
section
section
variable {prog : Program} {w : World} {A : Around} {c : Code} {fs : List Frame} {P : End → Shared → Prop} {s : Shared}

theorem sx_wrap {α : Type} {m : Sem α} {K : α → Sem Fin} {H : Value → Sem Fin} {gd lv}
    (h : wpAny (model prog w) (A.over c fs) m (fun a s' => SegX (model prog w) A c (K a) fs s' P) (fun x s' => SegX (model prog w) A c (H x) fs s' P) s) :
    SegX (model prog w) A c (m.wrap K H gd lv) fs s P := by
  rintro Γ p rfl hΓ
  obtain ⟨e, s', hr, hq⟩ := runs_wrap_of_wp (Φ := fun e s' => e.quiet = true ∧ P e s') K H gd lv m (h (Γ.over fs) p (hΓ.over fs)) (fun a p' s' h' => h' Γ p' rfl hΓ) (fun x p' s' h' => h' Γ p' rfl hΓ)
  exact ⟨e, s', hr, hq⟩
theorem sx_bind {α β : Type} {m : Sem α} {f : α → Sem β} {K : β → Sem Fin} {H : Value → Sem Fin} {gd lv}
    (h : SegX (model prog w) A c (m.wrap (fun a => (f a).wrap K H gd lv) H gd lv) fs s P) : SegX (model prog w) A c ((m >>= f).wrap K H gd lv) fs s P := by
  rw [Sem.bind_eq_wrap', Sem.wrap_wrap]; exact h
theorem sx_bind0 {α : Type} {m : Sem α} {f : α → Sem Fin} (h : SegX (model prog w) A c (m.wrap f .raise id id) fs s P) : SegX (model prog w) A c (m >>= f) fs s P := by
  rw [Sem.bind_eq_wrap']; exact h
theorem sx_onRaise {α : Type} {m : Sem α} {h : Value → Sem Unit} {K : α → Sem Fin} {H : Value → Sem Fin} {gd lv}
    (x : SegX (model prog w) A c (m.wrap K (fun e => (((h e).bind fun _ => .raise e) : Sem α).wrap K H gd lv) gd lv) fs s P) : SegX (model prog w) A c ((m.onRaise h).wrap K H gd lv) fs s P := by
  rw [Sem.onRaise_eq_wrap, Sem.wrap_wrap]; exact x
theorem sx_onRaise0 {m : Sem Fin} {h : Value → Sem Unit}
    (x : SegX (model prog w) A c (m.wrap .pure (fun e => ((h e).bind fun _ => .raise e)) id id) fs s P) : SegX (model prog w) A c (m.onRaise h) fs s P := by
  rw [Sem.onRaise_eq_wrap]; exact x
/-- a command that ends well and does not raise -/
theorem sx_cmd {α : Type} {m : Sem α} {K : α → Sem Fin} {H : Value → Sem Fin} {gd lv}
    (h : ∀ E : Value → Shared → Prop, wpAny (model prog w) (A.over c fs) m (fun a s' => SegX (model prog w) A c (K a) fs s' P) E s) :
    SegX (model prog w) A c (m.wrap K H gd lv) fs s P := sx_wrap (h _)
theorem sx_call {c' : Code} {hd : Option Value} {g : Bool} {l : List Value} {k : Result → Sem Fin}
    (x : ∀ p, SegX (model prog w) A c' (denote table c') (.ret k hd g l c p [] :: fs) s P) : SegX (model prog w) A c (.call c' hd g l k) fs s P :=
  s_call prog w A c fs P s c' hd g l k x
end
end
section
/-- what a run changes: the objects of W, and what it makes -/
def Kept (W : List Addr) (s s' : Shared) : Prop := (∃ h tk, s' = { s with heap := h, toks := tk }) ∧ ∀ b o, b ∉ W → s.heap.get? b = some o → s'.heap.get? b = some o
theorem Kept.refl (W : List Addr) (s : Shared) : Kept W s s := ⟨⟨_, _, rfl⟩, fun _ _ _ h => h⟩
theorem Kept.more {W W' : List Addr} {s₀ s s' : Shared} (a : Kept W s₀ s) (b : Kept W' s s') (hw : ∀ b ∈ W', b ∈ W ∨ s₀.heap.get? b = none) : Kept W s₀ s' := by
  obtain ⟨⟨h, tk, rfl⟩, a⟩ := a
  obtain ⟨⟨h', tk', rfl⟩, b⟩ := b
  refine ⟨⟨h', tk', rfl⟩, fun x o hx e => b x o (fun hm => ?_) (a x o hx e)⟩
  rcases hw x hm with q | q
  · exact hx q
  · rw [q] at e; cases e
def Alike (b₀ : Heap) (W : List Addr) (h h' : Heap) : Prop := (∀ b ∈ W, ∀ o, h.get? b = some o → h'.get? b = some o) ∧ ∀ b o, b₀.get? b = some o → h'.get? b = some o

def GoesX (prog : Program) (w : World) (A : Around) (b₀ : Heap) (x : PySem.Str) : Nat → List Addr → GenState → Shared → Prop
  | 0, W, gs, s => ∃ c₀ t₀ fs₀, ((gs = .fresh c₀ ∧ t₀ = denote table c₀ ∧ fs₀ = []) ∨ ∃ k₀ l₀ p₀ cl, gs = .suspended k₀ l₀ c₀ p₀ fs₀ cl ∧ t₀ = k₀ (.send .none)) ∧
      SegX (model prog w) A c₀ t₀ fs₀ s fun e s' => Kept W s s' ∧ e = .ret (.ok (.ret .none))
  | k + 1, W, gs, s => ∃ c₀ t₀ fs₀, ((gs = .fresh c₀ ∧ t₀ = denote table c₀ ∧ fs₀ = []) ∨ ∃ k₀ l₀ p₀ cl, gs = .suspended k₀ l₀ c₀ p₀ fs₀ cl ∧ t₀ = k₀ (.send .none)) ∧
      SegX (model prog w) A c₀ t₀ fs₀ s fun e s' => Kept W s s' ∧ ∃ T i n t t' W' l' k' c' p' fs', e = .susp (.ref T) false l' k' c' p' fs' ∧ i + (k + 1) = x.cps.size ∧ x.cps[i]? = some n ∧
        s'.heap.IsTuple T #[.int (i : Nat) t, .str ⟨#[n]⟩ t'] ∧ (∀ b ∈ W', b ∈ W ∨ s.heap.get? b = none) ∧ ∀ s'', Alike b₀ W' s'.heap s''.heap → GoesX prog w A b₀ x k W' e.genState s''

/-- the end of a run of the generator from s: after k more signs it is through -/
def PostX (prog : Program) (w : World) (A : Around) (b₀ : Heap) (x : PySem.Str) : Nat → List Addr → Shared → End → Shared → Prop
  | 0, W, s => fun e s' => Kept W s s' ∧ e = .ret (.ok (.ret .none))
  | k + 1, W, s => fun e s' => Kept W s s' ∧ ∃ T i n t t' W' l' k' c' p' fs', e = .susp (.ref T) false l' k' c' p' fs' ∧ i + (k + 1) = x.cps.size ∧ x.cps[i]? = some n ∧
        s'.heap.IsTuple T #[.int (i : Nat) t, .str ⟨#[n]⟩ t'] ∧ (∀ b ∈ W', b ∈ W ∨ s.heap.get? b = none) ∧ ∀ s'', Alike b₀ W' s'.heap s''.heap → GoesX prog w A b₀ x k W' e.genState s''
theorem goes_iff {prog : Program} {w : World} {A : Around} {b₀ : Heap} {x : PySem.Str} {k : Nat} {W : List Addr} {gs : GenState} {s : Shared} :
    GoesX prog w A b₀ x k W gs s ↔ ∃ c₀ t₀ fs₀, ((gs = .fresh c₀ ∧ t₀ = denote table c₀ ∧ fs₀ = []) ∨ ∃ k₀ l₀ p₀ cl, gs = .suspended k₀ l₀ c₀ p₀ fs₀ cl ∧ t₀ = k₀ (.send .none)) ∧
      SegX (model prog w) A c₀ t₀ fs₀ s (PostX prog w A b₀ x k W s) := by cases k <;> rfl

structure GSt (b₀ : Heap) (Lg e it : Addr) (x : PySem.Str) (t : Tok) (i : Nat) (h : Heap) : Prop where
  fr : ∃ m, Fr b₀ Lg h m ∧ m (Str.ofString "escape") = some (.bool false)
  enum : ∃ old, IsEnum h e it i old
  iter : h.IsStrIter it "str_ascii_iterator" x t i

section
variable {prog : Program} {w : World} {A : Around} {b₀ : Heap} {x : PySem.Str} {t : Tok} {Lg e it : Addr} {fs : List Frame} {nm : Str} {scope : Scope} {f : Addr} {cd : Value}
  {q7 q8 q9 q13 q14 q15 q16 q17 q18 q19 q20 q21 q22 q24 : Pos} {k3 k4 k5 : Nat} {B1 B2 : List Stmt}

abbrev gTgt (q7 q8 q9 : Pos) (k3 : Nat) : PySem.Expr := .Tuple [.Name (Str.ofString "pos") q7, .Name (Str.ofString "ch") q8] k3 q9
abbrev gBody (q13 q14 q15 q16 q17 q18 q19 q20 q21 q22 q24 : Pos) (k4 k5 : Nat) (B1 B2 : List Stmt) : List Stmt :=
  [.If (.Name (Str.ofString "escape") q13) B1 [.If (.Compare (.Name (Str.ofString "ch") q14) [.Eq] [.Constant (.str (Str.ofString "\\")) k4 q15] q16) B2
    [.Expr (.Yield (some (.Tuple [.Name (Str.ofString "pos") q17, .Name (Str.ofString "ch") q18] k5 q19)) q20) q21] q24] q22]

theorem loop_goes (hh : A.handled = none) (hfs : marksOver fs (A.handled, A.handled) = (none, none)) (hsp : splitAtGen fs = none) (hgu : fs.any Frame.guarded = false)
    (hk : scope.kind = .function) (hco : scope.isCoroutine = false)
    (kpos : (envOf nm scope Lg f cd).kindOf (Str.ofString "pos") = some .local) (kch : (envOf nm scope Lg f cd).kindOf (Str.ofString "ch") = some .local)
    (kesc : (envOf nm scope Lg f cd).kindOf (Str.ofString "escape") = some .local)
    (hx : ∀ (i n : Nat), x.cps[i]? = some n → n ≠ 92) (hel : e ≠ Lg) (hil : it ≠ Lg) (hei : e ≠ it) (hbe : b₀.get? e = none) (hbi : b₀.get? it = none)
    (exit : ∀ W s₀ s', Kept W s₀ s' → (∃ m, Fr b₀ Lg s'.heap m ∧ m (Str.ofString "escape") = some (.bool false)) →
      SegX (model prog w) A (.block [] (envOf nm scope Lg f cd)) (.pure (.done .next)) fs s' (PostX prog w A b₀ x 0 W s₀)) :
    ∀ k i W s₀ s, i + k = x.cps.size → Kept W s₀ s → (∀ b ∈ [Lg, e, it], b ∈ W ∨ s₀.heap.get? b = none) → GSt b₀ Lg e it x t i s.heap →
      SegX (model prog w) A (.forLoop (gTgt q7 q8 q9 k3) (.ref e) (gBody q13 q14 q15 q16 q17 q18 q19 q20 q21 q22 q24 k4 k5 B1 B2) [] (envOf nm scope Lg f cd))
        (denote table (.forLoop (gTgt q7 q8 q9 k3) (.ref e) (gBody q13 q14 q15 q16 q17 q18 q19 q20 q21 q22 q24 k4 k5 B1 B2) [] (envOf nm scope Lg f cd))) fs s (PostX prog w A b₀ x k W s₀) := by
  intro k
  induction k with
  | zero =>
    intro i W s₀ s hik hK hW G
    show SegX _ _ _ ((forTurn _ _ _ _ _).onRaise _) _ _ _
    refine sx_onRaise0 ?_
    unfold forTurn
    refine sx_bind (sx_cmd fun E => wpAny_standAt ?_)
    refine sx_bind (sx_onRaise (sx_cmd fun E => ?_))
    obtain ⟨⟨m, F, hm⟩, ⟨old, he⟩, hit⟩ := G
    have hi : i = x.cps.size := by omega
    subst hi
    have hh' : ((A.over (.forLoop (gTgt q7 q8 q9 k3) (.ref e) (gBody q13 q14 q15 q16 q17 q18 q19 q20 q21 q22 q24 k4 k5 B1 B2) [] (envOf nm scope Lg f cd)) fs).in1).handled = none := by
      show (marksOver fs (A.handled, A.handled)).1 = none
      rw [hfs]
    refine wpAny_pyNext_enum_endD (Draws.strAscii hh' it x t) he hit fun h' hk' => ?_
    show SegX _ _ _ (.pure (.again _)) _ _ _
    refine s_again _ _ _ _ _ _ _ _ rfl ?_
    show SegX _ _ _ (.pure (.done .next)) _ _ _
    refine exit W s₀ _ (hK.more ⟨⟨h', _, rfl⟩, fun b o hb q => hk' b o (fun r => hb (by simp [r])) q⟩ hW) ⟨m, ⟨F.ns.extBut hk' (Ne.symm hil), fun b o q => hk' b o (fun r => by rw [r, hbi] at q; cases q) (F.keep b o q), F.above⟩, hm⟩
  | succ k ih =>
    intro i W s₀ s hik hK hW G
    show SegX _ _ _ ((forTurn _ _ _ _ _).onRaise _) _ _ _
    refine sx_onRaise0 ?_
    unfold forTurn
    refine sx_bind (sx_cmd fun E => wpAny_standAt ?_)
    refine sx_bind (sx_onRaise (sx_cmd fun E => ?_))
    obtain ⟨⟨m, F, hm⟩, ⟨old, he⟩, hit⟩ := G
    have hlt : i < x.cps.size := by omega
    have hA : (A.over (.forLoop (gTgt q7 q8 q9 k3) (.ref e) (gBody q13 q14 q15 q16 q17 q18 q19 q20 q21 q22 q24 k4 k5 B1 B2) [] (envOf nm scope Lg f cd)) fs).handled = none := by
      show (marksOver fs (A.handled, A.handled)).1 = none
      rw [hfs]
    have hh' : ((A.over (.forLoop (gTgt q7 q8 q9 k3) (.ref e) (gBody q13 q14 q15 q16 q17 q18 q19 q20 q21 q22 q24 k4 k5 B1 B2) [] (envOf nm scope Lg f cd)) fs).in1).handled = none := hA
    have heH : e < s.heap.objs.size := Heap.lt_size he
    obtain ⟨oi, hoi, _⟩ := id hit
    have hiH : it < s.heap.objs.size := Heap.lt_size hoi
    have hLH : Lg < s.heap.objs.size := F.ns.lt
    refine wpAny_pyNext_enum_itemD (Draws.strAscii hh' it x t) he hit hlt hei (by simpa using hei) fun v h₁ tk₁ hP heo hit₁ hT₁ hz₁ hk₁ => ?_
    obtain ⟨n, u, hn, rfl⟩ := hP
    refine sx_bind (sx_cmd fun E => wpAny_letOwnedTupleGo_enum heo fun h₂ he₂ hs₂ => ?_)
    replace hs₂ : Heap.SameBut e h₁ h₂ := hs₂
    have ht₂ : h₂.IsTuple s.heap.objs.size #[.int i tk₁, .str ⟨#[n]⟩ u] := ⟨_, (hs₂.2 _ (Nat.ne_of_gt heH)).trans hT₁, rfl, _, rfl⟩
    have hz₂ : h₂.objs.size = s.heap.objs.size + 1 := hs₂.1.trans hz₁
    refine sx_bind (sx_cmd fun E => wpAny_assign_Tuple hA ht₂ rfl rfl fun h₃ hx₃ => ?_)
    replace hx₃ : Heap.ExtBut h₂.objs.size h₂ h₃ := hx₃
    have old₃ : ∀ b o, b < s.heap.objs.size → h₂.get? b = some o → h₃.get? b = some o := fun b o hb y => hx₃ b o (by rw [hz₂]; exact Nat.ne_of_lt (Nat.lt_succ_of_lt hb)) y
    have up₃ : ∀ b o, b ≠ e → b ≠ it → s.heap.get? b = some o → h₃.get? b = some o := fun b o hbe hbi y => old₃ b o (Heap.lt_size y) (hs₂.extBut b o hbe (hk₁ b o hbe hbi y))
    have F₃ : Fr b₀ Lg h₃ m := ⟨F.ns.at fun o y => up₃ _ o (Ne.symm hel) (Ne.symm hil) y, fun b o y => up₃ b o (fun r => by rw [r, hbe] at y; cases y) (fun r => by rw [r, hbi] at y; cases y) (F.keep b o y), F.above⟩
    have he₃ : IsEnum h₃ e it ((i : Int) + 1) (.str ⟨#[n]⟩ u) := old₃ _ _ heH he₂
    have hi₃ : h₃.IsStrIter it "str_ascii_iterator" x t (i + 1) := let ⟨o, ho, r⟩ := hit₁.extBut hs₂.extBut (Ne.symm hei); ⟨o, old₃ it o hiH ho, r⟩
    have hpk : ((envOf nm scope Lg f cd).scope.kind == .class || ((envOf nm scope Lg f cd).scope.kind == .module && (envOf nm scope Lg f cd).locals != (envOf nm scope Lg f cd).globals)) = false := by
      show (scope.kind == .class || (scope.kind == .module && Lg != mainGlobals)) = false
      rw [hk]; rfl
    show wpAny _ _ (do holding [.str ⟨#[n]⟩ u] (assign (.Name (Str.ofString "pos") q7) (envOf nm scope Lg f cd) (.int i tk₁)); do holding [] (assign (.Name (Str.ofString "ch") q8) (envOf nm scope Lg f cd) (.str ⟨#[n]⟩ u)); pure ()) _ _ _
    refine wpAny_bind (wpAny_holding (wpAny_assign_Name (wpAny_storeName_local kpos F₃.ns (fun h₄ hn₄ hs₄ => ?_) hpk)))
    replace hs₄ : Heap.SameBut Lg h₃ h₄ := hs₄
    have F₄ := F₃.set hn₄ hs₄
    refine wpAny_bind (wpAny_holding (wpAny_assign_Name (wpAny_storeName_local kch F₄.ns (fun h₅ hn₅ hs₅ => wpAny_pure ?_) hpk)))
    replace hs₅ : Heap.SameBut Lg h₄ h₅ := hs₅
    have F₅ := F₄.set hn₅ hs₅
    refine sx_bind ?_
    rw [execs_cons]
    refine sx_bind ?_
    rw [exec_If]
    refine sx_bind (sx_cmd fun E => wpAny_standAt ?_)
    show SegX _ _ _ _ _ ⟨h₅, s.gens, s.drawn, tk₁ + 1 + 1 + 1, s.os⟩ _
    have hesc : (fun y => if y = Str.ofString "ch" then some (Value.str ⟨#[n]⟩ u) else if y = Str.ofString "pos" then some (.int i tk₁) else m y) (Str.ofString "escape") = some (.bool false) := by
      show (if Str.ofString "escape" = Str.ofString "ch" then _ else if Str.ofString "escape" = Str.ofString "pos" then _ else m (Str.ofString "escape")) = _
      rw [if_neg (by decide +kernel), if_neg (by decide +kernel)]; exact hm
    have hch : (fun y => if y = Str.ofString "ch" then some (Value.str ⟨#[n]⟩ u) else if y = Str.ofString "pos" then some (.int i tk₁) else m y) (Str.ofString "ch") = some (.str ⟨#[n]⟩ u) := if_pos rfl
    have hpos : (fun y => if y = Str.ofString "ch" then some (Value.str ⟨#[n]⟩ u) else if y = Str.ofString "pos" then some (.int i tk₁) else m y) (Str.ofString "pos") = some (.int i tk₁) := by
      show (if Str.ofString "pos" = Str.ofString "ch" then _ else if Str.ofString "pos" = Str.ofString "pos" then _ else m (Str.ofString "pos")) = _
      rw [if_neg (by decide +kernel), if_pos rfl]
    refine sx_bind (sx_cmd fun E => wpAny_isTrue_value (ld F₅ hesc (wpAny_truthy_bool ?_) hk kesc))
    show SegX _ _ _ ((if (false = true) then _ else _ : Sem Flow).wrap _ _ _ _) _ _ _
    rw [if_neg Bool.false_ne_true, execs_cons]
    refine sx_bind ?_
    rw [exec_If]
    refine sx_bind (sx_cmd fun E => wpAny_standAt ?_)
    refine sx_bind (sx_cmd fun E => wpAny_isTrue_Compare1 (ld F₅ hch (wpAny_Constant_str (PyProof.Rows.eq_str (wpAny_truthy_bool ?_))) hk kch))
    have hbs : (({ cps := #[n] } : PySem.Str) == Str.ofString "\\") = false := by
      rw [show Str.ofString "\\" = ({ cps := #[92] } : PySem.Str) from by decide +kernel, cps_inj]
      exact decide_eq_false (hx i n hn)
    show SegX _ _ _ ((if (({ cps := #[n] } : PySem.Str) == Str.ofString "\\") = true then _ else _ : Sem Flow).wrap _ _ _ _) _ _ _
    rw [if_neg (by rw [hbs]; exact Bool.false_ne_true), execs_cons]
    refine sx_bind ?_
    have hin : interactive (envOf nm scope Lg f cd) = false := by
      show (scope.kind == .module && _) = false
      rw [hk]; rfl
    rw [exec_Expr _ _ _ hin rfl]
    refine sx_bind (sx_cmd fun E => wpAny_standAt ?_)
    refine sx_bind ?_
    rw [arm_eval_Yield]
    refine sx_bind (sx_cmd fun E => (show wpAny _ _ (eval (.Tuple [.Name (Str.ofString "pos") q17, .Name (Str.ofString "ch") q18] k5 q19) (envOf nm scope Lg f cd)) _ _ _ from Tuple_ (spliced_more (ld F₅ hpos (spliced_more (ld F₅ hch (spliced_none (wpAny_newTuple ?_)) hk kch)) hk kpos))))
    refine sx_bind (sx_cmd fun E => wpAny_standAt ?_)
    have hyo : ∀ v, yieldOut (envOf nm scope Lg f cd) v = yieldValue v := fun v => by
      show (if scope.isCoroutine = true then _ else _) = _
      rw [hco]; rfl
    rw [hyo]
    unfold yieldValue suspend
    refine sx_bind ?_
    have up₅ : ∀ b o, b ≠ Lg → b < s.heap.objs.size → h₃.get? b = some o → h₅.get? b = some o := fun b o hb _ y => hs₅.extBut b o hb (hs₄.extBut b o hb y)
    have hz₅ : h₅.objs.size = h₃.objs.size := hs₅.1.trans hs₄.1
    refine s_yield prog w A _ fs _ _ _ _ _ hsp hgu fun p => ?_
    refine ⟨hK.more ⟨⟨_, _, rfl⟩, fun b o hb y => ?_⟩ hW, h₅.objs.size, i, n, tk₁, u, [Lg, e, it], _, _, _, _, _, rfl, hik, hn, ⟨_, Heap.get?_push_size _ rfl, rfl, _, rfl⟩, hW, fun s'' al => goes_iff.mpr ⟨_, _, _, .inr ⟨_, _, _, _, rfl, rfl⟩, ?_⟩⟩
    · have hbL : b ≠ Lg := fun r => hb (by simp [r])
      exact Heap.get?_push_of_some _ (up₅ b o hbL (Heap.lt_size y) (up₃ b o (fun r => hb (by simp [r])) (fun r => hb (by simp [r])) y))
    · show SegX _ _ _ (.pure (.again _)) _ _ _
      refine s_again _ _ _ _ _ _ _ _ rfl ?_
      refine ih (i + 1) [Lg, e, it] s'' s'' (by omega) (Kept.refl _ _) (fun b hb => .inl hb) ⟨⟨fun y => if y = Str.ofString "ch" then some (Value.str ⟨#[n]⟩ u) else if y = Str.ofString "pos" then some (.int i tk₁) else m y, ⟨?_, al.2, F.above⟩, hesc⟩, ⟨.str ⟨#[n]⟩ u, ?_⟩, ?_⟩
      · exact F₅.ns.at fun o y => al.1 Lg (by simp) o (Heap.get?_push_of_some _ y)
      · have y : h₅.get? e = _ := up₅ e _ hel heH he₃
        have z := al.1 e (by simp) _ (Heap.get?_push_of_some _ y)
        have q : ((i + 1 : Nat) : Int) = (i : Int) + 1 := by push_cast; rfl
        show s''.heap.get? e = _
        rw [q]; exact z
      · obtain ⟨o, ho, r⟩ := hi₃
        exact ⟨o, al.1 it (by simp) o (Heap.get?_push_of_some _ (up₅ it o hil hiH ho)), r⟩
end
end
section
section
variable {prog : Program} {w : World} {A : Around} {b₀ : Heap} {x : PySem.Str} {t : Tok} {Lg : Addr} {nm : Str} {scope : Scope} {f : Addr} {cd : Value}
  {p1 p2 p3 p4 p5 p6 q7 q8 q9 q10 q11 q12 q13 q14 q15 q16 q17 q18 q19 q20 q21 q22 q24 q23 q25 q26 : Pos} {j1 j2 k3 k4 k5 : Nat} {B1 B2 B3 : List Stmt}

abbrev gFor (q7 q8 q9 q10 q11 q12 q13 q14 q15 q16 q17 q18 q19 q20 q21 q22 q24 q23 : Pos) (k3 k4 k5 : Nat) (B1 B2 : List Stmt) : Stmt :=
  .For (gTgt q7 q8 q9 k3) (.Call (.Name (Str.ofString "enumerate") q10) [.Name (Str.ofString "addr") q11] [] q12) (gBody q13 q14 q15 q16 q17 q18 q19 q20 q21 q22 q24 k4 k5 B1 B2) [] q23
abbrev gAll (p1 p2 p3 p4 p5 p6 q7 q8 q9 q10 q11 q12 q13 q14 q15 q16 q17 q18 q19 q20 q21 q22 q24 q23 q25 q26 : Pos) (j1 j2 k3 k4 k5 : Nat) (B1 B2 B3 : List Stmt) : List Stmt :=
  [.Assign [.Name (Str.ofString "pos") p1] (.Constant (.int 0) j1 p2) p3, .Assign [.Name (Str.ofString "escape") p4] (.Constant (.bool false) j2 p5) p6,
    gFor q7 q8 q9 q10 q11 q12 q13 q14 q15 q16 q17 q18 q19 q20 q21 q22 q24 q23 k3 k4 k5 B1 B2, .If (.Name (Str.ofString "escape") q25) B3 [] q26]

theorem gen_goes (hh : A.handled = none)
    (hk : scope.kind = .function) (hco : scope.isCoroutine = false)
    (kpos : (envOf nm scope Lg f cd).kindOf (Str.ofString "pos") = some .local) (kch : (envOf nm scope Lg f cd).kindOf (Str.ofString "ch") = some .local)
    (kesc : (envOf nm scope Lg f cd).kindOf (Str.ofString "escape") = some .local) (kadd : (envOf nm scope Lg f cd).kindOf (Str.ofString "addr") = some .local)
    (hen : ∀ (A' : Around) (s' : Shared) (Q : Value → Shared → Prop) (E : Value → Shared → Prop), (∃ m, Fr b₀ Lg s'.heap m) → Q (.type "enumerate") s' →
      wpAny (model prog w) A' (eval (.Name (Str.ofString "enumerate") q10) (envOf nm scope Lg f cd)) Q E s')
    (hx : ∀ (i n : Nat), x.cps[i]? = some n → n ≠ 92) (hasc : x.cps.all (· < 128) = true) {s : Shared} {m : Str → Option Value} (F : Fr b₀ Lg s.heap m) (hm : m (Str.ofString "addr") = some (.str x t)) :
    SegX (model prog w) A (.func (gAll p1 p2 p3 p4 p5 p6 q7 q8 q9 q10 q11 q12 q13 q14 q15 q16 q17 q18 q19 q20 q21 q22 q24 q23 q25 q26 j1 j2 k3 k4 k5 B1 B2 B3) (envOf nm scope Lg f cd))
      (denote table (.func (gAll p1 p2 p3 p4 p5 p6 q7 q8 q9 q10 q11 q12 q13 q14 q15 q16 q17 q18 q19 q20 q21 q22 q24 q23 q25 q26 j1 j2 k3 k4 k5 B1 B2 B3) (envOf nm scope Lg f cd))) [] s
      (PostX prog w A b₀ x x.cps.size [Lg] s) := by
  have hpk : ((envOf nm scope Lg f cd).scope.kind == .class || ((envOf nm scope Lg f cd).scope.kind == .module && (envOf nm scope Lg f cd).locals != (envOf nm scope Lg f cd).globals)) = false := by
    show (scope.kind == .class || (scope.kind == .module && Lg != mainGlobals)) = false
    rw [hk]; rfl
  show SegX _ _ _ (point >>= fun _ => ((execs _ _).onRaise _ >>= _)) _ _ _
  refine sx_bind0 (sx_cmd fun E => wpAny_point ?_)
  refine sx_bind0 (sx_onRaise ?_)
  rw [execs_cons]
  refine sx_bind (sx_cmd fun E => wpAny_Assign_Name (wpAny_Constant_int (wpAny_storeName_local kpos F.ns (fun h₁ hn₁ hs₁ => ?_) hpk)))
  replace hs₁ : Heap.SameBut Lg s.heap h₁ := hs₁
  have F₁ := F.set hn₁ hs₁
  show SegX _ _ _ ((execs _ _).wrap _ _ _ _) _ _ _
  rw [execs_cons]
  refine sx_bind (sx_cmd fun E => wpAny_Assign_Name (wpAny_Constant_bool (wpAny_storeName_local kesc F₁.ns (fun h₂ hn₂ hs₂ => ?_) hpk)))
  show SegX _ _ _ ((execs _ _).wrap _ _ _ _) _ ⟨h₂, s.gens, s.drawn, _, s.os⟩ _
  replace hs₂ : Heap.SameBut Lg h₁ h₂ := hs₂
  have F₂ := F₁.set hn₂ hs₂
  have keep₂ : ∀ b o, b ≠ Lg → s.heap.get? b = some o → h₂.get? b = some o := fun b o hb y => hs₂.extBut b o hb (hs₁.extBut b o hb y)
  have hz₂ : h₂.objs.size = s.heap.objs.size := hs₂.1.trans hs₁.1
  have hLs : @LT.lt Nat _ Lg h₂.objs.size := F₂.ns.lt
  have hab : @LE.le Nat _ b₀.objs.size Lg := F.above
  rw [execs_cons]
  refine sx_bind ?_
  rw [exec_For]
  refine sx_bind (sx_cmd fun E => wpAny_standAt ?_)
  refine sx_bind (sx_cmd fun E => Call_ (hen _ _ _ _ ⟨_, F₂⟩ (Pv.callWith_type1 (spliced_more (ld F₂ (v := .str x t) ?_ (spliced_none (call_enumerate_str fun h₃ he hi hz hk₃ => ?_)) hk kadd)))))
  · show (if Str.ofString "addr" = Str.ofString "escape" then _ else if Str.ofString "addr" = Str.ofString "pos" then _ else m (Str.ofString "addr")) = _
    rw [if_neg (by decide +kernel), if_neg (by decide +kernel)]; exact hm
  show SegX _ _ _ ((pure _ >>= _ : Sem Flow).wrap _ _ _ _) _ _ _
  refine sx_bind (sx_cmd fun E => wpAny_pure ?_)
  refine sx_bind (sx_cmd fun E => wpAny_standAt ?_)
  refine sx_bind (sx_cmd fun E => wpAny_holding (wpAny_pyIter_enum he ?_))
  unfold runOwn
  refine sx_onRaise ?_
  refine sx_call fun p => ?_
  have hK : Kept [Lg] s ⟨h₃, s.gens, s.drawn, s.toks + 1 + 1 + 1, s.os⟩ := ⟨⟨_, _, rfl⟩, fun b o hb y => hk₃ b o (keep₂ b o (fun r => hb (by simp [r])) y)⟩
  replace he : IsEnum h₃ (h₂.objs.size + 1) h₂.objs.size 0 .none := he
  replace hi : h₃.IsStrIter h₂.objs.size (strIterType x) x t 0 := hi
  have hbn : ∀ k, b₀.get? (h₂.objs.size + k) = none := fun k => by
    refine Heap.get?_none_of_le ?_
    omega
  have hsn : ∀ k, s.heap.get? (h₂.objs.size + k) = none := fun k => Heap.get?_none_of_le (by rw [hz₂]; omega)
  have hesc : (fun y => if y = Str.ofString "escape" then some (Value.bool false) else if y = Str.ofString "pos" then some (.int 0 s.toks) else m y) (Str.ofString "escape") = some (.bool false) := if_pos rfl
  refine loop_goes (Lg := Lg) (e := h₂.objs.size + 1) (it := h₂.objs.size) (x := x) (t := t) hh ?_ rfl rfl hk hco kpos kch kesc hx (neN (by omega)) (neN (by omega)) (neN (by omega)) (hbn 1) (hbn 0) (fun W s₀ s' hK' hf => ?_) x.cps.size 0 [Lg] s _ (by omega) hK ?_ ⟨⟨_, ⟨F₂.ns.at fun o y => hk₃ _ o y, fun b o y => hk₃ b o (F₂.keep b o y), F₂.above⟩, hesc⟩, ⟨.none, he⟩, ?_⟩
  · rw [hh]; rfl
  · refine s_pop _ _ _ _ _ _ _ (.ok .next) _ rfl _ _ _ _ _ _ _ ?_
    show SegX _ _ _ ((execs _ _).wrap _ _ _ _) _ _ _
    obtain ⟨m', F', hm'⟩ := hf
    rw [execs_cons]
    refine sx_bind ?_
    rw [exec_If]
    refine sx_bind (sx_cmd fun E => wpAny_standAt ?_)
    refine sx_bind (sx_cmd fun E => wpAny_isTrue_value (ld F' hm' (wpAny_truthy_bool ?_) hk kesc))
    show SegX _ _ _ ((if (false = true) then _ else _ : Sem Flow).wrap _ _ _ _) _ _ _
    rw [if_neg Bool.false_ne_true]
    refine s_end _ _ _ _ _ _ (.ok (.ret .none)) _ rfl ⟨hK', rfl⟩
  · intro b hb
    rcases List.mem_cons.mp hb with rfl | hb
    · exact .inl (by simp)
    · right
      rcases List.mem_cons.mp hb with rfl | hb
      · exact hsn 1
      · rw [List.mem_singleton.mp hb]; exact hsn 0
  · have : strIterType x = "str_ascii_iterator" := by unfold strIterType; rw [hasc]; rfl
    rw [← this]; exact hi
end
end
section
theorem sx_mono {M : Model} {A : Around} {c : Code} {t : Sem Fin} {fs : List Frame} {s : Shared} {P P' : End → Shared → Prop} (x : SegX M A c t fs s P) (h : ∀ e s', e.quiet = true → P e s' → P' e s') : SegX M A c t fs s P' := fun Γ p hc hΓ => by
  obtain ⟨e, s', hr, hq, hp⟩ := x Γ p hc hΓ
  exact ⟨e, s', hr, hq, h e s' hq hp⟩
section
variable {prog : Program} {w : World} {A : Around} {E : Value → Shared → Prop} {s : Shared} {b₀ : Heap} {x : PySem.Str} {W : List Addr} {a : Addr} {g : Nat} {gs : GenState} {Q : Option Value → Shared → Prop}

theorem next_item {k : Nat} (hl : s.heap.NoLimit) (hroom : A.depth < recursionLimit) (hg : s.heap.IsGen a g) (hgs : s.gens[g]? = some gs)
    (hgo : GoesX prog w A.in1 b₀ x (k + 1) W gs (s.setGen g .running))
    (hQ : ∀ s₁ T i n t t' W' gs', Kept W (s.setGen g .running) s₁ → gs'.bare = true → i + (k + 1) = x.cps.size → x.cps[i]? = some n → s₁.heap.IsTuple T #[.int (i : Nat) t, .str ⟨#[n]⟩ t'] →
      (∀ b ∈ W', b ∈ W ∨ s.heap.get? b = none) → (∀ s'', Alike b₀ W' s₁.heap s''.heap → GoesX prog w A.in1 b₀ x k W' gs' s'') → Q (some (.ref T)) (s₁.setGen g gs')) :
    wpAny (model prog w) A (pyNext (.ref a)) Q E s := by
  unfold pyNext
  refine wpAny_bind (wpAny_attempt (wpAny_callSpecial?_slot (name := Str.ofString "__next__") hg.typeIs slot_gen_next
    (wpAny_call_entry slot_gen_next hg.typeIs entry_gen_next ?_ (args_gen_next _))))
  show wpAny _ A.in1 (Builtin.Generator.genWake (.ref a) (.send .none)) _ _ s
  unfold Builtin.Generator.genWake
  refine wpAny_bind (wpAny_holding (wpAny_genNumber hg (wpAny_bind (wpAny_genState hgs ?_))))
  obtain ⟨c₀, t₀, fs₀, hc, hx⟩ := hgo
  rcases hc with ⟨rfl, rfl, rfl⟩ | ⟨k₀, l₀, p₀, cl, rfl, rfl⟩
  all_goals
    refine wpAny_bind (wpAny_roomToWake hl hroom ?_)
    show wpAny _ A.in1 (.resume g (.send .none) [] _) _ _ s
    refine wake_any _ prog w hgs (by first | exact .inl ⟨rfl, rfl, rfl, rfl⟩ | exact .inr ⟨_, _, _, _, rfl, rfl⟩) (fun Γ => Γ.In A.in1) (fun _ h => h) (sx_mono hx ?_)
    rintro e s₁ hq ⟨hK, T, i, n, t, t', W', l', k', c', p', fs', rfl, hi, hn, hT, hW, hnext⟩ Γ p hΓ
    show ∃ v, Fin.done (.ret (.ref T)) = .done (.ret v) ∧ _
    exact ⟨_, rfl, wpAny_pure (hQ s₁ T i n t t' W' _ hK (End.bare_of_quiet hq) hi hn hT hW hnext)⟩
theorem next_done (hh : A.handled = none) (hl : s.heap.NoLimit) (hroom : A.depth < recursionLimit) (hg : s.heap.IsGen a g) (hgs : s.gens[g]? = some gs)
    (hgo : GoesX prog w A.in1 b₀ x 0 W gs (s.setGen g .running))
    (hQ : ∀ s₁ h', Kept W (s.setGen g .running) s₁ → (∀ b o, s₁.heap.get? b = some o → h'.get? b = some o) → Q none { s₁.setGen g .finished with heap := h' }) :
    wpAny (model prog w) A (pyNext (.ref a)) Q E s := by
  unfold pyNext
  refine wpAny_bind (wpAny_attempt (wpAny_callSpecial?_slot (name := Str.ofString "__next__") hg.typeIs slot_gen_next
    (wpAny_call_entry slot_gen_next hg.typeIs entry_gen_next ?_ (args_gen_next _))))
  show wpAny _ A.in1 (Builtin.Generator.genWake (.ref a) (.send .none)) _ _ s
  unfold Builtin.Generator.genWake
  refine wpAny_bind (wpAny_holding (wpAny_genNumber hg (wpAny_bind (wpAny_genState hgs ?_))))
  obtain ⟨c₀, t₀, fs₀, hc, hx⟩ := hgo
  rcases hc with ⟨rfl, rfl, rfl⟩ | ⟨k₀, l₀, p₀, cl, rfl, rfl⟩
  all_goals
    refine wpAny_bind (wpAny_roomToWake hl hroom ?_)
    show wpAny _ A.in1 (.resume g (.send .none) [] _) _ _ s
    refine wake_any _ prog w hgs (by first | exact .inl ⟨rfl, rfl, rfl, rfl⟩ | exact .inr ⟨_, _, _, _, rfl, rfl⟩) (fun Γ => Γ.In A.in1) (fun _ h => h) (sx_mono hx ?_)
    rintro e s₁ hq ⟨hK, rfl⟩
    show wpAny _ A.in1 (newExc (.type "StopIteration") [] >>= _) _ _ _
    refine wpAny_bind ?_
    simp only [newExc, newTuple]
    refine wpAny_bind (wpAny_newObj_type ?_ (by size_fits))
    refine wpAny_bind (m := firstArgMember _ _) (wpAny_of_eq (a := Value.none) (by first | rfl | (simp only [firstArgMember]; rfl)) ?_)
    refine wpAny_newObj_type ?_ (by size_fits)
    simp only [raiseNew]
    refine wpAny_bind (wpAny_bind (wpAny_handled ?_))
    first | rw [show A.in1.handled = none from hh] | rw [hh]
    refine wpAny_throw ?_
    refine wpAny_bind (wpAny_isInstance (T := "StopIteration") (b := true) ⟨_, Heap.get?_push_size _ rfl, rfl⟩ isSubtype_stop ?_)
    exact wpAny_pure (hQ s₁ _ hK fun b o hb => Heap.get?_push_of_some _ (Heap.get?_push_of_some _ hb))
end
section
variable {prog : Program} {w : World} {A : Around} {s : Shared} {R : Result → Shared → Prop}
/-- a call of a generator's def makes the generator and runs nothing of it -/
theorem codeAny_call_gen {a : Addr} {o : Obj} {fd : FuncData} {body : List Stmt} {args : Args} {binds : List (Str × Value)}
    (hroom : A.depth < recursionLimit) (ho : s.heap.get? a = some o) (hdata : o.data = .func fd) (hlim : s.heap.NoLimit) (hcd : s.heap.CodeRec fd.code fd.qualname)
    (hbody : fd.body = .stmts body) (hbind : BindsTo s fd args binds)
    (hcell : ∀ x ∈ fd.scope.names, x.2 ≠ .cell) (hloc : ∀ x ∈ binds, fd.scope.names.lookup x.1 = some .local)
    (h : ∀ h₀ : Heap, h₀.Ns s.heap.objs.size (fun x => binds.reverse.lookup x) → (∀ b o, s.heap.get? b = some o → h₀.get? b = some o) → ∀ tk ob, ob.isFreed = false → ob.cls = .type "generator" → (∃ nm qn, ob.data = .fields #[.int s.gens.size 0, nm, qn]) → ob.slots = #[] →
      R (.ok (.ret (.ref h₀.objs.size))) { s with heap := h₀.push ob, gens := s.gens.push (.fresh (.func body (callEnv fd s.heap.objs.size a))), toks := tk })
    (hco : fd.scope.isCoroutine = false := by rfl) (hgen : fd.scope.isGenerator = true := by rfl) (hk : fd.scope.kind = .function := by rfl) :
    codeAny (model prog w) A (.call (.ref a) args) R s := by
  refine codeAny_of_tree ?_
  show wpAny _ A.in1 (callAny (.ref a) args) _ _ s
  simp only [callAny]
  refine wpAny_bind (wpAny_load ho ?_)
  obtain ⟨c, oc, vs, tq, hc, hoc, hdc, hq⟩ := hcd
  have hce : callEnv fd s.heap.objs.size a = newEnv fd.scope s.heap.objs.size fd.globals fd.closure (fd.qualname ++ ".<locals>.") (some a) (.ref c) none fd.builtins := by
    unfold callEnv; rw [hc]
  rw [hce] at h
  simp only [hdata, callFunction, hco, hgen, hbody, hc]
  refine wpAny_bind (m := field (.ref c) 1) (wpAny_field hoc hdc hq (wpAny_bind (wpAny_pure ?_)))
  refine wpAny_bind (hbind _ _ _ _ ?_)
  refine wpAny_bind (wpAny_newFunctionEnv hcell hloc (fun h₀ hns₀ hsb₀ => ?_) hk)
  refine wpAny_bind (wpAny_enterFrame (hlim.fresh _ hsb₀) hroom ?_)
  simp only [newGenerator, newFields]
  refine wpAny_bind (wpAny_bind (wpAny_newGen (wpAny_bind (wpAny_mkText (wpAny_bind (wpAny_mkText (wpAny_newObj_type ?_ (by size_fits))))))))
  refine wpAny_pure ?_
  refine h h₀ hns₀ ?_ _ _ ?_ ?_ ?_ ?_
  · exact fun b o e => hsb₀.extBut b o (Nat.ne_of_lt (Heap.lt_size e)) (Heap.get?_push_of_some _ e)
  · rfl
  · rfl
  · exact ⟨_, _, rfl⟩
  · rfl
end
end
section
theorem bare_set {gens : Array GenState} {g : Nat} {x : GenState} (h : AllBare gens) (hx : x.bare = true) : AllBare (gens.setIfInBounds g x) := by
  intro y hy
  obtain ⟨i, hi, rfl⟩ := Array.mem_iff_getElem.mp hy
  rw [Array.getElem_setIfInBounds (by simpa using hi)]
  split
  · exact hx
  · exact h _ (Array.getElem_mem _)
structure GenAt (prog : Program) (w : World) (A : Around) (h₀ : Heap) (x : PySem.Str) (k : Nat) (W : List Addr) (a : Addr) (g : Nat) (s : Shared) : Prop where
  is : s.heap.IsGen a g
  st : ∃ gs, s.gens[g]? = some gs ∧ ∀ s'', Alike h₀ W s.heap s''.heap → GoesX prog w A h₀ x k W gs s''
section
variable {prog : Program} {w : World} {A : Around} {E : Value → Shared → Prop} {s : Shared}
theorem letOwned_gen {elts : List PySem.Expr} {k : Nat} {pos : Pos} {a T : Addr} {g : Nat} {Q : Unit → Shared → Prop} (hg : s.heap.IsGen a g) (hQ : Q () s) :
    wpAny (model prog w) A (letOwnedTupleGo (.Tuple elts k pos) (.ref a) (.ref T)) Q E s := by
  obtain ⟨o, nm, qn, ho, hc, hd, _⟩ := hg
  unfold letOwnedTupleGo
  refine wpAny_bind (wpAny_load ho ?_)
  obtain ⟨c, dc, d, sl⟩ := o
  replace hc : c = .type "generator" := hc
  replace hd : d = .fields #[.int g 0, nm, qn] := hd
  subst hc hd
  show wpAny _ A (if (["enumerate", "zip", "dict_itemiterator", "dict_reverseitemiterator", "odict_iterator", "itertools.zip_longest", "itertools.pairwise"].contains "generator" && _) = true then _ else _) Q E s
  rw [if_neg (by simp)]
  exact wpAny_pure hQ

theorem gen_loop {σ : Type} {h₀ : Heap} {env : Env} {xi xc : PySem.Str} {pi pc pt : Pos} {k3 : Nat} {body : List Stmt} {Q : Flow → Shared → Prop} {xt : PySem.Str} {m₀ : PySem.Str → Option Value} {a : Addr} {g : Nat} {W : List Addr}
    (Led : List (Addr × Obj)) (ps : σ → List (PySem.Str × Value)) (stored : List PySem.Str) (P : List Int → σ → Prop)
    (hh : A.handled = none) (hlim : h₀.NoLimit) (hroom : A.depth < recursionLimit) (hxi : env.kindOf xi = some .local) (hxc : env.kindOf xc = some .local)
    (hpk : (env.scope.kind == .class || (env.scope.kind == .module && env.locals != env.globals)) = false)
    (hE : PassesOwn (model prog w) A env E)
    (F : Fr h₀ env.locals s.heap m₀) (N : News h₀ env.locals s.heap Led) (hk : ∃ c₀, (∀ p ∈ ps c₀, m₀ p.1 = some p.2) ∧ P [] c₀)
    (G : GenAt prog w A.in1 h₀ xt xt.cps.size W a g s) (hWL : ∀ b ∈ a :: W, b ≠ env.locals) (hWN : ∀ b ∈ a :: W, ∀ p ∈ Led, p.1 ≠ b) (hW0 : ∀ b ∈ a :: W, h₀.get? b = none) (hst : stored.contains xi = true) (hpx : ∀ c, ∀ p ∈ ps c, p.1 ≠ xi) (hb : AllBare s.gens) (haW : a ∉ W)
    (turn : ∀ (c : σ) (pre post : List Int) (n : Nat) t (u : PySem.Str → Option Value) h tk own G', KStt.codes xt = pre ++ (n : Int) :: post → AllBare G' → OwnOff own (Led.map (·.1)) → P pre c →
      Fr h₀ env.locals h (fun y => if y = xc then some (.str ⟨#[n]⟩ t) else kstB (fun z => if stored.contains z then u z else m₀ z) (ps c) y) → News h₀ env.locals h (Led ++ own) →
      wpAny (model prog w) A (execs body env) (InvPostN h₀ env.locals (KstS (fun _ => Led) ps (fun _ => True) xc stored m₀ P (pre ++ [(n : Int)])) own (Led.map (·.1)) { s with heap := h, toks := tk, gens := G' } Q) E { s with heap := h, toks := tk, gens := G' })
    (done : ∀ (c : σ) (u : PySem.Str → Option Value) h tk G', AllBare G' → P (KStt.codes xt) c → Fr h₀ env.locals h (fun y => if y = xc then u y else kstB (fun z => if stored.contains z then u z else m₀ z) (ps c) y) → News h₀ env.locals h Led → Q .next { s with heap := h, toks := tk, gens := G' }) :
    codeAny (model prog w) A (.forLoop (.Tuple [.Name xi pi, .Name xc pc] k3 pt) (.ref a) body [] env) (fun r s' => match r with | .ok f => Q f s' | .error e => cameBackBy (model prog w) A env E e s') s := by
  obtain ⟨c₀, hk, hP⟩ := hk
  refine codeAny_forLoop_any (fun k s' => ∃ h tk G' m' W' i, s' = { s with heap := h, toks := tk, gens := G' } ∧ Fr h₀ env.locals h m' ∧ News h₀ env.locals h Led ∧
      KstS (fun _ => Led) ps (fun _ => True) xc stored m₀ P ((KStt.codes xt).take i) m' Led ∧ GenAt prog w A.in1 h₀ xt (xt.cps.size - i) W' a g { s with heap := h, toks := tk, gens := G' } ∧
      (∀ b ∈ a :: W', b ≠ env.locals) ∧ (∀ b ∈ a :: W', ∀ p ∈ Led, p.1 ≠ b) ∧ (∀ b ∈ a :: W', h₀.get? b = none) ∧ AllBare G' ∧ a ∉ W' ∧ i ≤ xt.cps.size ∧ k = xt.cps.size + 1 - i) ?_ (xt.cps.size + 1)
    ⟨s.heap, s.toks, s.gens, m₀, W, 0, rfl, F, N, ⟨c₀, rfl, trivial, hk, fun _ _ _ _ => rfl, by simpa using hP⟩, by simpa using G, hWL, hWN, hW0, hb, haW, Nat.zero_le _, rfl⟩
  rintro k s' ⟨h, tk, G', m', W', i, rfl, F', N', hJ, ⟨his, gs, hgs, hgo⟩, hWL', hWN', hW0', hb', haW', hi, rfl⟩
  have hal : ∀ x : GenState, Alike h₀ W' h (({ s with heap := h, toks := tk, gens := G' } : Shared).setGen g x).heap := fun _ => ⟨fun _ _ _ e => e, F'.keep⟩
  by_cases hlt : i < xt.cps.size
  · obtain ⟨k', hk'⟩ : ∃ k', xt.cps.size - i = k' + 1 := ⟨xt.cps.size - i - 1, by omega⟩
    rw [hk'] at hgo
    refine next_item (k := k') (hlim.keeps F'.keep) hroom his hgs (hgo _ (hal _)) fun s₁ T j n t t' W'' gs' hK hbare hj hn hT hW'' hnext => ?_
    obtain ⟨⟨h₁, tk₁, rfl⟩, hK⟩ := hK
    have hji : j = i := by omega
    subst hji
    replace hK : ∀ b o, b ∉ W' → h.get? b = some o → h₁.get? b = some o := hK
    replace hT : h₁.IsTuple T #[.int (j : Nat) t, .str ⟨#[n]⟩ t'] := hT
    replace hW'' : ∀ b ∈ W'', b ∈ W' ∨ h.get? b = none := hW''
    have his₁ : h₁.IsGen a g := by obtain ⟨o, nm, qn, ho, r⟩ := his; exact ⟨o, nm, qn, hK a o haW' ho, r⟩
    refine letOwned_gen his₁ ?_
    refine wpAny_assign_Tuple hh hT rfl rfl fun h₂ hx₂ => ?_
    replace hx₂ : Heap.ExtBut h₁.objs.size h₁ h₂ := hx₂
    have up₂ : ∀ b o, h₁.get? b = some o → h₂.get? b = some o := fun b o e => hx₂ b o (Nat.ne_of_lt (Heap.lt_size e)) e
    have kp : ∀ b o, b ∉ W' → h.get? b = some o → h₂.get? b = some o := fun b o hbw e => up₂ b o (hK b o hbw e)
    have F₂ : Fr h₀ env.locals h₂ m' := ⟨F'.ns.at fun o e => kp _ o (fun q => hWL' _ (List.mem_cons_of_mem _ q) rfl) e, fun b o e => kp b o (fun q => by rw [hW0' b (List.mem_cons_of_mem _ q)] at e; cases e) (F'.keep b o e), F'.above⟩
    have N₂ : News h₀ env.locals h₂ Led := fun p hp => ⟨kp p.1 p.2 (fun q => hWN' _ (List.mem_cons_of_mem _ q) p hp rfl) (N' p hp).1, (N' p hp).2⟩
    show wpAny _ _ (do holding [.str ⟨#[n]⟩ t'] (assign (.Name xi pi) env (.int (j : Nat) t)); do holding [] (assign (.Name xc pc) env (.str ⟨#[n]⟩ t')); pure ()) _ _ _
    refine wpAny_bind (wpAny_holding (wpAny_assign_Name (wpAny_storeName_local hxi F₂.ns (fun h₃ hn₃ hs₃ => ?_) hpk)))
    replace hs₃ : Heap.SameBut env.locals h₂ h₃ := hs₃
    have F₃ := F₂.set hn₃ hs₃
    refine wpAny_bind (wpAny_holding (wpAny_assign_Name (wpAny_storeName_local hxc F₃.ns (fun h₄ hn₄ hs₄ => wpAny_pure ?_) hpk)))
    replace hs₄ : Heap.SameBut env.locals h₃ h₄ := hs₄
    have F₄ := F₃.set hn₄ hs₄
    have N₄ : News h₀ env.locals h₄ Led := (N₂.set hs₃).set hs₄
    have up₄ : ∀ b o, b ≠ env.locals → h₁.get? b = some o → h₄.get? b = some o := fun b o hbl e => hs₄.extBut b o hbl (hs₃.extBut b o hbl (up₂ b o e))
    obtain ⟨oL, hoL⟩ : ∃ o, h.get? env.locals = some o := by obtain ⟨o, _, _, ho, _⟩ := F'.ns; exact ⟨o, ho⟩
    obtain ⟨oa, hoa⟩ : ∃ o, h.get? a = some o := by obtain ⟨o, _, _, ho, _⟩ := his; exact ⟨o, ho⟩
    have nw : ∀ b o, h.get? b = some o → b ∉ W' → b ∉ W'' := fun b o e hbw q => by
      rcases hW'' b q with r | r
      · exact hbw r
      · rw [r] at e; cases e
    have hWL'' : ∀ b ∈ a :: W'', b ≠ env.locals := fun b q e => by
      rcases List.mem_cons.mp q with r | r
      · exact hWL' b (r ▸ List.mem_cons_self ..) e
      · subst e
        exact nw _ oL hoL (fun q => hWL' _ (List.mem_cons_of_mem _ q) rfl) r
    have hWN'' : ∀ b ∈ a :: W'', ∀ p ∈ Led, p.1 ≠ b := fun b q p hp e => by
      rcases List.mem_cons.mp q with r | r
      · exact hWN' b (r ▸ List.mem_cons_self ..) p hp e
      · subst e
        exact nw _ _ (N' p hp).1 (fun q => hWN' _ (List.mem_cons_of_mem _ q) p hp rfl) r
    have hW0'' : ∀ b ∈ a :: W'', h₀.get? b = none := fun b q => by
      rcases List.mem_cons.mp q with r | r
      · exact hW0' b (r ▸ List.mem_cons_self ..)
      · rcases hW'' b r with r' | r'
        · exact hW0' b (List.mem_cons_of_mem _ r')
        · cases e : h₀.get? b with
          | none => rfl
          | some o => have := F'.keep b o e; rw [r'] at this; cases this
    have haW'' : a ∉ W'' := nw a oa hoa haW'
    have hLf : env.locals ∉ a :: W'' := fun q => hWL'' _ q rfl
    have Nown : News h₀ env.locals h₄ (ownOf h₀ (a :: W'') h₄) := news_ownOf hLf
    have hoff : OwnOff (ownOf h₀ (a :: W'') h₄) (Led.map (·.1)) := fun p hp b hb e => by
      obtain ⟨q, hq, rfl⟩ := List.mem_map.mp hb
      exact hWN'' p.1 (ownOf_sub p hp) q hq e.symm
    have hn' := KStt.code_at hn
    have hs' : (KStt.codes xt).take (j + 1) = (KStt.codes xt).take j ++ [(n : Int)] := by simp [List.take_add_one, hn']
    have e : KStt.codes xt = (KStt.codes xt).take j ++ (n : Int) :: (KStt.codes xt).drop (j + 1) := by
      have ht := List.take_append_drop (j + 1) (KStt.codes xt)
      rw [hs', List.append_assoc] at ht
      exact ht.symm
    obtain ⟨c, _, _, h1, h2, hp⟩ := hJ
    have g1 : ∀ p ∈ ps c, (fun y => if y = xi then some (Value.int (j : Nat) t) else m' y) p.1 = some p.2 := fun p hp => by
      show (if p.1 = xi then _ else m' p.1) = _
      rw [if_neg (hpx c p hp)]; exact h1 p hp
    have g2 : ∀ z, z ≠ xc → (∀ p ∈ ps c, z ≠ p.1) → stored.contains z = false → (fun y => if y = xi then some (Value.int (j : Nat) t) else m' y) z = m₀ z := fun z hz hz' hs => by
      have : z ≠ xi := fun q => by rw [q, hst] at hs; cases hs
      show (if z = xi then _ else m' z) = _
      rw [if_neg this]; exact h2 z hz hz' hs
    refine wpAny_passesOwn hE (wpAny_mono (turn c _ _ n t' _ h₄ _ (ownOf h₀ (a :: W'') h₄) _ e (bare_set (bare_set hb' rfl) hbare) hoff hp (kst_fr g1 g2 F₄) (N₄.append Nown)) (fun f s₂ q => ?_) fun _ _ r => r)
    have own₅ : ∀ {h' : Heap} {news' : List (Addr × Obj)}, News h₀ env.locals h' news' → (∀ p ∈ ownOf h₀ (a :: W'') h₄, p ∈ news') → ∀ b ∈ a :: W'', ∀ o, h₁.get? b = some o → h'.get? b = some o :=
      fun N₅ ho b hb o e => (N₅ _ (ho _ (mem_ownOf hb (hW0'' b hb) (up₄ b o (hWL'' b hb) e)))).1
    cases f with
    | ret v => exact q
    | brk => exact q
    | _ =>
      obtain ⟨h', tk', m'', news', nx, rfl, F₅, N₅, hn5, ho5, ha5, hm5⟩ := q
      obtain ⟨c', rfl, r⟩ := hm5
      refine ⟨xt.cps.size + 1 - (j + 1), by omega, h', tk', _, m'', W'', j + 1, rfl, F₅, fun p hp => N₅ p (hn5 p hp), hs' ▸ ⟨c', rfl, r⟩, ⟨?_, gs', ?_, ?_⟩, hWL'', hWN'', hW0'', bare_set (bare_set hb' rfl) hbare, haW'', hlt, rfl⟩
      · obtain ⟨o, nm, qn, ho, r⟩ := his₁
        exact ⟨o, nm, qn, own₅ N₅ ho5 a (List.mem_cons_self ..) o ho, r⟩
      · exact setGen_self (s := Shared.setGen { s with heap := h, toks := tk, gens := G' } g .running) (gs := .running) (x := gs') (setGen_self hgs)
      · intro s'' al
        have hk'' : xt.cps.size - (j + 1) = k' := by omega
        rw [hk'']
        exact hnext s'' ⟨fun b hb o e => al.1 b hb o (own₅ N₅ ho5 b (List.mem_cons_of_mem _ hb) o e), al.2⟩
  · have hin : i = xt.cps.size := by omega
    subst hin
    rw [Nat.sub_self] at hgo
    refine next_done hh (hlim.keeps F'.keep) hroom his hgs (hgo _ (hal _)) fun s₁ h' hK hk' => ?_
    obtain ⟨⟨h₁, tk₁, rfl⟩, hK⟩ := hK
    refine wpAny_execs_nil ?_
    obtain ⟨c, _, _, h1, h2, hp⟩ := hJ
    have hl : xt.cps.size = (KStt.codes xt).length := (KStt.codes_length xt).symm
    rw [hl, List.take_length] at hp
    have kp : ∀ b o, b ∉ W' → h.get? b = some o → h'.get? b = some o := fun b o hbw e => hk' b o (hK b o hbw e)
    have F₁ : Fr h₀ env.locals h' m' := ⟨F'.ns.at fun o e => kp _ o (fun q => hWL' _ (List.mem_cons_of_mem _ q) rfl) e, fun b o e => kp b o (fun q => by rw [hW0' b (List.mem_cons_of_mem _ q)] at e; cases e) (F'.keep b o e), F'.above⟩
    refine done c m' h' tk₁ _ (bare_set (bare_set hb' rfl) rfl) hp (kst_frOut h1 h2 F₁) fun p hp => ⟨kp p.1 p.2 (fun q => hWN' _ (List.mem_cons_of_mem _ q) p hp rfl) (N' p hp).1, (N' p hp).2⟩
end
end
section
theorem code_gen {prog : Program} {w : World} {A : Around} {s : Shared} {R : Result → Shared → Prop} {K : Frag} {h₀ : Heap} {L : Addr} {m : Str → Option Value}
    {name qual : Str} {params : Arguments} {body : List Stmt} {scope : Scope} {dV kV doc pm cdv ct oc : Value} {an od : Option Addr} {osl : Array (Option Value)} {f : Addr} {args : Args} {binds : List (Str × Value)}
    (F : Fr h₀ L s.heap m) (X₀ : K.In h₀) (hlim : h₀.NoLimit)
    (ho : K.lookup f = some ⟨oc, od, .func (fnOf name qual params body scope dV kV doc pm an cdv ct), osl⟩) (hcd : codeIn K cdv qual = true) (hroom : A.depth < recursionLimit)
    (hbind : BindsTo s (fnOf name qual params body scope dV kV doc pm an cdv ct) args binds) (hloc : ∀ y ∈ binds, scope.names.lookup y.1 = some .local)
    (h : ∀ h₁ : Heap, h₁.Ns s.heap.objs.size (fun x => binds.reverse.lookup x) → (∀ b o, s.heap.get? b = some o → h₁.get? b = some o) → ∀ tk ob, ob.isFreed = false → ob.cls = .type "generator" → (∃ nm qn, ob.data = .fields #[.int s.gens.size 0, nm, qn]) → ob.slots = #[] →
      R (.ok (.ret (.ref h₁.objs.size))) { s with heap := h₁.push ob, gens := s.gens.push (.fresh (.func body (envOf qual scope s.heap.objs.size f cdv))), toks := tk })
    (hco : scope.isCoroutine = false) (hgen : scope.isGenerator = true) (hk : scope.kind = .function) (hcell : ∀ x ∈ scope.names, x.2 ≠ .cell) :
    codeAny (model prog w) A (.call (.ref f) args) R s :=
  codeAny_call_gen (fd := fnOf name qual params body scope dV kV doc pm an cdv ct) hroom ((X₀.keeps F.keep) _ _ ho) rfl (hlim.keeps F.keep) (codeRec_of (X₀.keeps F.keep) hcd) rfl hbind hcell hloc h hco hgen hk
set_option maxRecDepth 100000 in
set_option maxHeartbeats 8000000 in
theorem gen_call {w : World} {p : Program} {loose : List Str} {mean : ExcName → Option Value} {mg mb : Str → Option Value}
  {A : Around} {h₀ : Heap} {L : Addr} {m : Str → Option Value} {s : Shared} {Q : Value → Shared → Prop} {E : Value → Shared → Prop} {news : List (Addr × Obj)}
  (F : Fr h₀ L s.heap m) (X : (hd.heap_39 w.params).In h₀) (N : News h₀ L s.heap news) (T : Top p loose mean mg mb h₀)
  (hroom : A.depth < recursionLimit) (x : Str) (t : Tok) (hx : ∀ (i n : Nat), x.cps[i]? = some n → n ≠ 92) (hasc : x.cps.all (· < 128) = true)
  (hret : ∀ a g W h' tk' G', Fr h₀ L h' m → News h₀ L h' news → (AllBare s.gens → AllBare G') →
    (∀ A' : Around, A'.handled = none → GenAt (PySem.Challenge.rw_gl0007_01.row.prog) w A' h₀ x x.cps.size W a g { s with heap := h', toks := tk', gens := G' }) →
    (∀ b ∈ a :: W, b ≠ L) → (∀ b ∈ a :: W, ∀ p ∈ news, p.1 ≠ b) → (∀ b ∈ a :: W, h₀.get? b = none) → a ∉ W → Q (.ref a) { s with heap := h', toks := tk', gens := G' }) :
  wpAny (model PySem.Challenge.rw_gl0007_01.row.prog w) A (call (.ref 21) [.str x t]) Q E s := by
  k_with_none
  w_top off
  revert X; k_fill; intro X
  refine wpAny_call ?_
  k_dflt (refine' code_gen ?k1 ?k2 ?k3 ?k6 ?k7 hroom ?k9 ?kB ?_ ?c2 ?c3 ?c4 ?c5; (case k1 => exact F); (case k2 => exact X); (case k3 => exact T.nolimit); (case k6 => k_is); (case k7 => k_is); (case k9 => exact BindsTo.of_eq rfl); (case kB => exact locs rfl); (case c2 => exact rfl); (case c3 => exact rfl); (case c4 => exact rfl); (case c5 => decide))
  intro h₁ hn₁ hk₁ tk ob hob hoc hod hos
  obtain ⟨nm, qn, hod⟩ := hod
  have hlt : @LT.lt Nat _ s.heap.objs.size h₁.objs.size := hn₁.lt
  have hab : @LE.le Nat _ h₀.objs.size L := F.above
  have hLs : @LT.lt Nat _ L s.heap.objs.size := F.ns.lt
  have up : ∀ b o, s.heap.get? b = some o → (h₁.push ob).get? b = some o := fun b o e => Heap.get?_push_of_some _ (hk₁ b o e)
  have hnew : ∀ b ∈ [h₁.objs.size, s.heap.objs.size], s.heap.get? b = none := by
    intro b hb
    rcases List.mem_cons.mp hb with rfl | hb
    · exact Heap.get?_none_of_le (Nat.le_of_lt hlt)
    · rw [List.mem_singleton.mp hb]; exact Heap.get?_none_of_le (Nat.le_refl _)
  obtain ⟨oL, hoL⟩ : ∃ o, s.heap.get? L = some o := by obtain ⟨o, _, _, ho, _⟩ := F.ns; exact ⟨o, ho⟩
  refine hret h₁.objs.size s.gens.size [s.heap.objs.size] (h₁.push ob) tk _ ⟨F.ns.at fun o e => up _ o e, fun b o e => up b o (F.keep b o e), F.above⟩ (fun p hp => ⟨up _ _ (N p hp).1, (N p hp).2⟩) (fun hb => hb.push rfl)
    (fun A' hA' => ⟨⟨ob, nm, qn, Heap.get?_push_size _ hob, hoc, hod, hos⟩, _, Array.getElem?_push_size .., fun s'' al => goes_iff.mpr ⟨_, _, _, .inl ⟨rfl, rfl, rfl⟩, ?_⟩⟩) ?_ ?_ ?_ ?_
  · have F'' : Fr h₀ s.heap.objs.size s''.heap _ := ⟨hn₁.at fun o e => al.1 _ (by simp) o (Heap.get?_push_of_some _ e), al.2, Nat.le_of_lt (Nat.lt_of_le_of_lt hab hLs)⟩
    k_dflt (refine' gen_goes hA' ?g1 ?g2 ?g3 ?g4 ?g5 ?g6 ?g7 hx hasc F'' ?g8)
    case g7 => exact fun A' s' Q E ⟨m', F'⟩ hQ => name_B F' X (topRead_of T) (by k_is) (by boot_by_name) (by decide) hQ
    case g8 => exact (rfl : _ = some (Value.str x t))
    all_goals exact rfl
  · intro b hb e
    have := hnew b hb
    rw [e, hoL] at this; cases this
  · intro b hb p hp e
    have := hnew b hb
    rw [← e, (N p hp).1] at this; cases this
  · intro b hb
    cases e : h₀.get? b with
    | none => rfl
    | some o => have z := F.keep b o e; rw [hnew b hb] at z; cases z
  · intro q
    exact absurd (List.mem_singleton.mp q) (Nat.ne_of_gt hlt)
end
section
theorem quote_none {x : Str} (hx : ∀ (i n : Nat), x.cps[i]? = some n → n ≠ 92 ∧ n ≠ 34 ∧ n < 128) : (Builtin.Str.occurrences x (Str.ofString "\"") 0 x.length 1).isEmpty = true := by
  have h := StrLaws.found_one x 34
  rw [show (⟨#[34]⟩ : Str) = Str.ofString "\"" from by decide +kernel] at h
  have : ¬ 34 ∈ x.cps.toList := fun q => by
    obtain ⟨i, hi⟩ := List.mem_iff_getElem?.mp q
    exact (hx i 34 (by simpa using hi)).2.1 rfl
  rw [decide_eq_false this] at h
  simpa using h
theorem all_ascii {x : Str} (hx : ∀ (i n : Nat), x.cps[i]? = some n → n ≠ 92 ∧ n ≠ 34 ∧ n < 128) : x.cps.all (· < 128) = true := by
  rw [Array.all_eq_true]
  intro i hi
  exact decide_eq_true (hx i _ (Array.getElem?_eq_getElem hi)).2.2
set_option maxRecDepth 100000 in
set_option maxHeartbeats 8000000 in
theorem check_call {w : World} {p : Program} {loose : List Str} {mean : ExcName → Option Value} {mg mb : Str → Option Value}
  (dp un : Nat) (gd : Option (List Code)) (cn : Str) (cs : Scope) (a : Addr) (ccd : Value) (cl : List (Str × Addr)) (outer : List Env) (A₀ : Around) (base h₀ : Heap) (L : Addr) (m : Str → Option Value) (s : Shared) (Q : Value → Shared → Prop) (E : Value → Shared → Prop) (news : List (Addr × Obj))
  (B : Below A₀ base outer h₀) (F : Fr h₀ L s.heap m) (X : (hd.heap_39 w.params).In h₀) (N : News h₀ L s.heap news) (T : Top p loose mean mg mb h₀) (hk : cs.kind = .function)
  (hd : dp < 500) (hu : un < 500) (x : Str) (t : Tok) (hx : ∀ (i n : Nat), x.cps[i]? = some n → n ≠ 92 ∧ n ≠ 34 ∧ n < 128) (hb : AllBare s.gens)
  (hret : ∀ h' tk' G', Fr h₀ L h' m → News h₀ L h' news → AllBare G' → Q (.bool (closes x)) { s with heap := h', toks := tk', gens := G' }) :
  wpAny (model PySem.Challenge.rw_gl0007_01.row.prog w) (ktrTop dp un gd cn cs L a ccd cl outer) (call (.ref 35) [.str x t]) Q E s := by
  k_with_none
  w_top off
  k_with "ite" => (refine ite_pos (by with_reducible assumption) ?_)
  k_with "exec For" => ((with_reducible show wpAny _ _ (exec (Stmt.For (Expr.Tuple _ _ _) _ _ _ _) _) _ _ _); refine wpAny_For ?_)
  revert X; k_fill; intro X
  have hq := quote_none hx
  refine wpAny_call ?_
  k_dflt cell_enter
  k_steps
  k_dflt (refine' gen_call ?k1 ?k2 ?k3 ?k4 ?k5 x t (fun i n e => (hx i n e).1) (all_ascii hx) ?_; (case k1 => k_asm); (case k2 => k_asm); (case k3 => k_asm); (case k4 => k_asm); (case k5 => k_room))
  intro ga gg gW gh gtk gG gF gN ghG gGA gwL gwN gw0 ghaW
  dsimp only
  refine wpAny_pyIter_gen (gGA callerA rfl).is ?_
  k_dflt (refine' gen_loop (σ := Int × Tok) news (fun c => [(Str.ofString "opens", .int c.1 c.2)]) [Str.ofString "pos"] (fun pre c => Deep pre c.1) ?a1 ?a2 ?a3 ?a4 ?a5 ?a6 ?a7 gF gN ?a8 (gGA _ rfl) gwL gwN gw0 ?b4 ?b5 (ghG hb) ghaW ?_ ?_)
  case a8 => exact ⟨(0, _), List.forall_mem_cons.mpr ⟨rfl, fun _ h => nomatch h⟩, Deep.nil⟩
  case a1 => exact rfl
  case a2 => exact Top.nolimit (by assumption)
  case a3 => k_room
  case a4 => exact rfl
  case a5 => exact rfl
  case a6 => exact rfl
  case a7 => passes_own
  case b4 => decide +kernel
  case b5 => exact fun c => List.forall_mem_cons.mpr ⟨(by decide +kernel : Str.ofString "opens" ≠ Str.ofString "pos"), fun _ h => nomatch h⟩
  · rintro ⟨d, td⟩ pre post n tn u h tk own G' e hb' hoff hp F N
    have kMark := kstMark
    dsimp only [kstB] at F
    dsimp only at hp
    k_with "state" => first | exact Deep.open (by assumption) (by assumption) | exact Deep.shutting (by assumption) (by assumption) (by assumption) | exact Deep.skip (by assumption) (by assumption) (by assumption) | assumption
    k_steps
    all_goals first
      | (rw [← Deep.broken (by assumption) (by assumption) (by assumption) (by assumption)]; exact hret _ _ _ (by assumption) (cb_drop (by assumption) fun p hp => List.mem_append_left _ hp) (by assumption))
      | (have q1 := Deep.shutting hp (by assumption) (by assumption) (by assumption); kst_close)
  · rintro ⟨d, td⟩ u h tk G' hb' hp F N
    dsimp only [kstB] at F
    dsimp only at hp
    k_steps
    all_goals first
      | (rw [← Deep.whole (by assumption)]; exact hret _ _ _ (by assumption) (by assumption) (by assumption))
end
section
/-- where a step of the law's own leaves things: its frame and its ledger stand, no generator holds a cleanup -/
def Stands (h₀ : Heap) (L : Addr) (m : PySem.Str → Option Value) (led : List (Addr × Obj)) (s s' : Shared) : Prop :=
  ∃ h tk G, s' = { s with heap := h, toks := tk, gens := G } ∧ Fr h₀ L h m ∧ News h₀ L h led ∧ AllBare G
section
variable {prog : Program} {w : World} {A : Around} {R : Result → Shared → Prop} {s : Shared}

theorem compLoop_G {elt iter : PySem.Expr} {x : PySem.Str} {px : Pos} {ifs : List PySem.Expr} {scope : Scope} {pos : Pos} {I D : Addr} {fp wr : List Addr} {n : Nat} {P : Nat → Value → Prop} {St : Nat → Heap → Prop}
    {cenv : Env} {mC : PySem.Str → Option Value} {h₀ : Heap} {L : Addr} {m : PySem.Str → Option Value} {news : List (Addr × Obj)} (W : Walks prog w A I fp wr n P St) (p : Value → Bool) (F : Value → Value → Prop)
    (hx : cenv.kindOf x = some .local) (hp : (cenv.scope.kind == .class || (cenv.scope.kind == .module && cenv.locals != cenv.globals)) = false)
    (hDC : D ≠ cenv.locals) (hDf : D ∉ fp) (hCf : cenv.locals ∉ fp) (hLC : L ≠ cenv.locals) (hLD : L ≠ D) (hLf : L ∉ fp)
    (hD0 : h₀.get? D = none) (hC0 : h₀.get? cenv.locals = none) (hwr0 : ∀ b ∈ wr, h₀.get? b = none) (hnD : ∀ q ∈ news, q.1 ≠ D) (hnC : ∀ q ∈ news, q.1 ≠ cenv.locals) (hnw : ∀ q ∈ news, q.1 ∉ wr)
    (hst : St 0 s.heap) (hacc : s.heap.PlainList D #[]) (hn : s.heap.Ns cenv.locals mC) (Fr₀ : Fr h₀ L s.heap m) (N₀ : News h₀ L s.heap news) (hb : AllBare s.gens)
    (htests : ∀ i v s₂ own m₂ E', P i v → AllBare s₂.gens → Fr h₀ L s₂.heap m → News h₀ L s₂.heap (news ++ own) → s₂.heap.Ns cenv.locals m₂ → m₂ x = some v → (∀ o, s₂.heap.get? cenv.locals = some o → (cenv.locals, o) ∈ news ++ own) →
      wpAny (model prog w) A (forIn ifs true fun c r => if r = true then do let ok ← isTrue c cenv (eval c cenv); pure (ForInStep.yield ok) else pure (ForInStep.yield r))
        (fun ok s₃ => ok = p v ∧ Stands h₀ L m (news ++ own) s₂ s₃) E' s₂)
    (helt : ∀ i v s₂ own m₂ E', P i v → p v = true → AllBare s₂.gens → Fr h₀ L s₂.heap m → News h₀ L s₂.heap (news ++ own) → s₂.heap.Ns cenv.locals m₂ → m₂ x = some v → (∀ o, s₂.heap.get? cenv.locals = some o → (cenv.locals, o) ∈ news ++ own) →
      wpAny (model prog w) A (eval elt cenv) (fun y s₃ => F v y ∧ Stands h₀ L m (news ++ own) s₂ s₃) E' s₂)
    (hR : ∀ h' tk G mC' ys (vs : List Value), h'.Ns cenv.locals mC' → h'.PlainList D ys → vs.length = n → (∀ j v, vs[j]? = some v → P j v) → Paired F (vs.filter p) ys.toList →
      Fr h₀ L h' m → News h₀ L h' news → AllBare G → R (.ok .next) { s with heap := h', toks := tk, gens := G })
    (hsz : n ≤ sizeLine) :
    codeAny (model prog w) A (.compLoop (.ListComp elt [⟨.Name x px, iter, ifs, 0⟩] scope pos) 0 (.ref I) (.ref D) cenv) R s := by
  refine codeAny_compLoop_tests
    (fun k s' => ∃ h' tk G mC' ys, ∃ vs : List Value, s' = { s with heap := h', toks := tk, gens := G } ∧ St vs.length h' ∧ h'.PlainList D ys ∧ h'.Ns cenv.locals mC' ∧ (∀ j v, vs[j]? = some v → P j v) ∧
      Paired F (vs.filter p) ys.toList ∧ vs.length ≤ n ∧ k = n + 1 - vs.length ∧ Fr h₀ L h' m ∧ News h₀ L h' news ∧ AllBare G) ?_ (n + 1)
    ⟨s.heap, s.toks, s.gens, mC, #[], [], rfl, hst, hacc, hn, by simp, by simpa using Paired.nil, Nat.zero_le _, rfl, Fr₀, N₀, hb⟩
  rintro k s' ⟨H, tk, G, mC', ys, vs, rfl, hst', hacc', hn', hP, hF, hi, rfl, F', N', hb'⟩
  have hCw : cenv.locals ∉ wr := fun h => hCf (W.sub _ h)
  have hDw : D ∉ wr := fun h => hDf (W.sub _ h)
  have hLw : L ∉ wr := fun h => hLf (W.sub _ h)
  have old : ∀ {h₁ : Heap}, (∀ b o, b ∉ wr → H.get? b = some o → h₁.get? b = some o) → Fr h₀ L h₁ m ∧ News h₀ L h₁ news := fun hk₁ =>
    ⟨⟨F'.ns.at' fun o e => hk₁ _ o hLw e, fun b o e => hk₁ b o (fun q => by rw [hwr0 b q] at e; cases e) (F'.keep b o e), F'.above⟩, fun q hq => ⟨hk₁ _ _ (hnw q hq) (N' q hq).1, (N' q hq).2⟩⟩
  by_cases hlt : vs.length < n
  · refine W.item vs.length _ _ _ hlt hst' fun v h₁ tk₁ hPv hst₁ hk₁ => ?_
    obtain ⟨F₁, N₁⟩ := old hk₁
    refine wpAny_assign_Name (wpAny_storeName_local hx (hn'.at' fun o e => hk₁ _ o hCw e) (fun h₂ hn₂ hs₂ => ?_) hp)
    replace hs₂ : Heap.SameBut cenv.locals h₁ h₂ := hs₂
    have hst₂ : St (vs.length + 1) h₂ := W.frame _ _ _ hst₁ fun b hb o e => hs₂.extBut b o (fun h => hCf (h ▸ hb)) e
    have F₂ : Fr h₀ L h₂ m := ⟨F₁.ns.at' fun o e => hs₂.extBut _ o hLC e, fun b o e => hs₂.extBut b o (fun q => by rw [q, hC0] at e; cases e) (F₁.keep b o e), F₁.above⟩
    have N₂ : News h₀ L h₂ news := fun q hq => ⟨hs₂.extBut _ _ (hnC q hq) (N₁ q hq).1, (N₁ q hq).2⟩
    have hacc₂ : h₂.PlainList D ys := hacc'.at fun o e => hs₂.extBut _ o hDC (hk₁ _ o hDw e)
    have hLo : L ∉ D :: cenv.locals :: fp := fun q => by
      rcases List.mem_cons.mp q with r | q
      · exact hLD r
      · rcases List.mem_cons.mp q with r | q
        · exact hLC r
        · exact hLf q
    have Nown : News h₀ L h₂ (ownOf h₀ (D :: cenv.locals :: fp) h₂) := news_ownOf hLo
    have inOwn : ∀ b ∈ D :: cenv.locals :: fp, h₀.get? b = none → ∀ o, h₂.get? b = some o → (b, o) ∈ news ++ ownOf h₀ (D :: cenv.locals :: fp) h₂ := fun b hb hz o e => List.mem_append_right _ (mem_ownOf hb hz e)
    have after : ∀ {h₃ : Heap}, Fr h₀ L h₃ m → News h₀ L h₃ (news ++ ownOf h₀ (D :: cenv.locals :: fp) h₂) → ∀ b ∈ D :: cenv.locals :: fp, ∀ o, h₂.get? b = some o → h₃.get? b = some o := fun F₃ N₃ b hb o e => by
      cases hz : h₀.get? b with
      | none => exact (N₃ _ (inOwn b hb hz o e)).1
      | some o' =>
        have q := F₂.keep b o' hz
        rw [e] at q; cases q
        exact F₃.keep b o hz
    refine wpAny_mono (htests vs.length v _ (ownOf h₀ (D :: cenv.locals :: fp) h₂) _ _ hPv hb' F₂ (N₂.append Nown) hn₂ (by simp) (inOwn _ (by simp) hC0)) (fun ok s₃ h₃ => ?_) fun _ _ e => e
    obtain ⟨rfl, h₃, tk₃, G₃, rfl, F₃, N₃, hb₃⟩ := h₃
    have a₃ := after F₃ N₃
    have hst₃ : St (vs.length + 1) h₃ := W.frame _ _ _ hst₂ fun b hb o e => a₃ b (by simp [hb]) o e
    have hacc₃ : h₃.PlainList D ys := hacc₂.at fun o e => a₃ D (by simp) o e
    have hn₃ := hn₂.at' fun o e => a₃ cenv.locals (by simp) o e
    have hP' : ∀ j u, (vs ++ [v])[j]? = some u → P j u := fun j u hj => by
      rcases Nat.lt_trichotomy j vs.length with h | h | h
      · exact hP j u (by rwa [List.getElem?_append_left h] at hj)
      · subst h; simp at hj; subst hj; exact hPv
      · have hnone : (vs ++ [v])[j]? = none := List.getElem?_eq_none (by rw [List.length_append, List.length_singleton]; omega)
        rw [hnone] at hj; cases hj
    cases hpv : p v with
    | false =>
      simp only [Bool.false_eq_true, if_false]
      refine ⟨n + 1 - (vs.length + 1), by omega, h₃, tk₃, G₃, _, ys, vs ++ [v], rfl, by simpa using hst₃, hacc₃, hn₃, hP', ?_, (by rw [List.length_append, List.length_singleton]; exact hlt), (by rw [List.length_append, List.length_singleton]), F₃, fun q hq => N₃ q (List.mem_append_left _ hq), hb₃⟩
      rw [List.filter_append]; simpa [hpv] using hF
    | true =>
      simp only [if_true]
      refine wpAny_mono (helt vs.length v _ (ownOf h₀ (D :: cenv.locals :: fp) h₂) _ _ hPv hpv hb₃ F₃ N₃ hn₃ (by simp) (fun o e => ?_)) (fun y s₄ h₄ => ?_) fun _ _ e => e
      · obtain ⟨o', ho'⟩ : ∃ o', h₂.get? cenv.locals = some o' := by obtain ⟨o', _, _, q, _⟩ := hn₂; exact ⟨o', q⟩
        have z := a₃ cenv.locals (by simp) o' ho'
        have q : o = o' := Option.some.inj (e.symm.trans z)
        rw [q]; exact inOwn _ (by simp) hC0 o' ho'
      obtain ⟨hFy, h₄, tk₄, G₄, rfl, F₄, N₄, hb₄⟩ := h₄
      have a₄ := after F₄ N₄
      have hys : ys.size ≤ sizeLine := by
        have e1 := hF.length
        have e2 : (vs.filter p).length ≤ vs.length := List.length_filter_le _ _
        have e4 : ys.toList.length = ys.size := by simp
        omega
      refine wpAny_list_append_plain (hsz := hys) (hacc₂.at fun o e => a₄ D (by simp) o e) fun h₅ hl₅ hs₅ => ?_
      replace hs₅ : Heap.SameBut D h₄ h₅ := hs₅
      refine ⟨n + 1 - (vs.length + 1), by omega, h₅, tk₄, G₄, _, ys.push y, vs ++ [v], rfl, ?_, hl₅, (hn₂.at' fun o e => a₄ cenv.locals (by simp) o e).sameBut hs₅ (Ne.symm hDC), hP', ?_, (by rw [List.length_append, List.length_singleton]; exact hlt), (by rw [List.length_append, List.length_singleton]),
        ⟨F₄.ns.at' fun o e => hs₅.extBut _ o hLD e, fun b o e => hs₅.extBut b o (fun q => by rw [q, hD0] at e; cases e) (F₄.keep b o e), F₄.above⟩, fun q hq => ⟨hs₅.extBut _ _ (hnD q hq) (N₄ q (List.mem_append_left _ hq)).1, (N₄ q (List.mem_append_left _ hq)).2⟩, hb₄⟩
      · have := W.frame _ _ h₅ hst₂ fun b hb o e => hs₅.extBut b o (fun h => hDf (h ▸ hb)) (a₄ b (by simp [hb]) o e)
        simpa using this
      · rw [List.filter_append]; simpa [hpv] using Paired.snoc hF hFy
  · have hin : vs.length = n := by omega
    refine W.done _ _ _ (hin ▸ hst') fun h₁ tk₁ hk₁ => ?_
    obtain ⟨F₁, N₁⟩ := old hk₁
    exact hR h₁ tk₁ G _ ys vs (hn'.at' fun o e => hk₁ _ o hCw e) (hacc'.at fun o e => hk₁ _ o hDw e) hin hP hF F₁ N₁ hb'
end
section
variable {prog : Program} {w : World} {A : Around} {E : Value → Shared → Prop} {env : Env} {s : Shared}

theorem comp_G {elt iter : PySem.Expr} {x : PySem.Str} {px : Pos} {ifs : List PySem.Expr} {scope : Scope} {cl : List (PySem.Str × Addr)} {pos : Pos} {h₀ : Heap} {L : Addr} {m : PySem.Str → Option Value} {Q : Value → Shared → Prop}
    (p : Value → Bool) (F : Value → Value → Prop)
    (hclos : closureFor scope env = pure cl) (hcell : ∀ y ∈ scope.names, y.2 ≠ .cell) (hkind : scope.kind = .function)
    (hnames : ∀ y ∈ scope.names, y.2 = .local → scope.names.lookup y.1 = some .local) (hx : scope.names.lookup x = some .local)
    (h : wpAny (model prog w) A (eval iter env) (fun xv s₁ => wpAny (model prog w) A (pyIter xv) (fun it s₂ => ∃ I fp wr n P St news, it = .ref I ∧ Walks prog w A I fp wr n P St ∧ n ≤ sizeLine ∧ St 0 s₂.heap ∧ (∀ b ∈ fp, b < s₂.heap.objs.size) ∧
      L ∉ fp ∧ (∀ b ∈ wr, h₀.get? b = none) ∧ (∀ q ∈ news, q.1 ∉ wr) ∧ Fr h₀ L s₂.heap m ∧ News h₀ L s₂.heap news ∧ AllBare s₂.gens ∧
      (∀ C i v s₃ own m₃ E', P i v → AllBare s₃.gens → Fr h₀ L s₃.heap m → News h₀ L s₃.heap (news ++ own) → s₃.heap.Ns C m₃ → m₃ x = some v → (∀ o, s₃.heap.get? C = some o → (C, o) ∈ news ++ own) →
        wpAny (model prog w) A (forIn ifs true fun c r => if r = true then do let ok ← isTrue c (compEnvC scope cl C env) (eval c (compEnvC scope cl C env)); pure (ForInStep.yield ok) else pure (ForInStep.yield r))
          (fun ok s₄ => ok = p v ∧ Stands h₀ L m (news ++ own) s₃ s₄) E' s₃) ∧
      (∀ C i v s₃ own m₃ E', P i v → p v = true → AllBare s₃.gens → Fr h₀ L s₃.heap m → News h₀ L s₃.heap (news ++ own) → s₃.heap.Ns C m₃ → m₃ x = some v → (∀ o, s₃.heap.get? C = some o → (C, o) ∈ news ++ own) →
        wpAny (model prog w) A (eval elt (compEnvC scope cl C env)) (fun y s₄ => F v y ∧ Stands h₀ L m (news ++ own) s₃ s₄) E' s₃) ∧
      (∀ D h' tk G ys (vs : List Value), h'.PlainList D ys → vs.length = n → (∀ j v, vs[j]? = some v → P j v) → Paired F (vs.filter p) ys.toList → Fr h₀ L h' m → News h₀ L h' news → AllBare G → h₀.get? D = none → D ≠ L → (∀ q ∈ news, q.1 < D) →
        Q (.ref D) { s₂ with heap := h', toks := tk, gens := G })) E s₁) E s)
    (hs : ∀ x, foldedSetIterable iter env x = pure x) :
    wpAny (model prog w) A (eval (.ListComp elt [⟨.Name x px, iter, ifs, 0⟩] scope pos) env) Q E s := by
  rw [eval_ListComp]
  refine wpAny_comprehension_free (use := none) rfl hs hclos hkind hnames (wpAny_mono h (fun xv s₁ h₁ => wpAny_mono h₁ (fun it s₂ h₂ => ?_) fun _ _ e => e) fun _ _ e => e)
  obtain ⟨I, fp, wr, n, P, St, news, rfl, W, hsz, hst, hfp, hLf, hwr0, hnw, F₂, N₂, hb, htests, helt, hQ⟩ := h₂
  refine wpAny_newObj_type (wpAny_newFunctionEnv hcell (by intro y hy; simp at hy) (fun h₁ hns₁ hsb₁ => ?_) hkind)
  dsimp only at hns₁ hsb₁ ⊢
  generalize hH2 : s₂.heap.push { cls := .type "list", dict := none, data := .seq ([] : List Value).toArray } = H2 at hns₁ hsb₁ ⊢
  have hC : H2.objs.size = s₂.heap.objs.size + 1 := by rw [← hH2, Heap.size_push]
  have hDC : s₂.heap.objs.size ≠ H2.objs.size := by rw [hC]; exact Nat.ne_of_lt (Nat.lt_succ_self _)
  have below : ∀ b, b < s₂.heap.objs.size → b ≠ H2.objs.size ∧ b ≠ s₂.heap.objs.size := fun b hb => ⟨by rw [hC]; exact Nat.ne_of_lt (Nat.lt_succ_of_lt hb), Nat.ne_of_lt hb⟩
  have hDf : s₂.heap.objs.size ∉ fp := fun hm => Nat.lt_irrefl _ (hfp _ hm)
  have hCf : H2.objs.size ∉ fp := fun hm => by have := hfp _ hm; rw [hC] at this; exact Nat.lt_irrefl _ (Nat.lt_of_succ_lt this)
  have old : ∀ b o, s₂.heap.get? b = some o → h₁.get? b = some o := fun b o e => hsb₁.extBut b o (below b (Heap.lt_size e)).1 (Heap.get?_push_of_some _ (hH2 ▸ Heap.get?_push_of_some _ e))
  have hacc : h₁.PlainList s₂.heap.objs.size #[] := ⟨_, hsb₁.extBut _ _ hDC (Heap.get?_push_of_some _ (hH2 ▸ Heap.get?_push_size _ rfl))⟩
  have hst₁ : St 0 h₁ := W.frame _ _ _ hst fun b _ o e => old b o e
  have fresh : ∀ a, s₂.heap.objs.size ≤ a → h₀.get? a = none := fun a ha => by
    cases e : h₀.get? a with
    | none => rfl
    | some o' => exact absurd (Heap.lt_size (F₂.keep a o' e)) (Nat.not_lt.mpr ha)
  have hLlt : L < s₂.heap.objs.size := F₂.ns.lt
  have F₁ : Fr h₀ L h₁ m := ⟨F₂.ns.at' fun o e => old _ o e, fun b o e => old b o (F₂.keep b o e), F₂.above⟩
  have N₁ : News h₀ L h₁ news := fun q hq => ⟨old _ _ (N₂ q hq).1, (N₂ q hq).2⟩
  have loop : ∀ s₃ : Shared, s₃ = { s₂ with heap := h₁, toks := s₂.toks + ([] : List (PySem.Str × Value)).length } →
      codeAny (model prog w) A (.compLoop (.ListComp elt [⟨.Name x px, iter, ifs, 0⟩] scope pos) 0 (.ref I) (.ref s₂.heap.objs.size) (compEnvC scope cl H2.objs.size env))
        (compPost (model prog w) A E none Q (.ref s₂.heap.objs.size) H2.objs.size) s₃ := by
    rintro s₃ rfl
    refine compLoop_G (cenv := compEnvC scope cl H2.objs.size env) W p F (lookup_relabel_local hx) (by simp [compEnvC, relabel, hkind]) hDC hDf hCf (below _ hLlt).1 (below _ hLlt).2 hLf
      (fresh _ (Nat.le_refl _)) (fresh _ (by rw [hC]; exact Nat.le_succ _)) hwr0 (fun q hq => (below _ (Heap.lt_size (N₂ q hq).1)).2) (fun q hq => (below _ (Heap.lt_size (N₂ q hq).1)).1) hnw hst₁ hacc hns₁ F₁ N₁ hb
      (fun i v s₃ own m₃ E' => htests _ i v s₃ own m₃ E') (fun i v s₃ own m₃ E' => helt _ i v s₃ own m₃ E') (fun h' tk G mC' ys vs hn' hpl hlen hP hF F' N' hb' => ?_) hsz
    refine ⟨mC', hn', fun h'' hs'' => ?_⟩
    replace hs'' : Heap.SameBut H2.objs.size h' h'' := hs''
    refine hQ _ h'' tk G ys vs (hpl.at fun o e => hs''.extBut _ o hDC e) hlen hP hF ⟨F'.ns.at' fun o e => hs''.extBut _ o (below _ hLlt).1 e, fun b o e => hs''.extBut b o (fun q => ?_) (F'.keep b o e), F'.above⟩
      (fun q hq => ⟨hs''.extBut _ _ (below _ (Heap.lt_size (N₂ q hq).1)).1 (N' q hq).1, (N' q hq).2⟩) hb' (fresh _ (Nat.le_refl _)) (Ne.symm (below _ hLlt).2) (fun q hq => Heap.lt_size (N₂ q hq).1)
    rw [q, fresh _ (by rw [hC]; exact Nat.le_succ _)] at e; cases e
  exact codeAny_compStart_list (loop _ rfl) (W.self 0 _ _ _ hst₁ (loop _ rfl))
end
end
section
theorem strs_at {vs : List Value} {xs : List PySem.Str} (h : PyProof.Rows.StrsAre vs xs) : ∀ {i : Nat} {v : Value}, vs[i]? = some v → ∃ y t, v = .str y t ∧ xs[i]? = some y := by
  induction h with
  | nil => intro i v e; simp at e
  | cons y t _ ih =>
    intro i v e
    cases i with
    | zero => simp at e; exact ⟨y, t, e.symm, rfl⟩
    | succ i => simpa using ih (by simpa using e)
theorem strs_length {vs : List Value} {xs : List PySem.Str} (h : PyProof.Rows.StrsAre vs xs) : vs.length = xs.length := by
  induction h with
  | nil => rfl
  | cons y t _ ih => simp [ih]
def textTest (q : PySem.Str → Bool) : Value → Bool
  | .str y _ => q y
  | _ => false
theorem strs_filter {vs : List Value} {xs : List PySem.Str} (q : PySem.Str → Bool) (h : PyProof.Rows.StrsAre vs xs) : PyProof.Rows.StrsAre (vs.filter (textTest q)) (xs.filter q) := by
  induction h with
  | nil => exact .nil
  | cons y t _ ih =>
    simp only [List.filter_cons]
    show PyProof.Rows.StrsAre (if q y = true then _ else _) _
    split
    · exact .cons y t ih
    · exact ih
theorem paired_eq {l₁ l₂ : List Value} (h : Paired (fun v y => y = v) l₁ l₂) : l₂ = l₁ := by
  induction h with
  | nil => rfl
  | cons e _ ih => rw [e, ih]
section
variable {prog : Program} {w : World} {A : Around} {E : Value → Shared → Prop} {env : Env} {s : Shared}
theorem comp_texts {iter c : PySem.Expr} {x : PySem.Str} {px pe : Pos} {scope : Scope} {cl : List (PySem.Str × Addr)} {pos : Pos} {h₀ : Heap} {L : Addr} {m : PySem.Str → Option Value} {Q : Value → Shared → Prop}
    (q : PySem.Str → Bool) (hh : A.handled = none)
    (hclos : closureFor scope env = pure cl) (hcell : ∀ y ∈ scope.names, y.2 ≠ .cell) (hkind : scope.kind = .function)
    (hnames : ∀ y ∈ scope.names, y.2 = .local → scope.names.lookup y.1 = some .local) (hx : scope.names.lookup x = some .local) (hdb : (x == ("__debug__" : PySem.Str)) = false)
    (h : wpAny (model prog w) A (eval iter env) (fun xv s₁ => ∃ ax vs xs k news, xv = .ref ax ∧ Fr h₀ L s₁.heap m ∧ News h₀ L s₁.heap news ∧ AllBare s₁.gens ∧ (ax, listOf vs.toArray k) ∈ news ∧ PyProof.Rows.StrsAre vs xs ∧ xs.length ≤ sizeLine ∧
      (∀ C y t s₃ own m₃ E', y ∈ xs → AllBare s₃.gens → Fr h₀ L s₃.heap m → News h₀ L s₃.heap (news ++ own) → s₃.heap.Ns C m₃ → m₃ x = some (.str y t) → (∀ o, s₃.heap.get? C = some o → (C, o) ∈ news ++ own) →
        wpAny (model prog w) A (isTrue c (compEnvC scope cl C env) (eval c (compEnvC scope cl C env))) (fun ok s₄ => ok = q y ∧ Stands h₀ L m (news ++ own) s₃ s₄) E' s₃) ∧
      (∀ D h' tk G ys k', Fr h₀ L h' m → News h₀ L h' ((D, listOf ys.toArray k') :: news) → PyProof.Rows.StrsAre ys (xs.filter q) → AllBare G → (∀ p ∈ news, p.1 < D) → Q (.ref D) { s₁ with heap := h', toks := tk, gens := G })) E s)
    (hs : ∀ x, foldedSetIterable iter env x = pure x) :
    wpAny (model prog w) A (eval (.ListComp (.Name x pe) [⟨.Name x px, iter, [c], 0⟩] scope pos) env) Q E s := by
  refine comp_G (h₀ := h₀) (L := L) (m := m) (textTest q) (fun v y => y = v) hclos hcell hkind hnames hx (wpAny_mono h (fun xv s₁ h₁ => ?_) fun _ _ e => e) hs
  obtain ⟨ax, vs, xs, k, news, rfl, F₁, N₁, hb, hm, hS, hlen, ht, hQ⟩ := h₁
  have hget := (N₁ _ hm).1
  have hL : s₁.heap.IsList ax vs.toArray := ⟨_, hget, rfl, k, rfl⟩
  have hax : ax < s₁.heap.objs.size := Heap.lt_size hget
  have hne : ax ≠ s₁.heap.objs.size := Nat.ne_of_lt hax
  refine wpAny_pyIter_list hL ?_
  have W := Walks.list (prog := prog) (w := w) hh s₁.heap.objs.size ax hne vs.toArray
  refine ⟨s₁.heap.objs.size, _, _, _, _, _, news, rfl, W, ?_, ⟨⟨_, Heap.get?_push_size _ rfl, rfl, rfl⟩, hL.at fun o e => Heap.get?_push_of_some _ e⟩, ?_, ?_, ?_, ?_, F₁.push _, (fun p hp => ⟨Heap.get?_push_of_some _ (N₁ p hp).1, (N₁ p hp).2⟩), hb, ?_, ?_, ?_⟩
  · rw [List.size_toArray, strs_length hS]; exact hlen
  · intro b hb
    rw [Heap.size_push]
    rcases List.mem_cons.mp hb with rfl | hb
    · exact Nat.lt_succ_self _
    · rw [List.mem_singleton.mp hb]; exact Nat.lt_succ_of_lt hax
  · intro hq
    rcases List.mem_cons.mp hq with e | hq
    · exact absurd F₁.ns.lt (e ▸ Nat.lt_irrefl _)
    · exact (N₁ _ hm).2.1 (List.mem_singleton.mp hq).symm
  · intro b hb
    rw [List.mem_singleton.mp hb]
    cases e : h₀.get? s₁.heap.objs.size with
    | none => rfl
    | some o => exact absurd (Heap.lt_size (F₁.keep _ o e)) (Nat.lt_irrefl _)
  · intro p hp hq
    exact absurd (Heap.lt_size (N₁ p hp).1) (List.mem_singleton.mp hq ▸ Nat.lt_irrefl _)
  · intro C i v s₃ own m₃ E' hP hb' F' N' hn hv hC
    obtain ⟨y, t, rfl, hy⟩ := strs_at hS (by simpa using hP)
    exact wpAny_tests_one (ht C y t s₃ own m₃ E' (List.mem_of_getElem? hy) hb' F' N' hn hv hC)
  · intro C i v s₃ own m₃ E' hP _ hb' F' N' hn hv hC
    exact wpAny_Name (wpAny_loadName_local hkind (lookup_relabel_local hx) hn hv ⟨rfl, _, _, _, rfl, F', N', hb'⟩) hdb
  · intro D h' tk G ys vs' hpl hlen' hP hF F' N' hb' hD0 hDL hlt
    have e1 : vs' = vs := by
      have hl : vs'.length = vs.length := by rw [hlen', List.size_toArray]
      refine List.ext_getElem? fun i => ?_
      cases e : vs'[i]? with
      | none =>
        have : vs.length ≤ i := by rw [← hl]; exact List.getElem?_eq_none_iff.mp e
        exact (List.getElem?_eq_none this).symm
      | some v => have := hP i v e; exact (by simpa using this : vs[i]? = some v).symm
    subst e1
    obtain ⟨k', hk'⟩ := hpl
    have e2 := paired_eq hF
    refine hQ D h' tk G ys.toList k' F' (fun p hp => ?_) (e2 ▸ strs_filter q hS) hb' hlt
    rcases List.mem_cons.mp hp with rfl | hp
    · exact ⟨by simpa using hk', hDL, hD0⟩
    · exact N' p hp
end
end
section
theorem compTurn_two0 (elt t1 i1 t2 i2 : PySem.Expr) (scope : Scope) (pos : Pos) (it acc : Value) (env : Env) :
    compTurn (.ListComp elt [⟨t1, i1, [], 0⟩, ⟨t2, i2, [], 0⟩] scope pos) 0 it acc env = (do
      standAt i1.pos
      match ← pyNext it with
      | none => pure (.done .next)
      | some v =>
        letOwnedTupleGo t1 it v
        assign t1 env v
        let x ← eval i2 env
        standAt i2.pos
        let x ← foldedSetIterable i2 env x
        let _ ← runOwn (.compStart (.ListComp elt [⟨t1, i1, [], 0⟩, ⟨t2, i2, [], 0⟩] scope pos) 1 (← holding [x] (pyIter x)) acc env) env
        again (.compLoop (.ListComp elt [⟨t1, i1, [], 0⟩, ⟨t2, i2, [], 0⟩] scope pos) 0 it acc env)) := by rfl
theorem compTurn_two1 (elt t1 i1 t2 i2 : PySem.Expr) (scope : Scope) (pos : Pos) (it acc : Value) (env : Env) :
    compTurn (.ListComp elt [⟨t1, i1, [], 0⟩, ⟨t2, i2, [], 0⟩] scope pos) 1 it acc env = (do
      standAt i2.pos
      match ← pyNext it with
      | none => pure (.done .next)
      | some v =>
        letOwnedTupleGo t2 it v
        assign t2 env v
        (do let _ ← call (.builtin "list.append") [acc, ← eval elt env])
        again (.compLoop (.ListComp elt [⟨t1, i1, [], 0⟩, ⟨t2, i2, [], 0⟩] scope pos) 1 it acc env)) := by rfl
section
variable {prog : Program} {w : World} {A : Around} {E : Value → Shared → Prop} {R : Result → Shared → Prop} {s : Shared}
variable {elt t1 i1 t2 i2 : PySem.Expr} {scope : Scope} {pos : Pos} {it acc : Value} {env : Env}
theorem codeAny_two1 (I : Nat → Shared → Prop)
    (turn : ∀ n s, I n s → ∀ E', wpAny (model prog w) A (pyNext it) (fun r s₁ => match r with
      | none => R (.ok .next) s₁
      | some v => wpAny (model prog w) A (assign t2 env v) (fun _ s₂ => wpAny (model prog w) A (eval elt env) (fun x s₄ =>
              wpAny (model prog w) A (call (.builtin "list.append") [acc, x]) (fun _ s₅ => ∃ m, m < n ∧ I m s₅) E' s₄) E' s₂) E' s₁) E' s)
    (n : Nat) (h : I n s) (ht : ∀ v, letOwnedTupleGo t2 it v = pure ()) :
    codeAny (model prog w) A (.compLoop (.ListComp elt [⟨t1, i1, [], 0⟩, ⟨t2, i2, [], 0⟩] scope pos) 1 it acc env) R s := by
  refine codeAny_loop rfl I (fun n s hI => ?_) n h
  show wpAny _ A ((compTurn (.ListComp elt [⟨t1, i1, [], 0⟩, ⟨t2, i2, [], 0⟩] scope pos) 1 it acc env).onRaise (fun x => do noteFrame x env; theTreesLotGoes x)) _ _ s
  refine wpAny_noted ?_
  rw [compTurn_two1]
  refine wpAny_bind (wpAny_standAt (wpAny_bind (wpAny_mono (turn n s hI _) (fun r s₁ h₁ => ?_) fun _ _ h' => h')))
  cases r with
  | none => exact wpAny_pure h₁
  | some v =>
    refine wpAny_bind (wpAny_of_eq (ht v) ?_)
    refine wpAny_bind (wpAny_mono h₁ (fun _ s₂ h₂ => ?_) fun _ _ h' => h')
    exact wpAny_bind (wpAny_bind (wpAny_mono h₂ (fun x s₄ h₄ => wpAny_bind (wpAny_mono h₄ (fun _ s₅ h₅ => wpAny_pure (wpAny_pure ⟨rfl, h₅⟩)) fun _ _ h' => h')) fun _ _ h' => h'))
theorem codeAny_start1 (h0 : codeAny (model prog w) A (.compLoop (.ListComp elt [⟨t1, i1, [], 0⟩, ⟨t2, i2, [], 0⟩] scope pos) 1 it acc env) R s)
    (h : ∀ E', wpAny (model prog w) A (pyIter it) (fun it' s' => codeAny (model prog w) A (.compLoop (.ListComp elt [⟨t1, i1, [], 0⟩, ⟨t2, i2, [], 0⟩] scope pos) 1 it' acc env) R s') E' s) :
    codeAny (model prog w) A (.compStart (.ListComp elt [⟨t1, i1, [], 0⟩, ⟨t2, i2, [], 0⟩] scope pos) 1 it acc env) R s := by
  refine codeAny_of_tree ?_
  show wpAny _ _ ((compStart (.ListComp elt [⟨t1, i1, [], 0⟩, ⟨t2, i2, [], 0⟩] scope pos) 1 it acc env).onRaise (fun x => do noteFrame x env; standAt theWindowsPlace)) _ _ s
  refine wpAny_notedAt ?_
  unfold compStart
  show wpAny _ _ (ask >>= _) _ _ s
  refine wpAny_bind (wpAny_askSetting (wpAny_ite ?_))
  split
  · first
      | exact wpAny_bind (wpAny_pure (wpAny_pure (And.intro rfl h0)))
      | exact wpAny_pure (And.intro rfl h0)
  · first
      | exact wpAny_bind (wpAny_rule (wpAny_bind (wpAny_standAt (wpAny_bind (wpAny_mono (h _) (fun it' s' h' => wpAny_pure (And.intro rfl h')) fun _ _ x => x)))))
      | (refine wpAny_bind (wpAny_rule ?_); show wpAny _ _ (standAt _ >>= _) _ _ s; exact wpAny_bind (wpAny_standAt (wpAny_bind (wpAny_mono (h _) (fun it' s' h' => wpAny_pure (And.intro rfl h')) fun _ _ x => x))))
theorem codeAny_two0 (I : Nat → Shared → Prop)
    (turn : ∀ n s, I n s → ∀ E', wpAny (model prog w) A (pyNext it) (fun r s₁ => match r with
      | none => R (.ok .next) s₁
      | some v => wpAny (model prog w) A (assign t1 env v) (fun _ s₂ => wpAny (model prog w) A (eval i2 env) (fun x s₃ => wpAny (model prog w) A (pyIter x) (fun it' s₄ =>
          codeAny (model prog w) A (.compStart (.ListComp elt [⟨t1, i1, [], 0⟩, ⟨t2, i2, [], 0⟩] scope pos) 1 it' acc env) (fun r s₅ => (∃ f, r = .ok f) ∧ ∃ m, m < n ∧ I m s₅) s₄) E' s₃) E' s₂) E' s₁) E' s)
    (n : Nat) (h : I n s) (hs : ∀ x, foldedSetIterable i2 env x = pure x) (ht : ∀ v, letOwnedTupleGo t1 it v = pure ()) :
    codeAny (model prog w) A (.compLoop (.ListComp elt [⟨t1, i1, [], 0⟩, ⟨t2, i2, [], 0⟩] scope pos) 0 it acc env) R s := by
  refine codeAny_loop rfl I (fun n s hI => ?_) n h
  show wpAny _ A ((compTurn (.ListComp elt [⟨t1, i1, [], 0⟩, ⟨t2, i2, [], 0⟩] scope pos) 0 it acc env).onRaise (fun x => do noteFrame x env; theTreesLotGoes x)) _ _ s
  refine wpAny_noted ?_
  rw [compTurn_two0]
  refine wpAny_bind (wpAny_standAt (wpAny_bind (wpAny_mono (turn n s hI _) (fun r s₁ h₁ => ?_) fun _ _ h' => h')))
  cases r with
  | none => exact wpAny_pure h₁
  | some v =>
    refine wpAny_bind (wpAny_of_eq (ht v) ?_)
    refine wpAny_bind (wpAny_mono h₁ (fun _ s₂ h₂ => ?_) fun _ _ h' => h')
    refine wpAny_bind (wpAny_mono h₂ (fun x s₃ h₃ => ?_) fun _ _ h' => h')
    refine wpAny_bind (wpAny_standAt (wpAny_bind (wpAny_of_eq (hs x) ?_)))
    refine wpAny_bind (wpAny_holding (wpAny_mono h₃ (fun it' s₄ h₄ => ?_) fun _ _ h' => h'))
    refine wpAny_bind (wpAny_runOwn (codeAny_mono h₄ fun r s₅ h₅ => ?_))
    obtain ⟨⟨f, rfl⟩, h₅⟩ := h₅
    exact wpAny_pure ⟨rfl, h₅⟩
end
end
section
/-- a row with each of the signs behind it -/
def signsOf (y : PySem.Str) (r : PySem.Str) : List PySem.Str := y.cps.toList.map fun c => r ++ ⟨#[c]⟩
def rowsStep (y : PySem.Str) (xs : List PySem.Str) : List PySem.Str := xs.flatMap (signsOf y)
theorem strs_append {us vs : List Value} {xs ys : List PySem.Str} (h : PyProof.Rows.StrsAre us xs) (g : PyProof.Rows.StrsAre vs ys) : PyProof.Rows.StrsAre (us ++ vs) (xs ++ ys) := by
  induction h with
  | nil => exact g
  | cons y t _ ih => exact .cons y t ih
section
variable {prog : Program} {w : World} {A : Around} {E : Value → Shared → Prop} {s : Shared}
variable {a b : PySem.Str} {pa pb pa' pb' pl pe : Pos} {j : Nat} {i1 : PySem.Expr} {scope : Scope} {pos : Pos} {env : Env} {y : PySem.Str}
abbrev rowsElt (a b : PySem.Str) (pa' pb' pe : Pos) : PySem.Expr := .BinOp (.Name a pa') .Add (.Name b pb') pe
abbrev rowsGens (a b : PySem.Str) (pa pb pl : Pos) (j : Nat) (i1 : PySem.Expr) (y : PySem.Str) : List Comprehension := [⟨.Name a pa, i1, [], 0⟩, ⟨.Name b pb, .Constant (.str y) j pl, [], 0⟩]

theorem rows_inner {D J : Addr} {r : PySem.Str} {tr t : Tok} {ys : Array Value} {L0 : List PySem.Str} {mC : PySem.Str → Option Value} (hh : A.handled = none)
    (hab : a ≠ b) (ka : env.kindOf a = some .local) (kb : env.kindOf b = some .local) (hk : env.scope.kind = .function) (hda : (a == ("__debug__" : PySem.Str)) = false) (hdb : (b == ("__debug__" : PySem.Str)) = false)
    (hDC : D ≠ env.locals) (hDJ : D ≠ J) (hCJ : env.locals ≠ J) (hr : r.length < sizeLine) (hsz : ys.size + y.cps.size ≤ sizeLine)
    (hit : s.heap.IsStrIter J "str_ascii_iterator" y t 0) (hD : s.heap.PlainList D ys) (hn : s.heap.Ns env.locals mC) (ha : mC a = some (.str r tr)) (hS : PyProof.Rows.StrsAre ys.toList L0) :
    codeAny (model prog w) A (.compStart (.ListComp (rowsElt a b pa' pb' pe) (rowsGens a b pa pb pl j i1 y) scope pos) 1 (.ref J) (.ref D) env)
      (fun r' s' => (∃ f, r' = .ok f) ∧ ∃ h' tk mC' ys', s' = { s with heap := h', toks := tk } ∧ h'.PlainList D ys' ∧ h'.Ns env.locals mC' ∧ PyProof.Rows.StrsAre ys'.toList (L0 ++ signsOf y r) ∧
        ∀ c o, c ≠ D → c ≠ env.locals → c ≠ J → s.heap.get? c = some o → h'.get? c = some o) s := by
  have hp : (env.scope.kind == .class || (env.scope.kind == .module && env.locals != env.globals)) = false := by rw [hk]; rfl
  have loop : codeAny (model prog w) A (.compLoop (.ListComp (rowsElt a b pa' pb' pe) (rowsGens a b pa pb pl j i1 y) scope pos) 1 (.ref J) (.ref D) env)
      (fun r' s' => (∃ f, r' = .ok f) ∧ ∃ h' tk mC' ys', s' = { s with heap := h', toks := tk } ∧ h'.PlainList D ys' ∧ h'.Ns env.locals mC' ∧ PyProof.Rows.StrsAre ys'.toList (L0 ++ signsOf y r) ∧
        ∀ c o, c ≠ D → c ≠ env.locals → c ≠ J → s.heap.get? c = some o → h'.get? c = some o) s := by
    refine codeAny_two1 (fun k s' => ∃ h' tk mC' ys' i, s' = { s with heap := h', toks := tk } ∧ h'.IsStrIter J "str_ascii_iterator" y t i ∧ h'.PlainList D ys' ∧ h'.Ns env.locals mC' ∧ mC' a = some (.str r tr) ∧
        PyProof.Rows.StrsAre ys'.toList (L0 ++ (y.cps.toList.take i).map fun c => r ++ ⟨#[c]⟩) ∧ i ≤ y.cps.size ∧ k = y.cps.size + 1 - i ∧
        ∀ c o, c ≠ D → c ≠ env.locals → c ≠ J → s.heap.get? c = some o → h'.get? c = some o) ?_ (y.cps.size + 1)
      ⟨s.heap, s.toks, mC, ys, 0, rfl, hit, hD, hn, ha, by simpa using hS, Nat.zero_le _, rfl, fun _ _ _ _ _ e => e⟩ (fun _ => rfl)
    rintro k s' ⟨h', tk, mC', ys', i, rfl, hit', hD', hn', ha', hS', hi, rfl, hkp⟩ E'
    cases hc : y.cps[i]? with
    | none =>
      have hsz' : i = y.cps.size := Nat.le_antisymm hi (by simpa using hc)
      subst hsz'
      refine wpAny_pyNext_ascii_end hh hit' hc fun h₁ he₁ => ⟨⟨_, rfl⟩, h₁, tk, mC', ys', rfl, hD'.at fun o e => he₁ _ o hDJ e, hn'.at' fun o e => he₁ _ o hCJ e, ?_, fun c o h1 h2 h3 e => he₁ c o h3 (hkp c o h1 h2 h3 e)⟩
      have : y.cps.toList.take y.cps.size = y.cps.toList := by rw [List.take_of_length_le (by simp)]
      rw [this] at hS'; exact hS'
    | some n =>
      have hlt : i < y.cps.size := (Array.getElem?_eq_some_iff.mp hc).1
      refine wpAny_pyNext_ascii_item hit' hc fun h₁ hit₁ hs₁ => ?_
      replace hs₁ : Heap.SameBut J h' h₁ := hs₁
      refine wpAny_assign_Name (wpAny_storeName_local kb (hn'.at' fun o e => hs₁.extBut _ o hCJ e) (fun h₂ hn₂ hs₂ => ?_) hp)
      replace hs₂ : Heap.SameBut env.locals h₁ h₂ := hs₂
      have ha₂ : (fun z => if z = b then some (Value.str ⟨#[n]⟩ tk) else mC' z) a = some (.str r tr) := by
        show (if a = b then _ else mC' a) = _
        rw [if_neg hab]; exact ha'
      refine wpAny_BinOp (wpAny_Name (wpAny_loadName_local hk ka hn₂ ha₂ (wpAny_Name (wpAny_loadName_local hk kb hn₂ (v := .str ⟨#[n]⟩ tk) (if_pos rfl) (PyProof.Rows.add_str (fun t' tk' => ?_) ?_)) hdb)) hda)
      · have hD₂ : h₂.PlainList D ys' := (hD'.at fun o e => hs₁.extBut _ o hDJ e).at fun o e => hs₂.extBut _ o hDC e
        have hl : ys'.size = L0.length + i := by
          have := strs_length hS'
          simp only [List.length_append, List.length_map, List.length_take, Array.length_toList] at this
          omega
        have hl0 : ys.size = L0.length := by have := strs_length hS; simpa using this
        refine wpAny_list_append_plain (hsz := by omega) hD₂ fun h₃ hD₃ hs₃ => ?_
        replace hs₃ : Heap.SameBut D h₂ h₃ := hs₃
        refine ⟨y.cps.size + 1 - (i + 1), by omega, h₃, _, _, ys'.push (.str (r ++ ⟨#[n]⟩) t'), i + 1, rfl, ?_, hD₃, hn₂.at' fun o e => hs₃.extBut _ o (Ne.symm hDC) e, ha₂, ?_, hlt, rfl, fun c o h1 h2 h3 e => hs₃.extBut c o h1 (hs₂.extBut c o h2 (hs₁.extBut c o h3 (hkp c o h1 h2 h3 e)))⟩
        · exact (hit₁.extBut hs₂.extBut (Ne.symm hCJ)).extBut hs₃.extBut (Ne.symm hDJ)
        · have ht : y.cps.toList.take (i + 1) = y.cps.toList.take i ++ [n] := by
            rw [List.take_add_one]
            have : y.cps.toList[i]? = some n := by simpa using hc
            rw [this]; rfl
          rw [ht, List.map_append, ← List.append_assoc, Array.toList_push]
          exact strs_append hS' (.cons _ _ .nil)
      · show r.length + 1 ≤ sizeLine
        omega
  exact codeAny_start1 loop fun E' => wpAny_pyIter_striter_ascii hit loop

theorem rowsStep_length (y : PySem.Str) (xs : List PySem.Str) : (rowsStep y xs).length = xs.length * y.cps.size := by
  induction xs with
  | nil => simp [rowsStep]
  | cons r xs ih =>
    show (signsOf y r ++ rowsStep y xs).length = _
    rw [List.length_append, ih, List.length_cons, Nat.succ_mul]
    simp only [signsOf, List.length_map, Array.length_toList]
    omega
theorem rowsStep_snoc (y : PySem.Str) (xs : List PySem.Str) (r : PySem.Str) : rowsStep y (xs ++ [r]) = rowsStep y xs ++ signsOf y r := by
  simp [rowsStep]
end
end
section
section
variable {prog : Program} {w : World} {A : Around} {E : Value → Shared → Prop} {s : Shared}
variable {a b : PySem.Str} {pa pb pa' pb' pl pe : Pos} {j : Nat} {i1 : PySem.Expr} {scope : Scope} {pos : Pos} {env : Env} {y : PySem.Str}

theorem rows_assign {Q : Flow → Shared → Prop} {y' : PySem.Str} {py spos : Pos} (hsw : swapsWith (.ListComp (rowsElt a b pa' pb' pe) (rowsGens a b pa pb pl j i1 y) scope pos) (some (.Name y' py)) spos.line env = pure true)
    (hy' : env.kindOf y' = some .local) (hp' : (env.scope.kind == .class || (env.scope.kind == .module && env.locals != env.globals)) = false) (hh : A.handled = none) (hclos : closureFor scope env = pure []) (hcell : ∀ z ∈ scope.names, z.2 ≠ .cell) (hkind : scope.kind = .function)
    (hnames : ∀ z ∈ scope.names, z.2 = .local → scope.names.lookup z.1 = some .local) (hab : a ≠ b) (ka : scope.names.lookup a = some .local) (kb : scope.names.lookup b = some .local)
    (hda : (a == ("__debug__" : PySem.Str)) = false) (hdb : (b == ("__debug__" : PySem.Str)) = false) (hy : y.cps.all (· < 128) = true)
    (h : wpAny (model prog w) A (eval i1 env) (fun xv s₁ => ∃ ax vs xs k m, xv = .ref ax ∧ s₁.heap.Ns env.locals m ∧ s₁.heap.get? ax = some (listOf vs.toArray k) ∧ PyProof.Rows.StrsAre vs xs ∧ (∀ r ∈ xs, r.length < sizeLine) ∧ xs.length * y.cps.size ≤ sizeLine ∧
      ∀ D h' tk ys k', h'.Ns env.locals (fun z => if z = y' then some (.ref D) else m z) → (∀ c o, c ≠ env.locals → s₁.heap.get? c = some o → h'.get? c = some o) → s₁.heap.objs.size ≤ D → h'.get? D = some (listOf ys k') → PyProof.Rows.StrsAre ys.toList (rowsStep y xs) → Q .next { s₁ with heap := h', toks := tk }) E s)
    (hs : ∀ x, foldedSetIterable i1 env x = pure x) :
    wpAny (model prog w) A (exec (.Assign [.Name y' py] (.ListComp (rowsElt a b pa' pb' pe) (rowsGens a b pa pb pl j i1 y) scope pos) spos) env) Q E s := by
  rw [exec_Assign_Name_used _ _ _ _ hsw]
  refine wpAny_bind (wpAny_standAt (wpAny_bind ?_))
  show wpAny _ A (do let _ ← comprehension (.ListComp (rowsElt a b pa' pb' pe) (rowsGens a b pa pb pl j i1 y) scope pos) scope env _ (newList []) false (eval i1 env) (some (assign (.Name y' py) env))) _ _ s
  refine wpAny_bind (wpAny_mono (wpAny_comprehension_free (use := some (assign (.Name y' py) env)) (Q := fun _ s' => Q .next s') rfl hs hclos hkind hnames (wpAny_mono h (fun xv s₁ h₁ => ?_) fun _ _ e => e)) (fun _ s' hq => wpAny_pure (wpAny_pure hq)) fun _ _ e => e)
  obtain ⟨ax, vs, xs, k, m, rfl, hnL, hget, hS, hr, hsz, hQ⟩ := h₁
  have hLs : env.locals < s₁.heap.objs.size := by obtain ⟨o, _, _, ho, _⟩ := hnL; exact Heap.lt_size ho
  have hL : s₁.heap.IsList ax vs.toArray := ⟨_, hget, rfl, k, rfl⟩
  have hax : ax < s₁.heap.objs.size := Heap.lt_size hget
  refine wpAny_pyIter_list hL ?_
  generalize hI : s₁.heap.objs.size = I at hax
  generalize hH1 : s₁.heap.push { cls := .type "list_iterator", data := .fields #[.ref ax, .int 0 0] } = H1
  have hz1 : H1.objs.size = I + 1 := by rw [← hH1, Heap.size_push, hI]
  have hit₁ : H1.IsListIter I ax 0 := by rw [← hH1, ← hI]; exact ⟨_, Heap.get?_push_size _ rfl, rfl, rfl⟩
  have up₁ : ∀ c o, s₁.heap.get? c = some o → H1.get? c = some o := fun c o e => hH1 ▸ Heap.get?_push_of_some _ e
  refine wpAny_newObj_type (wpAny_newFunctionEnv hcell (by intro z hz; simp at hz) (fun h₁ hns₁ hsb₁ => ?_) hkind)
  dsimp only at hns₁ hsb₁ ⊢
  generalize hH2 : H1.push { cls := .type "list", dict := none, data := .seq ([] : List Value).toArray } = H2 at hns₁ hsb₁ ⊢
  have hC : H2.objs.size = I + 1 + 1 := by rw [← hH2, Heap.size_push, hz1]
  have below : ∀ c, @LT.lt Nat _ c (I + 1) → c ≠ H2.objs.size ∧ c ≠ H1.objs.size := fun c hc => ⟨neN (by omega), neN (by omega)⟩
  have old : ∀ c o, H1.get? c = some o → h₁.get? c = some o := fun c o e => by
    have : @LT.lt Nat _ c H1.objs.size := Heap.lt_size e
    exact hsb₁.extBut c o (neN (by omega)) (Heap.get?_push_of_some _ (hH2 ▸ Heap.get?_push_of_some _ e))
  have hDC : H1.objs.size ≠ H2.objs.size := neN (by omega)
  have hacc : h₁.PlainList H1.objs.size #[] := ⟨_, hsb₁.extBut _ _ hDC (Heap.get?_push_of_some _ (hH2 ▸ Heap.get?_push_size _ rfl))⟩
  have hID : I ≠ H1.objs.size := neN (by omega)
  have hIC : I ≠ H2.objs.size := neN (by omega)
  have haxI : ax ≠ I := Nat.ne_of_lt hax
  have haxC : ax ≠ H2.objs.size := (below ax (Nat.lt_succ_of_lt hax)).1
  have haxD : ax ≠ H1.objs.size := (below ax (Nat.lt_succ_of_lt hax)).2
  have hkC : (compEnvC scope [] H2.objs.size env).scope.kind = .function := hkind
  have hp : ((compEnvC scope [] H2.objs.size env).scope.kind == .class || ((compEnvC scope [] H2.objs.size env).scope.kind == .module && (compEnvC scope [] H2.objs.size env).locals != (compEnvC scope [] H2.objs.size env).globals)) = false := by rw [hkC]; rfl
  have hit₂ : h₁.IsListIter I ax 0 := let ⟨o, ho, r⟩ := hit₁; ⟨o, old _ _ ho, r⟩
  have hL₂ : h₁.IsList ax vs.toArray := ⟨_, old _ _ (up₁ _ _ hget), rfl, k, rfl⟩
  have loop : ∀ s₃ : Shared, s₃ = { s₁ with heap := h₁, toks := s₁.toks + ([] : List (PySem.Str × Value)).length } →
      codeAny (model prog w) A (.compLoop (.ListComp (rowsElt a b pa' pb' pe) (rowsGens a b pa pb pl j i1 y) scope pos) 0 (.ref I) (.ref H1.objs.size) (compEnvC scope [] H2.objs.size env))
        (compPost (model prog w) A E (some (assign (.Name y' py) env)) (fun _ s' => Q .next s') (.ref H1.objs.size) H2.objs.size) s₃ := by
    rintro s₃ rfl
    refine codeAny_two0 (env := compEnvC scope [] H2.objs.size env) (fun n s' => ∃ h' tk mC' ys i, s' = { s₁ with heap := h', toks := tk } ∧ h'.IsListIter I ax i ∧ h'.IsList ax vs.toArray ∧ h'.PlainList H1.objs.size ys ∧ h'.Ns H2.objs.size mC' ∧
        PyProof.Rows.StrsAre ys.toList (rowsStep y (xs.take i)) ∧ i ≤ xs.length ∧ n = xs.length + 1 - i ∧ (∀ c o, s₁.heap.get? c = some o → h'.get? c = some o)) ?_ (xs.length + 1)
      ⟨h₁, _, _, #[], 0, rfl, hit₂, hL₂, hacc, hns₁, .nil, Nat.zero_le _, rfl, fun c o e => old c o (up₁ c o e)⟩ (fun _ => rfl) (fun _ => rfl)
    rintro n s' ⟨h', tk, mC', ys, i, rfl, hit', hL', hD', hn', hS', hi, rfl, hkp⟩ E'
    have hvl := strs_length hS
    by_cases hlt : i < xs.length
    · have hv : vs.toArray[i]? = some vs[i] := by simp [hvl, hlt]
      obtain ⟨r, tr, hvr, hxr⟩ := strs_at hS (List.getElem?_eq_getElem (by omega : i < vs.length))
      rw [hvr] at hv
      refine wpAny_pyNext_list_item hit' hL' hv fun h₂ hit₂' hs₂ => ?_
      replace hs₂ : Heap.SameBut I h' h₂ := hs₂
      refine wpAny_assign_Name (wpAny_storeName_local (lookup_relabel_local ka) (hn'.at' fun o e => hs₂.extBut _ o (Ne.symm hIC) e) (fun h₃ hn₃ hs₃ => ?_) hp)
      replace hs₃ : Heap.SameBut H2.objs.size h₂ h₃ := hs₃
      refine wpAny_Constant_str (wpAny_pyIter_ascii hy ?_)
      have hlt₃ : ∀ c o, h₃.get? c = some o → c ≠ h₃.objs.size := fun c o e => Nat.ne_of_lt (Heap.lt_size e)
      have hD₃ : h₃.PlainList H1.objs.size ys := (hD'.at fun o e => hs₂.extBut _ o (Ne.symm hID) e).at fun o e => hs₃.extBut _ o hDC e
      have hkp₃ : ∀ c o, s₁.heap.get? c = some o → h₃.get? c = some o := fun c o e => by
        have hc : @LT.lt Nat _ c I := hI ▸ Heap.lt_size e
        exact hs₃.extBut c o (neN (by omega)) (hs₂.extBut c o (neN (by omega)) (hkp c o e))
      have hDJ : H1.objs.size ≠ h₃.objs.size := by obtain ⟨kk, q⟩ := hD₃; exact hlt₃ _ _ q
      have hCJ : H2.objs.size ≠ h₃.objs.size := by obtain ⟨o, _, _, q, _⟩ := hn₃; exact hlt₃ _ _ q
      have hi₃ : h₃.IsListIter I ax (i + 1) := hit₂'.extBut hs₃.extBut hIC
      have hIJ : I ≠ h₃.objs.size := by obtain ⟨o, q, _⟩ := hi₃; exact hlt₃ _ _ q
      have hL₃ : h₃.IsList ax vs.toArray := (hL'.extBut hs₂.extBut haxI).extBut hs₃.extBut haxC
      have hysz : ys.size = i * y.cps.size := by
        have := strs_length hS'
        rw [rowsStep_length] at this
        simp only [Array.length_toList, List.length_take] at this
        rw [this, Nat.min_eq_left (by omega)]
      have hmul : i * y.cps.size + y.cps.size ≤ xs.length * y.cps.size := by
        rw [← Nat.succ_mul]; exact Nat.mul_le_mul_right _ hlt
      refine codeAny_mono (rows_inner (env := compEnvC scope [] H2.objs.size env) (r := r) (tr := tr) (t := tk + 1) (L0 := rowsStep y (xs.take i)) hh hab (lookup_relabel_local ka) (lookup_relabel_local kb) hkC hda hdb hDC hDJ hCJ (hr r (List.mem_of_getElem? hxr)) (by omega)
        ⟨_, Heap.get?_push_size _ rfl, rfl, rfl⟩ (hD₃.at fun o e => Heap.get?_push_of_some _ e) (hn₃.at' fun o e => Heap.get?_push_of_some _ e) (if_pos rfl) hS') ?_
      rintro r' s'' ⟨hok, h₄, tk₄, mC₄, ys₄, rfl, hD₄, hn₄, hS₄, hk₄⟩
      refine ⟨hok, xs.length + 1 - (i + 1), by omega, h₄, tk₄, mC₄, ys₄, i + 1, rfl, ?_, ?_, hD₄, hn₄, ?_, hlt, rfl, fun c o e => ?_⟩
      · obtain ⟨o, ho, r⟩ := hi₃
        exact ⟨o, hk₄ I o hID hIC hIJ (Heap.get?_push_of_some _ ho), r⟩
      · exact hL₃.at fun o e => hk₄ ax o haxD haxC (hlt₃ _ _ e) (Heap.get?_push_of_some _ e)
      · have : xs.take (i + 1) = xs.take i ++ [r] := by rw [List.take_add_one, hxr]; rfl
        rw [this, rowsStep_snoc]; exact hS₄
      · have hc : @LT.lt Nat _ c I := hI ▸ Heap.lt_size e
        exact hk₄ c o (neN (by omega)) (show c ≠ H2.objs.size from neN (by omega)) (hlt₃ _ _ (hkp₃ c o e)) (Heap.get?_push_of_some _ (hkp₃ c o e))
    · have hin : i = xs.length := by omega
      subst hin
      refine wpAny_pyNext_list_end hh hit' hL' (by simp [hvl]) fun h₂ he₂ => ?_
      replace he₂ : Heap.ExtBut I h' h₂ := he₂
      obtain ⟨k', hk'⟩ := hD'
      have hLI : @LT.lt Nat _ env.locals I := hI ▸ hLs
      have hLC : env.locals ≠ H2.objs.size := neN (by omega)
      have hLD : env.locals ≠ H1.objs.size := neN (by omega)
      have kp₂ : ∀ c o, s₁.heap.get? c = some o → h₂.get? c = some o := fun c o e => by
        have hc : @LT.lt Nat _ c I := hI ▸ Heap.lt_size e
        exact he₂ c o (neN (by omega)) (hkp c o e)
      show wpAny _ A (assign (.Name y' py) env (.ref H1.objs.size)) _ _ _
      refine wpAny_assign_Name (wpAny_storeName_local hy' (hnL.at' fun o e => kp₂ _ o e) (fun h₃ hn₃ hs₃ => ?_) hp')
      replace hs₃ : Heap.SameBut env.locals h₂ h₃ := hs₃
      refine ⟨mC', (hn'.at' fun o e => he₂ _ o (Ne.symm hIC) e).sameBut hs₃ (Ne.symm hLC), fun h₄ hs₄ => ?_⟩
      replace hs₄ : Heap.SameBut H2.objs.size h₃ h₄ := hs₄
      refine hQ H1.objs.size h₄ _ ys k' (hn₃.sameBut hs₄ hLC) (fun c o hcL e => ?_) ?_ (hs₄.extBut _ _ hDC (hs₃.extBut _ _ (Ne.symm hLD) (he₂ _ _ (Ne.symm hID) hk'))) (by rw [List.take_length] at hS'; exact hS')
      · have hc : @LT.lt Nat _ c I := hI ▸ Heap.lt_size e
        exact hs₄.extBut c o (neN (by omega)) (hs₃.extBut c o hcL (kp₂ c o e))
      · rw [hI, hz1]; exact Nat.le_succ _
  rw [← hI] at loop ⊢
  exact codeAny_compStart_list (loop _ rfl) (wpAny_pyIter_listiter (hI ▸ hit₂) (loop _ rfl))
end
end
section
section
variable {prog : Program} {w : World} {A : Around} {E : Value → Shared → Prop} {env : Env} {s : Shared}
theorem comp_GA {elt iter : PySem.Expr} {x : PySem.Str} {px : Pos} {ifs : List PySem.Expr} {scope : Scope} {cl : List (PySem.Str × Addr)} {pos : Pos} {h₀ : Heap} {L : Addr} {m : PySem.Str → Option Value} {Q : Flow → Shared → Prop} {y' : PySem.Str} {py spos : Pos} (hsw : swapsWith (.ListComp elt [⟨.Name x px, iter, ifs, 0⟩] scope pos) (some (.Name y' py)) spos.line env = pure true)
    (hy' : env.kindOf y' = some .local) (hp' : (env.scope.kind == .class || (env.scope.kind == .module && env.locals != env.globals)) = false) (hLe : env.locals = L)
    (p : Value → Bool) (F : Value → Value → Prop)
    (hclos : closureFor scope env = pure cl) (hcell : ∀ y ∈ scope.names, y.2 ≠ .cell) (hkind : scope.kind = .function)
    (hnames : ∀ y ∈ scope.names, y.2 = .local → scope.names.lookup y.1 = some .local) (hx : scope.names.lookup x = some .local)
    (h : wpAny (model prog w) A (eval iter env) (fun xv s₁ => wpAny (model prog w) A (pyIter xv) (fun it s₂ => ∃ I fp wr n P St news, it = .ref I ∧ Walks prog w A I fp wr n P St ∧ n ≤ sizeLine ∧ St 0 s₂.heap ∧ (∀ b ∈ fp, b < s₂.heap.objs.size) ∧
      L ∉ fp ∧ (∀ b ∈ wr, h₀.get? b = none) ∧ (∀ q ∈ news, q.1 ∉ wr) ∧ Fr h₀ L s₂.heap m ∧ News h₀ L s₂.heap news ∧ AllBare s₂.gens ∧
      (∀ C i v s₃ own m₃ E', P i v → AllBare s₃.gens → Fr h₀ L s₃.heap m → News h₀ L s₃.heap (news ++ own) → s₃.heap.Ns C m₃ → m₃ x = some v → (∀ o, s₃.heap.get? C = some o → (C, o) ∈ news ++ own) →
        wpAny (model prog w) A (forIn ifs true fun c r => if r = true then do let ok ← isTrue c (compEnvC scope cl C env) (eval c (compEnvC scope cl C env)); pure (ForInStep.yield ok) else pure (ForInStep.yield r))
          (fun ok s₄ => ok = p v ∧ Stands h₀ L m (news ++ own) s₃ s₄) E' s₃) ∧
      (∀ C i v s₃ own m₃ E', P i v → p v = true → AllBare s₃.gens → Fr h₀ L s₃.heap m → News h₀ L s₃.heap (news ++ own) → s₃.heap.Ns C m₃ → m₃ x = some v → (∀ o, s₃.heap.get? C = some o → (C, o) ∈ news ++ own) →
        wpAny (model prog w) A (eval elt (compEnvC scope cl C env)) (fun y s₄ => F v y ∧ Stands h₀ L m (news ++ own) s₃ s₄) E' s₃) ∧
      (∀ D h' tk G ys (vs : List Value), h'.PlainList D ys → vs.length = n → (∀ j v, vs[j]? = some v → P j v) → Paired F (vs.filter p) ys.toList → Fr h₀ L h' (fun z => if z = y' then some (.ref D) else m z) → News h₀ L h' news → AllBare G → h₀.get? D = none → D ≠ L → (∀ q ∈ news, q.1 < D) →
        Q .next { s₂ with heap := h', toks := tk, gens := G })) E s₁) E s)
    (hs : ∀ x, foldedSetIterable iter env x = pure x) :
    wpAny (model prog w) A (exec (.Assign [.Name y' py] (.ListComp elt [⟨.Name x px, iter, ifs, 0⟩] scope pos) spos) env) Q E s := by
  subst hLe
  rw [exec_Assign_Name_used _ _ _ _ hsw]
  refine wpAny_bind (wpAny_standAt (wpAny_bind ?_))
  show wpAny _ A (do let _ ← comprehension (.ListComp elt [⟨.Name x px, iter, ifs, 0⟩] scope pos) scope env _ (newList []) false (eval iter env) (some (assign (.Name y' py) env))) _ _ s
  refine wpAny_bind (wpAny_mono (wpAny_comprehension_free (use := some (assign (.Name y' py) env)) (Q := fun _ s' => Q .next s') rfl hs hclos hkind hnames (wpAny_mono h (fun xv s₁ h₁ => wpAny_mono h₁ (fun it s₂ h₂ => ?_) fun _ _ e => e) fun _ _ e => e)) (fun _ s' hq => wpAny_pure (wpAny_pure hq)) fun _ _ e => e)
  obtain ⟨I, fp, wr, n, P, St, news, rfl, W, hsz, hst, hfp, hLf, hwr0, hnw, F₂, N₂, hb, htests, helt, hQ⟩ := h₂
  refine wpAny_newObj_type (wpAny_newFunctionEnv hcell (by intro y hy; simp at hy) (fun h₁ hns₁ hsb₁ => ?_) hkind)
  dsimp only at hns₁ hsb₁ ⊢
  generalize hH2 : s₂.heap.push { cls := .type "list", dict := none, data := .seq ([] : List Value).toArray } = H2 at hns₁ hsb₁ ⊢
  have hC : H2.objs.size = s₂.heap.objs.size + 1 := by rw [← hH2, Heap.size_push]
  have hDC : s₂.heap.objs.size ≠ H2.objs.size := by rw [hC]; exact Nat.ne_of_lt (Nat.lt_succ_self _)
  have below : ∀ b, b < s₂.heap.objs.size → b ≠ H2.objs.size ∧ b ≠ s₂.heap.objs.size := fun b hb => ⟨by rw [hC]; exact Nat.ne_of_lt (Nat.lt_succ_of_lt hb), Nat.ne_of_lt hb⟩
  have hDf : s₂.heap.objs.size ∉ fp := fun hm => Nat.lt_irrefl _ (hfp _ hm)
  have hCf : H2.objs.size ∉ fp := fun hm => by have := hfp _ hm; rw [hC] at this; exact Nat.lt_irrefl _ (Nat.lt_of_succ_lt this)
  have old : ∀ b o, s₂.heap.get? b = some o → h₁.get? b = some o := fun b o e => hsb₁.extBut b o (below b (Heap.lt_size e)).1 (Heap.get?_push_of_some _ (hH2 ▸ Heap.get?_push_of_some _ e))
  have hacc : h₁.PlainList s₂.heap.objs.size #[] := ⟨_, hsb₁.extBut _ _ hDC (Heap.get?_push_of_some _ (hH2 ▸ Heap.get?_push_size _ rfl))⟩
  have hst₁ : St 0 h₁ := W.frame _ _ _ hst fun b _ o e => old b o e
  have fresh : ∀ a, s₂.heap.objs.size ≤ a → h₀.get? a = none := fun a ha => by
    cases e : h₀.get? a with
    | none => rfl
    | some o' => exact absurd (Heap.lt_size (F₂.keep a o' e)) (Nat.not_lt.mpr ha)
  have hLlt : env.locals < s₂.heap.objs.size := F₂.ns.lt
  have F₁ : Fr h₀ env.locals h₁ m := ⟨F₂.ns.at' fun o e => old _ o e, fun b o e => old b o (F₂.keep b o e), F₂.above⟩
  have N₁ : News h₀ env.locals h₁ news := fun q hq => ⟨old _ _ (N₂ q hq).1, (N₂ q hq).2⟩
  have loop : ∀ s₃ : Shared, s₃ = { s₂ with heap := h₁, toks := s₂.toks + ([] : List (PySem.Str × Value)).length } →
      codeAny (model prog w) A (.compLoop (.ListComp elt [⟨.Name x px, iter, ifs, 0⟩] scope pos) 0 (.ref I) (.ref s₂.heap.objs.size) (compEnvC scope cl H2.objs.size env))
        (compPost (model prog w) A E (some (assign (.Name y' py) env)) (fun _ s' => Q .next s') (.ref s₂.heap.objs.size) H2.objs.size) s₃ := by
    rintro s₃ rfl
    refine compLoop_G (cenv := compEnvC scope cl H2.objs.size env) W p F (lookup_relabel_local hx) (by simp [compEnvC, relabel, hkind]) hDC hDf hCf (below _ hLlt).1 (below _ hLlt).2 hLf
      (fresh _ (Nat.le_refl _)) (fresh _ (by rw [hC]; exact Nat.le_succ _)) hwr0 (fun q hq => (below _ (Heap.lt_size (N₂ q hq).1)).2) (fun q hq => (below _ (Heap.lt_size (N₂ q hq).1)).1) hnw hst₁ hacc hns₁ F₁ N₁ hb
      (fun i v s₃ own m₃ E' => htests _ i v s₃ own m₃ E') (fun i v s₃ own m₃ E' => helt _ i v s₃ own m₃ E') (fun h' tk G mC' ys vs hn' hpl hlen hP hF F' N' hb' => ?_) hsz
    show wpAny _ A (assign (.Name y' py) env (.ref s₂.heap.objs.size)) _ _ _
    refine wpAny_assign_Name (wpAny_storeName_local hy' F'.ns (fun h₃ hn₃ hs₃ => ?_) hp')
    replace hs₃ : Heap.SameBut env.locals h' h₃ := hs₃
    refine ⟨mC', hn'.sameBut hs₃ (Ne.symm (below _ hLlt).1), fun h'' hs'' => ?_⟩
    replace hs'' : Heap.SameBut H2.objs.size h₃ h'' := hs''
    have F₃ : Fr h₀ env.locals h₃ (fun z => if z = y' then some (.ref s₂.heap.objs.size) else m z) := F'.set hn₃ hs₃
    have N₃ : News h₀ env.locals h₃ news := N'.set hs₃
    refine hQ _ h'' _ G ys vs ((hpl.at fun o e => hs₃.extBut _ o (Ne.symm (below _ hLlt).2) e).at fun o e => hs''.extBut _ o hDC e) hlen hP hF ⟨F₃.ns.at' fun o e => hs''.extBut _ o (below _ hLlt).1 e, fun b o e => hs''.extBut b o (fun q => ?_) (F₃.keep b o e), F₃.above⟩
      (fun q hq => ⟨hs''.extBut _ _ (below _ (Heap.lt_size (N₂ q hq).1)).1 (N₃ q hq).1, (N₃ q hq).2⟩) hb' (fresh _ (Nat.le_refl _)) (Ne.symm (below _ hLlt).2) (fun q hq => Heap.lt_size (N₂ q hq).1)
    rw [q, fresh _ (by rw [hC]; exact Nat.le_succ _)] at e; cases e
  exact codeAny_compStart_list (loop _ rfl) (W.self 0 _ _ _ hst₁ (loop _ rfl))
theorem comp_textsA {iter c : PySem.Expr} {x : PySem.Str} {px pe : Pos} {scope : Scope} {cl : List (PySem.Str × Addr)} {pos : Pos} {h₀ : Heap} {L : Addr} {m : PySem.Str → Option Value} {Q : Flow → Shared → Prop} {y' : PySem.Str} {py spos : Pos} (hsw : swapsWith (.ListComp (.Name x pe) [⟨.Name x px, iter, [c], 0⟩] scope pos) (some (.Name y' py)) spos.line env = pure true)
    (hy' : env.kindOf y' = some .local) (hp' : (env.scope.kind == .class || (env.scope.kind == .module && env.locals != env.globals)) = false) (hLe : env.locals = L)
    (q : PySem.Str → Bool) (hh : A.handled = none)
    (hclos : closureFor scope env = pure cl) (hcell : ∀ y ∈ scope.names, y.2 ≠ .cell) (hkind : scope.kind = .function)
    (hnames : ∀ y ∈ scope.names, y.2 = .local → scope.names.lookup y.1 = some .local) (hx : scope.names.lookup x = some .local) (hdb : (x == ("__debug__" : PySem.Str)) = false)
    (h : wpAny (model prog w) A (eval iter env) (fun xv s₁ => ∃ ax vs xs k news, xv = .ref ax ∧ Fr h₀ L s₁.heap m ∧ News h₀ L s₁.heap news ∧ AllBare s₁.gens ∧ (ax, listOf vs.toArray k) ∈ news ∧ PyProof.Rows.StrsAre vs xs ∧ xs.length ≤ sizeLine ∧
      (∀ C y t s₃ own m₃ E', y ∈ xs → AllBare s₃.gens → Fr h₀ L s₃.heap m → News h₀ L s₃.heap (news ++ own) → s₃.heap.Ns C m₃ → m₃ x = some (.str y t) → (∀ o, s₃.heap.get? C = some o → (C, o) ∈ news ++ own) →
        wpAny (model prog w) A (isTrue c (compEnvC scope cl C env) (eval c (compEnvC scope cl C env))) (fun ok s₄ => ok = q y ∧ Stands h₀ L m (news ++ own) s₃ s₄) E' s₃) ∧
      (∀ D h' tk G ys k', Fr h₀ L h' (fun z => if z = y' then some (.ref D) else m z) → News h₀ L h' ((D, listOf ys.toArray k') :: news) → PyProof.Rows.StrsAre ys (xs.filter q) → AllBare G → (∀ p ∈ news, p.1 < D) → Q .next { s₁ with heap := h', toks := tk, gens := G })) E s)
    (hs : ∀ x, foldedSetIterable iter env x = pure x) :
    wpAny (model prog w) A (exec (.Assign [.Name y' py] (.ListComp (.Name x pe) [⟨.Name x px, iter, [c], 0⟩] scope pos) spos) env) Q E s := by
  refine comp_GA (h₀ := h₀) (L := L) (m := m) hsw hy' hp' hLe (textTest q) (fun v y => y = v) hclos hcell hkind hnames hx (wpAny_mono h (fun xv s₁ h₁ => ?_) fun _ _ e => e) hs
  obtain ⟨ax, vs, xs, k, news, rfl, F₁, N₁, hb, hm, hS, hlen, ht, hQ⟩ := h₁
  have hget := (N₁ _ hm).1
  have hL : s₁.heap.IsList ax vs.toArray := ⟨_, hget, rfl, k, rfl⟩
  have hax : ax < s₁.heap.objs.size := Heap.lt_size hget
  have hne : ax ≠ s₁.heap.objs.size := Nat.ne_of_lt hax
  refine wpAny_pyIter_list hL ?_
  have W := Walks.list (prog := prog) (w := w) hh s₁.heap.objs.size ax hne vs.toArray
  refine ⟨s₁.heap.objs.size, _, _, _, _, _, news, rfl, W, ?_, ⟨⟨_, Heap.get?_push_size _ rfl, rfl, rfl⟩, hL.at fun o e => Heap.get?_push_of_some _ e⟩, ?_, ?_, ?_, ?_, F₁.push _, (fun p hp => ⟨Heap.get?_push_of_some _ (N₁ p hp).1, (N₁ p hp).2⟩), hb, ?_, ?_, ?_⟩
  · rw [List.size_toArray, strs_length hS]; exact hlen
  · intro b hb
    rw [Heap.size_push]
    rcases List.mem_cons.mp hb with rfl | hb
    · exact Nat.lt_succ_self _
    · rw [List.mem_singleton.mp hb]; exact Nat.lt_succ_of_lt hax
  · intro hq
    rcases List.mem_cons.mp hq with e | hq
    · exact absurd F₁.ns.lt (e ▸ Nat.lt_irrefl _)
    · exact (N₁ _ hm).2.1 (List.mem_singleton.mp hq).symm
  · intro b hb
    rw [List.mem_singleton.mp hb]
    cases e : h₀.get? s₁.heap.objs.size with
    | none => rfl
    | some o => exact absurd (Heap.lt_size (F₁.keep _ o e)) (Nat.lt_irrefl _)
  · intro p hp hq
    exact absurd (Heap.lt_size (N₁ p hp).1) (List.mem_singleton.mp hq ▸ Nat.lt_irrefl _)
  · intro C i v s₃ own m₃ E' hP hb' F' N' hn hv hC
    obtain ⟨y, t, rfl, hy⟩ := strs_at hS (by simpa using hP)
    exact wpAny_tests_one (ht C y t s₃ own m₃ E' (List.mem_of_getElem? hy) hb' F' N' hn hv hC)
  · intro C i v s₃ own m₃ E' hP _ hb' F' N' hn hv hC
    exact wpAny_Name (wpAny_loadName_local hkind (lookup_relabel_local hx) hn hv ⟨rfl, _, _, _, rfl, F', N', hb'⟩) hdb
  · intro D h' tk G ys vs' hpl hlen' hP hF F' N' hb' hD0 hDL hlt
    have e1 : vs' = vs := by
      have hl : vs'.length = vs.length := by rw [hlen', List.size_toArray]
      refine List.ext_getElem? fun i => ?_
      cases e : vs'[i]? with
      | none =>
        have : vs.length ≤ i := by rw [← hl]; exact List.getElem?_eq_none_iff.mp e
        exact (List.getElem?_eq_none this).symm
      | some v => have := hP i v e; exact (by simpa using this : vs[i]? = some v).symm
    subst e1
    obtain ⟨k', hk'⟩ := hpl
    have e2 := paired_eq hF
    refine hQ D h' tk G ys.toList k' F' (fun p hp => ?_) (e2 ▸ strs_filter q hS) hb' hlt
    rcases List.mem_cons.mp hp with rfl | hp
    · exact ⟨by simpa using hk', hDL, hD0⟩
    · exact N' p hp
end
end
section
/-- the k digits of x by 2 ^ n, the lowest first -/
def digs (n : Nat) : Nat → Nat → List Int
  | _, 0 => []
  | x, k + 1 => ((x % 2 ^ n : Nat) : Int) :: digs n (x / 2 ^ n) k
theorem digs_length (n : Nat) : ∀ (k x : Nat), (digs n x k).length = k
  | 0, _ => rfl
  | k + 1, x => by simp [digs, digs_length n k]
theorem digs_split (n k : Nat) : ∀ (j x : Nat), digs n x (j + k) = digs n (x % 2 ^ (j * n)) j ++ digs n (x / 2 ^ (j * n)) k
  | 0, x => by simp [digs]
  | j + 1, x => by
    have ih := digs_split n k j (x / 2 ^ n)
    have e : 2 ^ ((j + 1) * n) = 2 ^ n * 2 ^ (j * n) := by rw [← Nat.pow_add]; congr 1; rw [Nat.succ_mul]; omega
    rw [show j + 1 + k = (j + k) + 1 by omega]
    simp only [digs, List.cons_append]
    rw [ih, e, Nat.mod_mul_right_div_self, Nat.div_div_eq_div_mul]
    congr 2
    rw [Nat.mod_mod_of_dvd _ (Nat.dvd_mul_right ..)]
theorem and_high (x s : Nat) : x &&& (x / 2 ^ s * 2 ^ s) = x / 2 ^ s * 2 ^ s := by
  apply Nat.eq_of_testBit_eq
  intro i
  rw [Nat.testBit_and, Nat.testBit_mul_two_pow, Nat.testBit_div_two_pow]
  by_cases h : s ≤ i
  · have e : s + (i - s) = i := by omega
    simp [h]
  · simp [h]
theorem xor_low (x s : Nat) : Builtin.bitXor (x : Int) ((x / 2 ^ s * 2 ^ s : Nat) : Int) = ((x % 2 ^ s : Nat) : Int) := by
  rw [bitXor_and]
  have e : Builtin.bitAnd (x : Int) ((x / 2 ^ s * 2 ^ s : Nat) : Int) = ((x &&& (x / 2 ^ s * 2 ^ s) : Nat) : Int) := rfl
  rw [e, and_high]
  have h := Nat.div_add_mod x (2 ^ s)
  rw [Nat.mul_comm] at h
  generalize x / 2 ^ s * 2 ^ s = u at h
  generalize x % 2 ^ s = v at h
  omega
end
section
theorem ints_length {vs : List Value} {ns : List Int} (h : IntsAre vs ns) : vs.length = ns.length := h.length
theorem ints_set {vs : List Value} {ns : List Int} (h : IntsAre vs ns) (i : Nat) (x : Int) (t : Tok) : IntsAre (vs.set i (.int x t)) (ns.set i x) := by
  induction h generalizing i with
  | nil => exact .nil
  | cons n t' _ ih =>
    cases i with
    | zero => exact .cons _ _ (by assumption)
    | succ i => exact .cons _ _ (ih i)
theorem rdL {M : Model} {A : Around} {E : Value → Shared → Prop} {s : Shared} {env : Env} {m : PySem.Str → Option Value} {y : PySem.Str} {p : Pos} {v : Value} {Q : Value → Shared → Prop} (hk : env.scope.kind = .function)
    (hl : env.scope.names.lookup y = some .local) (hn : s.heap.Ns env.locals m) (hv : m y = some v) (h : Q v s) (hd : (y == ("__debug__" : PySem.Str)) = false := by decide +kernel) : wpAny M A (eval (.Name y p) env) Q E s :=
  wpAny_Name (wpAny_loadName_local hk hl hn hv h) hd
theorem rdF {M : Model} {A : Around} {E : Value → Shared → Prop} {s : Shared} {env : Env} {y : PySem.Str} {p : Pos} {v : Value} {c : Addr} {Q : Value → Shared → Prop} (hk : env.scope.kind = .function)
    (hl : env.scope.names.lookup y = some .free) (hc : env.cells.lookup y = some c) (hv : s.heap.IsCell c (some v)) (h : Q v s) (hd : (y == ("__debug__" : PySem.Str)) = false := by decide +kernel) (hq : (y == ("__classdict__" : PySem.Str)) = false := by decide +kernel) :
    wpAny M A (eval (.Name y p) env) Q E s :=
  wpAny_Name (wpAny_loadName_free hk hl hc hv h hq) hd
section
variable {prog : Program} {w : World} {A : Around} {E : Value → Shared → Prop} {s : Shared} {a b v : Int} {t u : Tok} {Q : Value → Shared → Prop}
theorem mulE (e : a * b = v) (hm : IntMulOk a b) (h : Q (.int v s.toks) { s with toks := s.toks + 1 }) : wpAny (model prog w) A (binaryOp .Mult (.int a t) (.int b u)) Q E s := PyProof.Rows.mul_int (by rw [e]; exact h) hm
theorem rshE (hn : 0 ≤ b) (e : a.fdiv (2 ^ b.toNat) = v) (h : Q (.int v s.toks) { s with toks := s.toks + 1 }) : wpAny (model prog w) A (binaryOp .RShift (.int a t) (.int b u)) Q E s := rshift_int hn (by rw [e]; exact h)
theorem xorE (e : Builtin.bitXor a b = v) (h : Q (.int v s.toks) { s with toks := s.toks + 1 }) : wpAny (model prog w) A (binaryOp .BitXor (.int a t) (.int b u)) Q E s := xor_int (by rw [e]; exact h)
theorem lshE (hn : 0 ≤ b) (hn2 : b ≤ 1000000) (ha : a.natAbs < 2 ^ 64) (e : a * 2 ^ b.toNat = v) (h : Q (.int v s.toks) { s with toks := s.toks + 1 }) : wpAny (model prog w) A (binaryOp .LShift (.int a t) (.int b u)) Q E s := lshift_int_small hn hn2 ha (by rw [e]; exact h)
theorem addE (e : a + b = v) (h : Q (.int v s.toks) { s with toks := s.toks + 1 }) : wpAny (model prog w) A (binaryOp .Add (.int a t) (.int b u)) Q E s := add_int (by rw [e]; exact h)
theorem subE (e : a - b = v) (h : Q (.int v s.toks) { s with toks := s.toks + 1 }) : wpAny (model prog w) A (binaryOp .Sub (.int a t) (.int b u)) Q E s := sub_int (by rw [e]; exact h)
theorem eqE {k : Bool} (e : (a == b) = k) (h : Q (.bool k) s) : wpAny (model prog w) A (compareOp .Eq (.int a t) (.int b u)) Q E s := eq_int (by rw [e]; exact h)
end
abbrev N (s : String) (p : Pos) : PySem.Expr := .Name (Str.ofString s) p
section
variable {prog : Program} {w : World} {fd : FuncData} {fI c1 c2 c3 l : Addr} {b₀ : Heap} {n : Nat} {tn : Tok} {o : Obj}
  {p1 p2 p3 p4 p5 p6 p7 p8 p9 p10 p11 p12 p13 p14 p15 p16 p17 p18 p19 p20 p21 p22 p23 p24 p25 p26 p27 p28 p29 p30 p31 p32 p33 p34 p35 p36 p37 p38 p39 p40 p41 p42 p43 p44 p45 p46 p47 p48 p49 p50 : Pos} {k1 k2 k3 : Nat}

abbrev storeBody (p1 p2 p3 p4 p5 p6 p7 p8 p9 p10 p11 p12 p13 p14 p15 p16 p17 p18 p19 p20 p21 p22 p23 p24 p25 p26 p27 p28 p29 p30 p31 p32 p33 p34 p35 p36 p37 p38 p39 p40 p41 p42 p43 p44 p45 p46 p47 p48 p49 p50 : Pos) (k1 k2 : Nat) : List Stmt :=
  [.If (.Compare (.BinOp (N "L" p1) .Add (.Constant (.int 1) k1 p2) p3) [.Eq] [N "R" p4] p5)
      [.Assign [.Subscript (N "a_digits" p6) (N "L" p7) p8] (N "x" p9) p10, .Return none p11] [] p12,
    .Assign [N "mid" p13] (.BinOp (.BinOp (N "L" p14) .Add (N "R" p15) p16) .RShift (.Constant (.int 1) k2 p17) p18) p19,
    .Assign [N "shift" p20] (.BinOp (.BinOp (N "mid" p21) .Sub (N "L" p22) p23) .Mult (N "n" p24) p25) p26,
    .Assign [N "upper" p27] (.BinOp (N "x" p28) .RShift (N "shift" p29) p30) p31,
    .Assign [N "lower" p32] (.BinOp (N "x" p33) .BitXor (.BinOp (N "upper" p34) .LShift (N "shift" p35) p36) p37) p38,
    .Expr (.Call (N "inner" p39) [N "lower" p40, N "L" p41, N "mid" p42] [] p43) p44,
    .Expr (.Call (N "inner" p45) [N "upper" p46, N "mid" p47, N "R" p48] [] p49) p50]

/-- what stands of the closure `inner` of _int2digits -/
structure StoreFn (b₀ : Heap) (fI c1 c2 c3 l : Addr) (n : Nat) (tn : Tok) (fd : FuncData) : Prop where
  fn : ∃ o, b₀.get? fI = some o ∧ o.data = .func fd
  code : b₀.CodeRec fd.code fd.qualname
  lim : b₀.NoLimit
  dg : b₀.IsCell c1 (some (.ref l))
  inn : b₀.IsCell c2 (some (.ref fI))
  nn : b₀.IsCell c3 (some (.int n tn))
  off : b₀.get? l = none
  cdg : fd.closure.lookup (Str.ofString "a_digits") = some c1
  cinn : fd.closure.lookup (Str.ofString "inner") = some c2
  cnn : fd.closure.lookup (Str.ofString "n") = some c3
  hk : fd.scope.kind = .function
  hco : fd.scope.isCoroutine = false
  hgen : fd.scope.isGenerator = false
  hcell : ∀ x ∈ fd.scope.names, x.2 ≠ .cell
  loc : ∀ x ∈ ["x", "L", "R", "mid", "shift", "upper", "lower"], fd.scope.names.lookup (Str.ofString x) = some .local
  free : ∀ x ∈ ["a_digits", "inner", "n"], fd.scope.names.lookup (Str.ofString x) = some .free
  binds : ∀ (s : Shared) (x L R : Value), BindsTo s fd ⟨[x, L, R], []⟩ [(Str.ofString "x", x), (Str.ofString "L", L), (Str.ofString "R", R)]

theorem inner_store (S : StoreFn b₀ fI c1 c2 c3 l n tn fd) (hn : 0 < n ∧ n < 1000)
    (hbody : fd.body = .stmts (storeBody p1 p2 p3 p4 p5 p6 p7 p8 p9 p10 p11 p12 p13 p14 p15 p16 p17 p18 p19 p20 p21 p22 p23 p24 p25 p26 p27 p28 p29 p30 p31 p32 p33 p34 p35 p36 p37 p38 p39 p40 p41 p42 p43 p44 p45 p46 p47 p48 p49 p50 k1 k2)) :
    ∀ (k : Nat) (x Lo R : Nat) (t1 t2 t3 : Tok) (A : Around) (s : Shared) (Q : Value → Shared → Prop) (E : Value → Shared → Prop) (vs : List Value) (kk : Nat) (ns : List Int), R = Lo + k → A.depth + k < recursionLimit → k < 100 → 0 < k → x < 2 ^ (k * n) → x < 2 ^ 60 → R ≤ ns.length → ns.length < 1000 → IntsAre vs ns →
      s.heap.get? l = some (listOf vs.toArray kk) → (∀ b o, b₀.get? b = some o → s.heap.get? b = some o) →
      (∀ h' tk vs', h'.get? l = some (listOf (List.toArray vs') kk) → IntsAre vs' (ns.take Lo ++ digs n x k ++ ns.drop R) → (∀ b o, b ≠ l → s.heap.get? b = some o → h'.get? b = some o) → Q .none { s with heap := h', toks := tk }) →
      wpAny (model prog w) A (call (.ref fI) [.int x t1, .int Lo t2, .int (R : Int) t3]) Q E s := by
  intro k
  induction k using Nat.strongRecOn with
  | ind k ih =>
    intro x Lo R t1 t2 t3 A s Q E vs kk ns hR hroom hk100 hk hx hx60 hlen hns hI hl hb hQ
    obtain ⟨o, ho, hd⟩ := S.fn
    refine wpAny_call ?_
    refine codeAny_call_def (by omega) (hb _ _ ho) hd (S.lim.keeps hb) (by obtain ⟨c, oc, vs', tq, e, ho', hd', hq'⟩ := S.code; exact ⟨c, oc, vs', tq, e, hb _ _ ho', hd', hq'⟩) hbody (S.binds _ _ _ _) S.hcell ?_ (fun h₁ hn₁ hk₁ => ?_) S.hco S.hgen S.hk
    · intro y hy
      rcases List.mem_cons.mp hy with rfl | hy
      · exact S.loc "x" (by simp)
      rcases List.mem_cons.mp hy with rfl | hy
      · exact S.loc "L" (by simp)
      · rw [List.mem_singleton.mp hy]; exact S.loc "R" (by simp)
    have hc : ∀ {h : Heap}, (∀ b o, b₀.get? b = some o → h.get? b = some o) → h.IsCell c1 (some (.ref l)) ∧ h.IsCell c2 (some (.ref fI)) ∧ h.IsCell c3 (some (.int n tn)) := fun hk => by
      obtain ⟨o1, a1, r1⟩ := S.dg
      obtain ⟨o2, a2, r2⟩ := S.inn
      obtain ⟨o3, a3, r3⟩ := S.nn
      exact ⟨⟨o1, hk _ _ a1, r1⟩, ⟨o2, hk _ _ a2, r2⟩, ⟨o3, hk _ _ a3, r3⟩⟩
    have b₁ : ∀ b o, b₀.get? b = some o → h₁.get? b = some o := fun b o e => hk₁ b o (hb b o e)
    have lx : ∀ x ∈ ["x", "L", "R", "mid", "shift", "upper", "lower"], (callEnv fd s.heap.objs.size fI).scope.names.lookup (Str.ofString x) = some .local := S.loc
    have lf : ∀ x ∈ ["a_digits", "inner", "n"], (callEnv fd s.heap.objs.size fI).scope.names.lookup (Str.ofString x) = some .free := S.free
    have hkE : (callEnv fd s.heap.objs.size fI).scope.kind = .function := S.hk
    have hpE : ((callEnv fd s.heap.objs.size fI).scope.kind == .class || ((callEnv fd s.heap.objs.size fI).scope.kind == .module && (callEnv fd s.heap.objs.size fI).locals != (callEnv fd s.heap.objs.size fI).globals)) = false := by rw [hkE]; rfl
    have hn₁' : h₁.Ns (callEnv fd s.heap.objs.size fI).locals (fun y => [(Str.ofString "x", Value.int x t1), (Str.ofString "L", .int Lo t2), (Str.ofString "R", .int (R : Int) t3)].reverse.lookup y) := hn₁
    refine wpAny_execs_cons (wpAny_If (wpAny_isTrue_Compare1 (wpAny_BinOp (rdL hkE (lx "L" (by simp)) hn₁' rfl (wpAny_Constant_int (add_int (rdL hkE (lx "R" (by simp)) hn₁' rfl (eq_int (wpAny_truthy_bool ?_)))))))))
    by_cases hk1 : k = 1
    · subst hk1
      subst hR
      rw [show ((Lo : Int) + 1 == ((Lo + 1 : Nat) : Int)) = true from by simp]
      have hl₁ : h₁.get? l = some (listOf vs.toArray kk) := hk₁ _ _ hl
      have hlt : Lo < vs.length := by rw [ints_length hI]; omega
      refine wpAny_execs_cons (wpAny_Assign_Subscript (rdL hkE (lx "x" (by simp)) hn₁' rfl (rdF hkE (lf "a_digits" (by simp)) S.cdg (hc b₁).1 (rdL hkE (lx "L" (by simp)) hn₁' rfl (ki_setAt hl₁ (by omega) (by omega) (by simpa using hlt) ?_)))))
      refine wpAny_execs_cons (wpAny_Return_none ?_)
      have e2 : vs.toArray.setIfInBounds (Lo : Int).toNat (.int x t1) = (vs.set Lo (.int x t1)).toArray := by simp
      have e3 : (h₁.update l (Obj.mapSeq (·.setIfInBounds (Lo : Int).toNat (.int x t1)))).get? l = some (listOf (vs.set Lo (.int x t1)).toArray kk) := by
        rw [Heap.get?_update_self _ hl₁ (by rfl)]
        show some (listOf (vs.toArray.setIfInBounds (Lo : Int).toNat (.int x t1)) _) = _
        rw [e2]
        simp
      refine hQ _ _ (vs.set Lo (.int x t1)) e3 ?_ fun b o hbl e => (Heap.SameBut.update ..).extBut b o hbl (hk₁ b o e)
      have e4 : ns.take Lo ++ digs n x 1 ++ ns.drop (Lo + 1) = ns.set Lo (x : Int) := by
        have hm : x % 2 ^ n = x := Nat.mod_eq_of_lt (by simpa using hx)
        simp only [digs, hm]
        rw [List.set_eq_take_append_cons_drop, if_pos (by omega)]
        simp
      rw [e4]
      exact ints_set hI Lo x t1
    · rw [show ((Lo : Int) + 1 == (R : Int)) = false from by
        apply beq_false_of_ne; intro e; omega]
      refine wpAny_execs_nil ?_
      obtain ⟨j, hj⟩ : ∃ j, j = k / 2 := ⟨_, rfl⟩
      have hj0 : 0 < j := by omega
      have hjk : j < k := by omega
      have hmid : ((Lo : Int) + (R : Int)).fdiv (2 ^ (1 : Int).toNat) = ((Lo + j : Nat) : Int) := by
        rw [Int.fdiv_eq_ediv_of_nonneg _ (by decide)]
        show ((Lo : Int) + (R : Int)) / 2 = _
        omega
      refine wpAny_execs_cons (wpAny_Assign_Name (wpAny_BinOp (wpAny_BinOp (rdL hkE (lx "L" (by simp)) hn₁' rfl (rdL hkE (lx "R" (by simp)) hn₁' rfl (add_int (wpAny_Constant_int (rshE (by decide) hmid ?_))))))))
      refine wpAny_storeName_local (lx "mid" (by simp)) hn₁' (fun h₂ hn₂ hs₂ => ?_) hpE
      replace hs₂ : Heap.SameBut s.heap.objs.size h₁ h₂ := hs₂
      have hLo : ∀ b o, b₀.get? b = some o → b ≠ s.heap.objs.size := fun b o e => Nat.ne_of_lt (Heap.lt_size (hb b o e))
      have b₂ : ∀ b o, b₀.get? b = some o → h₂.get? b = some o := fun b o e => hs₂.extBut b o (hLo b o e) (b₁ b o e)
      have hsh : (((Lo + j : Nat) : Int) - (Lo : Int)) * (n : Int) = ((j * n : Nat) : Int) := by
        have : ((Lo + j : Nat) : Int) - (Lo : Int) = (j : Int) := by omega
        rw [this]; push_cast; rfl
      have hmu : IntMulOk (((Lo + j : Nat) : Int) - (Lo : Int)) (n : Int) := IntMulOk.of_right (intBits_le_64 (by omega) (by omega))
      refine wpAny_execs_cons (wpAny_Assign_Name (wpAny_BinOp (wpAny_BinOp (rdL hkE (lx "mid" (by simp)) hn₂ rfl (rdL hkE (lx "L" (by simp)) hn₂ rfl (sub_int (rdF hkE (lf "n" (by simp)) S.cnn (hc b₂).2.2 (mulE hsh hmu ?_))))))))
      refine wpAny_storeName_local (lx "shift" (by simp)) hn₂ (fun h₃ hn₃ hs₃ => ?_) hpE
      replace hs₃ : Heap.SameBut s.heap.objs.size h₂ h₃ := hs₃
      have b₃ : ∀ b o, b₀.get? b = some o → h₃.get? b = some o := fun b o e => hs₃.extBut b o (hLo b o e) (b₂ b o e)
      have hup : (x : Int).fdiv (2 ^ ((j * n : Nat) : Int).toNat) = ((x / 2 ^ (j * n) : Nat) : Int) := by
        rw [Int.toNat_natCast, Int.fdiv_eq_ediv_of_nonneg _ (by exact_mod_cast Nat.zero_le _)]
        push_cast; rfl
      refine wpAny_execs_cons (wpAny_Assign_Name (wpAny_BinOp (rdL hkE (lx "x" (by simp)) hn₃ rfl (rdL hkE (lx "shift" (by simp)) hn₃ rfl (rshE (by omega) hup ?_)))))
      refine wpAny_storeName_local (lx "upper" (by simp)) hn₃ (fun h₄ hn₄ hs₄ => ?_) hpE
      replace hs₄ : Heap.SameBut s.heap.objs.size h₃ h₄ := hs₄
      have hup60 : x / 2 ^ (j * n) < 2 ^ 60 := Nat.lt_of_le_of_lt (Nat.div_le_self ..) hx60
      have hjn : ((j * n : Nat) : Int) ≤ 1000000 := by
        have : j * n ≤ 100 * 1000 := Nat.mul_le_mul (by omega) (by omega)
        omega
      have hxo : Builtin.bitXor (x : Int) (((x / 2 ^ (j * n) : Nat) : Int) * 2 ^ ((j * n : Nat) : Int).toNat) = ((x % 2 ^ (j * n) : Nat) : Int) := by
        rw [Int.toNat_natCast, ← xor_low]
        congr 1
      have hna : ((x / 2 ^ (j * n) : Nat) : Int).natAbs < 2 ^ 64 := by
        rw [Int.natAbs_natCast]; exact Nat.lt_trans hup60 (by decide)
      refine wpAny_execs_cons (wpAny_Assign_Name (wpAny_BinOp (rdL hkE (lx "x" (by simp)) hn₄ rfl (wpAny_BinOp (rdL hkE (lx "upper" (by simp)) hn₄ rfl (rdL hkE (lx "shift" (by simp)) hn₄ rfl (lshift_int_small (by omega) hjn hna (xorE hxo ?_))))))))
      refine wpAny_storeName_local (lx "lower" (by simp)) hn₄ (fun h₅ hn₅ hs₅ => ?_) hpE
      replace hs₅ : Heap.SameBut s.heap.objs.size h₄ h₅ := hs₅
      have b₅ : ∀ b o, b₀.get? b = some o → h₅.get? b = some o := fun b o e => hs₅.extBut b o (hLo b o e) (hs₄.extBut b o (hLo b o e) (b₃ b o e))
      have k₅ : ∀ b o, s.heap.get? b = some o → h₅.get? b = some o := fun b o e => by
        have q : b ≠ s.heap.objs.size := Nat.ne_of_lt (Heap.lt_size e)
        exact hs₅.extBut b o q (hs₄.extBut b o q (hs₃.extBut b o q (hs₂.extBut b o q (hk₁ b o e))))
      have fnAt : ∀ {h : Heap}, (∀ b o, b₀.get? b = some o → h.get? b = some o) → FnAt fI h := fun hk => by
        obtain ⟨oc, od, dt, sl⟩ := o
        replace hd : dt = .func fd := hd
        subst hd
        exact ⟨_, _, _, _, hk _ _ ho⟩
      have hlL : l ≠ s.heap.objs.size := Nat.ne_of_lt (Heap.lt_size hl)
      have hxs : x / 2 ^ (j * n) < 2 ^ ((k - j) * n) := by
        apply Nat.div_lt_of_lt_mul
        rw [← Nat.pow_add, ← Nat.add_mul, Nat.add_sub_cancel' (by omega)]
        exact hx
      refine wpAny_execs_cons (wpAny_Expr_any (Call_ (rdF hkE (lf "inner" (by simp)) S.cinn (hc b₅).2.1 (callWith_F (fnAt b₅) (spliced_more (rdL hkE (lx "lower" (by simp)) hn₅ rfl (spliced_more (rdL hkE (lx "L" (by simp)) hn₅ rfl (spliced_more (rdL hkE (lx "mid" (by simp)) hn₅ rfl (spliced_none ⟨fnAt b₅, ?_⟩)))))))))) ?hi rfl)
      case hi =>
        show (fd.scope.kind == .module && _) = false
        rw [S.hk]; rfl
      refine ih j hjk (x % 2 ^ (j * n)) Lo (Lo + j) _ _ _ _ _ _ _ vs kk ns rfl (by rw [depth_deeper]; omega) (by omega) hj0 (Nat.mod_lt _ (Nat.two_pow_pos _)) (Nat.lt_of_le_of_lt (Nat.mod_le ..) hx60) (by omega) hns hI (k₅ _ _ hl) b₅ fun h₆ tk₆ vs₆ hl₆ hI₆ hk₆ => ?_
      replace hk₆ : ∀ b o, b ≠ l → h₅.get? b = some o → h₆.get? b = some o := hk₆
      have b₆ : ∀ b o, b₀.get? b = some o → h₆.get? b = some o := fun b o e => hk₆ b o (fun q => by rw [q, S.off] at e; cases e) (b₅ b o e)
      have hn₆ := hn₅.at' fun o e => hk₆ _ o (Ne.symm hlL) e
      refine wpAny_execs_cons (wpAny_Expr_any (Call_ (rdF hkE (lf "inner" (by simp)) S.cinn (hc b₆).2.1 (callWith_F (fnAt b₆) (spliced_more (rdL hkE (lx "upper" (by simp)) hn₆ rfl (spliced_more (rdL hkE (lx "mid" (by simp)) hn₆ rfl (spliced_more (rdL hkE (lx "R" (by simp)) hn₆ rfl (spliced_none ⟨fnAt b₆, ?_⟩)))))))))) ?hi2 rfl)
      case hi2 =>
        show (fd.scope.kind == .module && _) = false
        rw [S.hk]; rfl
      have hdl := digs_length n j (x % 2 ^ (j * n))
      have hlen₆ : (ns.take Lo ++ digs n (x % 2 ^ (j * n)) j ++ ns.drop (Lo + j)).length = ns.length := by
        simp only [List.length_append, List.length_take, List.length_drop, hdl]; omega
      refine ih (k - j) (by omega) (x / 2 ^ (j * n)) (Lo + j) R _ _ _ _ _ _ _ vs₆ kk _ (by omega) (by rw [depth_deeper]; omega) (by omega) (by omega) hxs hup60 (by rw [hlen₆]; exact hlen) (by rw [hlen₆]; exact hns) hI₆ hl₆ b₆ fun h₇ tk₇ vs₇ hl₇ hI₇ hk₇ => ?_
      replace hk₇ : ∀ b o, b ≠ l → h₆.get? b = some o → h₇.get? b = some o := hk₇
      refine wpAny_execs_nil ?_
      refine hQ h₇ tk₇ vs₇ hl₇ ?_ fun b o hbl e => hk₇ b o hbl (hk₆ b o hbl (k₅ b o e))
      have e1 : (ns.take Lo ++ digs n (x % 2 ^ (j * n)) j ++ ns.drop (Lo + j)).take (Lo + j) = ns.take Lo ++ digs n (x % 2 ^ (j * n)) j := by
        rw [List.take_append_of_le_length (by simp only [List.length_append, List.length_take, hdl]; omega), List.take_of_length_le (by simp only [List.length_append, List.length_take, hdl]; omega)]
      have e2 : (ns.take Lo ++ digs n (x % 2 ^ (j * n)) j ++ ns.drop (Lo + j)).drop R = ns.drop R := by
        rw [List.drop_append, List.drop_of_length_le (by simp only [List.length_append, List.length_take, hdl]; omega), List.nil_append, List.drop_drop]
        congr 1
        simp only [List.length_append, List.length_take, hdl]
        omega
      have e3 : digs n x k = digs n (x % 2 ^ (j * n)) j ++ digs n (x / 2 ^ (j * n)) (k - j) := by
        rw [← digs_split, Nat.add_sub_cancel' (by omega)]
      rw [e1, e2] at hI₇
      rw [e3, ← List.append_assoc (ns.take Lo)]
      exact hI₇
end
end
section
/-- the number that digits by 2 ^ n make, the lowest first -/
def val (n : Nat) : List Nat → Nat
  | [] => 0
  | d :: r => d + 2 ^ n * val n r
theorem val_append (n : Nat) (a b : List Nat) : val n (a ++ b) = val n a + 2 ^ (a.length * n) * val n b := by
  induction a with
  | nil => simp [val]
  | cons d r ih =>
    simp only [List.cons_append, val, ih, List.length_cons]
    rw [Nat.mul_add, ← Nat.mul_assoc, ← Nat.pow_add, Nat.add_assoc]
    congr 4
    rw [Nat.succ_mul]; omega
theorem val_lt (n : Nat) : ∀ (a : List Nat), (∀ d ∈ a, d < 2 ^ n) → val n a < 2 ^ (a.length * n)
  | [], _ => by simp [val]
  | d :: r, h => by
    have ih := val_lt n r fun d hd => h d (.tail _ hd)
    have h0 := h d (.head _)
    simp only [val, List.length_cons]
    rw [show (r.length + 1) * n = n + r.length * n by rw [Nat.succ_mul]; omega, Nat.pow_add]
    calc d + 2 ^ n * val n r < 2 ^ n + 2 ^ n * val n r := by omega
      _ = 2 ^ n * (val n r + 1) := by rw [Nat.mul_add]; omega
      _ ≤ 2 ^ n * 2 ^ (r.length * n) := Nat.mul_le_mul_left _ ih
theorem ints_get {vs : List Value} {ns : List Int} (h : IntsAre vs ns) : ∀ {i : Nat} {x : Int}, ns[i]? = some x → ∃ t, vs[i]? = some (.int x t) := by
  induction h with
  | nil => intro i x e; simp at e
  | cons n t _ ih =>
    intro i x e
    cases i with
    | zero => simp at e; exact ⟨t, by simp [e]⟩
    | succ i => simpa using ih (by simpa using e)
section
variable {prog : Program} {w : World} {fd : FuncData} {fI c1 c2 c3 l : Addr} {b₀ : Heap} {n : Nat} {tn : Tok} {ds : List Nat} {vs : List Value} {kk : Nat}
  {p1 p2 p3 p4 p5 p6 p7 p8 p9 p10 p11 p12 p13 p14 p15 p16 p17 p18 p19 p20 p21 p22 p23 p24 p25 p26 p27 p28 p29 p30 p31 p32 p33 p34 p35 p36 : Pos} {k1 k2 : Nat}
abbrev sumBody (p1 p2 p3 p4 p5 p6 p7 p8 p9 p10 p11 p12 p13 p14 p15 p16 p17 p18 p19 p20 p21 p22 p23 p24 p25 p26 p27 p28 p29 p30 p31 p32 p33 p34 p35 p36 : Pos) (k1 k2 : Nat) : List Stmt :=
  [.If (.Compare (.BinOp (N "L" p1) .Add (.Constant (.int 1) k1 p2) p3) [.Eq] [N "R" p4] p5) [.Return (some (.Subscript (N "digits" p6) (N "L" p7) p8)) p9] [] p10,
    .Assign [N "mid" p11] (.BinOp (.BinOp (N "L" p12) .Add (N "R" p13) p14) .RShift (.Constant (.int 1) k2 p15) p16) p17,
    .Assign [N "shift" p18] (.BinOp (.BinOp (N "mid" p19) .Sub (N "L" p20) p21) .Mult (N "n" p22) p23) p24,
    .Return (some (.BinOp (.BinOp (.Call (N "inner" p25) [N "mid" p26, N "R" p27] [] p28) .LShift (N "shift" p29) p30) .Add (.Call (N "inner" p31) [N "L" p32, N "mid" p33] [] p34) p35)) p36]
/-- what stands of the closure `inner` of _digits2int -/
structure SumFn (b₀ : Heap) (fI c1 c2 c3 l : Addr) (n : Nat) (tn : Tok) (vs : List Value) (kk : Nat) (fd : FuncData) : Prop where
  fn : ∃ o, b₀.get? fI = some o ∧ o.data = .func fd
  code : b₀.CodeRec fd.code fd.qualname
  lim : b₀.NoLimit
  dg : b₀.IsCell c1 (some (.ref l))
  inn : b₀.IsCell c2 (some (.ref fI))
  nn : b₀.IsCell c3 (some (.int n tn))
  list : b₀.get? l = some (listOf vs.toArray kk)
  cdg : fd.closure.lookup (Str.ofString "digits") = some c1
  cinn : fd.closure.lookup (Str.ofString "inner") = some c2
  cnn : fd.closure.lookup (Str.ofString "n") = some c3
  hk : fd.scope.kind = .function
  hco : fd.scope.isCoroutine = false
  hgen : fd.scope.isGenerator = false
  hcell : ∀ x ∈ fd.scope.names, x.2 ≠ .cell
  loc : ∀ x ∈ ["L", "R", "mid", "shift"], fd.scope.names.lookup (Str.ofString x) = some .local
  free : ∀ x ∈ ["digits", "inner", "n"], fd.scope.names.lookup (Str.ofString x) = some .free
  binds : ∀ (s : Shared) (L R : Value), BindsTo s fd ⟨[L, R], []⟩ [(Str.ofString "L", L), (Str.ofString "R", R)]

theorem inner_sum (S : SumFn b₀ fI c1 c2 c3 l n tn vs kk fd) (hn : 0 < n ∧ n < 1000) (hI : IntsAre vs (ds.map fun (d : Nat) => (d : Int))) (hd2 : ∀ d ∈ ds, d < 2 ^ n) (hlen : ds.length * n ≤ 60)
    (hbody : fd.body = .stmts (sumBody p1 p2 p3 p4 p5 p6 p7 p8 p9 p10 p11 p12 p13 p14 p15 p16 p17 p18 p19 p20 p21 p22 p23 p24 p25 p26 p27 p28 p29 p30 p31 p32 p33 p34 p35 p36 k1 k2)) :
    ∀ (k : Nat) (Lo R : Nat) (t2 t3 : Tok) (A : Around) (s : Shared) (Q : Value → Shared → Prop) (E : Value → Shared → Prop), R = Lo + k → A.depth + k < recursionLimit → k < 100 → 0 < k → R ≤ ds.length →
      (∀ b o, b₀.get? b = some o → s.heap.get? b = some o) →
      (∀ h' tk t, (∀ b o, s.heap.get? b = some o → h'.get? b = some o) → Q (.int ((val n ((ds.drop Lo).take k) : Nat) : Int) t) { s with heap := h', toks := tk }) →
      wpAny (model prog w) A (call (.ref fI) [.int Lo t2, .int (R : Int) t3]) Q E s := by
  intro k
  induction k using Nat.strongRecOn with
  | ind k ih =>
    intro Lo R t2 t3 A s Q E hR hroom hk100 hk hRl hb hQ
    obtain ⟨o, ho, hd⟩ := S.fn
    refine wpAny_call ?_
    refine codeAny_call_def (by omega) (hb _ _ ho) hd (S.lim.keeps hb) (by obtain ⟨c, oc, vs', tq, e, ho', hd', hq'⟩ := S.code; exact ⟨c, oc, vs', tq, e, hb _ _ ho', hd', hq'⟩) hbody (S.binds _ _ _) S.hcell ?_ (fun h₁ hn₁ hk₁ => ?_) S.hco S.hgen S.hk
    · intro y hy
      rcases List.mem_cons.mp hy with rfl | hy
      · exact S.loc "L" (by simp)
      · rw [List.mem_singleton.mp hy]; exact S.loc "R" (by simp)
    have hc : ∀ {h : Heap}, (∀ b o, b₀.get? b = some o → h.get? b = some o) → h.IsCell c1 (some (.ref l)) ∧ h.IsCell c2 (some (.ref fI)) ∧ h.IsCell c3 (some (.int n tn)) := fun hk => by
      obtain ⟨o1, a1, r1⟩ := S.dg
      obtain ⟨o2, a2, r2⟩ := S.inn
      obtain ⟨o3, a3, r3⟩ := S.nn
      exact ⟨⟨o1, hk _ _ a1, r1⟩, ⟨o2, hk _ _ a2, r2⟩, ⟨o3, hk _ _ a3, r3⟩⟩
    have b₁ : ∀ b o, b₀.get? b = some o → h₁.get? b = some o := fun b o e => hk₁ b o (hb b o e)
    have lx : ∀ x ∈ ["L", "R", "mid", "shift"], (callEnv fd s.heap.objs.size fI).scope.names.lookup (Str.ofString x) = some .local := S.loc
    have lf : ∀ x ∈ ["digits", "inner", "n"], (callEnv fd s.heap.objs.size fI).scope.names.lookup (Str.ofString x) = some .free := S.free
    have hkE : (callEnv fd s.heap.objs.size fI).scope.kind = .function := S.hk
    have hpE : ((callEnv fd s.heap.objs.size fI).scope.kind == .class || ((callEnv fd s.heap.objs.size fI).scope.kind == .module && (callEnv fd s.heap.objs.size fI).locals != (callEnv fd s.heap.objs.size fI).globals)) = false := by rw [hkE]; rfl
    have hn₁' : h₁.Ns (callEnv fd s.heap.objs.size fI).locals (fun y => [(Str.ofString "L", Value.int Lo t2), (Str.ofString "R", .int (R : Int) t3)].reverse.lookup y) := hn₁
    refine wpAny_execs_cons (wpAny_If (wpAny_isTrue_Compare1 (wpAny_BinOp (rdL hkE (lx "L" (by simp)) hn₁' rfl (wpAny_Constant_int (add_int (rdL hkE (lx "R" (by simp)) hn₁' rfl (eq_int (wpAny_truthy_bool ?_)))))))))
    by_cases hk1 : k = 1
    · subst hk1
      subst hR
      rw [show ((Lo : Int) + 1 == ((Lo + 1 : Nat) : Int)) = true from by simp]
      have hLl : h₁.IsList l vs.toArray := ⟨_, b₁ _ _ S.list, rfl, kk, rfl⟩
      have hlt : Lo < ds.length := by omega
      obtain ⟨td, hv⟩ : ∃ td, vs[Lo]? = some (.int ((ds[Lo] : Nat) : Int) td) := by
        have e1 : (ds.map fun (d : Nat) => (d : Int))[Lo]? = some ((ds[Lo] : Nat) : Int) := by simp [hlt]
        exact ints_get hI e1
      refine wpAny_execs_cons (wpAny_Return_some (Subscript_ (rdF hkE (lf "digits" (by simp)) S.cdg (hc b₁).1 (rdL hkE (lx "L" (by simp)) hn₁' rfl (tail_any hLl.typeIs slot_list_getitem.lookup (wpAny_getItem_list (x := .int ((ds[Lo] : Nat) : Int) td) hLl (by omega) ?_ (by simpa using hv) ?_) (by with_unfolding_all rfl))))))
      · have := Nat.le_trans (Nat.le_mul_of_pos_right ds.length hn.1) hlen
        omega
      · have e : val n ((ds.drop Lo).take 1) = ds[Lo] := by
          rw [List.drop_eq_getElem_cons hlt, List.take_succ_cons, List.take_zero]; simp [val]
        have z := fun tk => hQ h₁ tk td hk₁
        simp only [e] at z
        exact z _
    · rw [show ((Lo : Int) + 1 == (R : Int)) = false from by
        apply beq_false_of_ne; intro e; omega]
      refine wpAny_execs_nil ?_
      obtain ⟨j, hj⟩ : ∃ j, j = k / 2 := ⟨_, rfl⟩
      have hj0 : 0 < j := by omega
      have hjk : j < k := by omega
      have hmid : ((Lo : Int) + (R : Int)).fdiv (2 ^ (1 : Int).toNat) = ((Lo + j : Nat) : Int) := by
        rw [Int.fdiv_eq_ediv_of_nonneg _ (by decide)]
        show ((Lo : Int) + (R : Int)) / 2 = _
        omega
      refine wpAny_execs_cons (wpAny_Assign_Name (wpAny_BinOp (wpAny_BinOp (rdL hkE (lx "L" (by simp)) hn₁' rfl (rdL hkE (lx "R" (by simp)) hn₁' rfl (add_int (wpAny_Constant_int (rshE (by decide) hmid ?_))))))))
      refine wpAny_storeName_local (lx "mid" (by simp)) hn₁' (fun h₂ hn₂ hs₂ => ?_) hpE
      replace hs₂ : Heap.SameBut s.heap.objs.size h₁ h₂ := hs₂
      have hLo : ∀ b o, b₀.get? b = some o → b ≠ s.heap.objs.size := fun b o e => Nat.ne_of_lt (Heap.lt_size (hb b o e))
      have b₂ : ∀ b o, b₀.get? b = some o → h₂.get? b = some o := fun b o e => hs₂.extBut b o (hLo b o e) (b₁ b o e)
      have hsh : (((Lo + j : Nat) : Int) - (Lo : Int)) * (n : Int) = ((j * n : Nat) : Int) := by
        have : ((Lo + j : Nat) : Int) - (Lo : Int) = (j : Int) := by omega
        rw [this]; push_cast; rfl
      have hmu : IntMulOk (((Lo + j : Nat) : Int) - (Lo : Int)) (n : Int) := IntMulOk.of_right (intBits_le_64 (by omega) (by omega))
      refine wpAny_execs_cons (wpAny_Assign_Name (wpAny_BinOp (wpAny_BinOp (rdL hkE (lx "mid" (by simp)) hn₂ rfl (rdL hkE (lx "L" (by simp)) hn₂ rfl (sub_int (rdF hkE (lf "n" (by simp)) S.cnn (hc b₂).2.2 (mulE hsh hmu ?_))))))))
      refine wpAny_storeName_local (lx "shift" (by simp)) hn₂ (fun h₃ hn₃ hs₃ => ?_) hpE
      replace hs₃ : Heap.SameBut s.heap.objs.size h₂ h₃ := hs₃
      have b₃ : ∀ b o, b₀.get? b = some o → h₃.get? b = some o := fun b o e => hs₃.extBut b o (hLo b o e) (b₂ b o e)
      have k₃ : ∀ b o, s.heap.get? b = some o → h₃.get? b = some o := fun b o e => by
        have q : b ≠ s.heap.objs.size := Nat.ne_of_lt (Heap.lt_size e)
        exact hs₃.extBut b o q (hs₂.extBut b o q (hk₁ b o e))
      have fnAt : ∀ {h : Heap}, (∀ b o, b₀.get? b = some o → h.get? b = some o) → FnAt fI h := fun hk => by
        obtain ⟨oc, od, dt, sl⟩ := o
        replace hd : dt = .func fd := hd
        subst hd
        exact ⟨_, _, _, _, hk _ _ ho⟩
      refine wpAny_execs_cons (wpAny_Return_some (wpAny_BinOp (wpAny_BinOp (Call_ (rdF hkE (lf "inner" (by simp)) S.cinn (hc b₃).2.1 (callWith_F (fnAt b₃) (spliced_more (rdL hkE (lx "mid" (by simp)) hn₃ rfl (spliced_more (rdL hkE (lx "R" (by simp)) hn₃ rfl (spliced_none ⟨fnAt b₃, ?_⟩)))))))))))
      refine ih (k - j) (by omega) (Lo + j) R _ _ _ _ _ _ (by omega) (by rw [depth_deeper]; omega) (by omega) (by omega) hRl b₃ fun h₄ tk₄ t₄ hk₄ => ?_
      replace hk₄ : ∀ b o, h₃.get? b = some o → h₄.get? b = some o := hk₄
      have b₄ : ∀ b o, b₀.get? b = some o → h₄.get? b = some o := fun b o e => hk₄ b o (b₃ b o e)
      have hn₄ := hn₃.at' fun o e => hk₄ _ o e
      have hmem : ∀ d ∈ (ds.drop (Lo + j)).take (k - j), d < 2 ^ n := fun d hd => hd2 d (List.mem_of_mem_drop (List.mem_of_mem_take hd))
      have hkj : ((ds.drop (Lo + j)).take (k - j)).length ≤ ds.length := by simp; omega
      have hbd : val n ((ds.drop (Lo + j)).take (k - j)) < 2 ^ 60 := Nat.lt_of_lt_of_le (val_lt n _ hmem) (Nat.pow_le_pow_right (by decide) (Nat.le_trans (Nat.mul_le_mul_right n hkj) hlen))
      have hna : ((val n ((ds.drop (Lo + j)).take (k - j)) : Nat) : Int).natAbs < 2 ^ 64 := by
        rw [Int.natAbs_natCast]; exact Nat.lt_trans hbd (by decide)
      have hjn : ((j * n : Nat) : Int) ≤ 1000000 := by
        have : j * n ≤ ds.length * n := Nat.mul_le_mul_right n (by omega)
        omega
      refine rdL hkE (lx "shift" (by simp)) hn₄ rfl (lshift_int_small (by omega) hjn hna ?_)
      refine Call_ (rdF hkE (lf "inner" (by simp)) S.cinn (hc b₄).2.1 (callWith_F (fnAt b₄) (spliced_more (rdL hkE (lx "L" (by simp)) hn₄ rfl (spliced_more (rdL hkE (lx "mid" (by simp)) hn₄ rfl (spliced_none ⟨fnAt b₄, ?_⟩)))))))
      refine ih j hjk Lo (Lo + j) _ _ _ _ _ _ rfl (by rw [depth_deeper]; omega) (by omega) hj0 (by omega) b₄ fun h₅ tk₅ t₅ hk₅ => ?_
      replace hk₅ : ∀ b o, h₄.get? b = some o → h₅.get? b = some o := hk₅
      refine add_int ?_
      have e : ((val n ((ds.drop (Lo + j)).take (k - j)) : Nat) : Int) * 2 ^ ((j * n : Nat) : Int).toNat + ((val n ((ds.drop Lo).take j) : Nat) : Int) = ((val n ((ds.drop Lo).take k) : Nat) : Int) := by
        have e1 : (ds.drop Lo).take k = (ds.drop Lo).take j ++ (ds.drop (Lo + j)).take (k - j) := by
          rw [show k = j + (k - j) by omega, List.take_add, List.drop_drop]
          congr 2; congr 1; omega
        have e2 : ((ds.drop Lo).take j).length = j := by simp; omega
        rw [e1, val_append, e2, Int.toNat_natCast]
        push_cast
        rw [Int.mul_comm, Int.add_comm]
      have z := hQ h₅ (tk₅ + 1) tk₅ fun b o e => hk₅ b o (hk₄ b o (k₃ b o e))
      rw [← e] at z
      exact z
end
end
section
/-- where the walker is to halt -/
def Stop (p : Prop) : Prop := p
theorem Stop.go {p : Prop} (h : Stop p) : p := h
theorem Stop.on {p : Prop} (h : p) : Stop p := h
theorem Fr.put {h₀ h : Heap} {L : Addr} {m : Str → Option Value} {x : Str} {v : Value} (F : Fr h₀ L h m) (e : m x = some v) : Fr h₀ L h (fun z => if z = x then some v else m z) := by
  have : (fun z => if z = x then some v else m z) = m := by
    funext z
    by_cases q : z = x
    · rw [if_pos q, q, e]
    · rw [if_neg q]
  rw [this]; exact F
/-- the map parts from m₀ at the named names alone -/
def Same (m₀ : PySem.Str → Option Value) (l : List PySem.Str) (m : PySem.Str → Option Value) : Prop := ∀ z, z ∉ l → m z = m₀ z
theorem Same.refl {m₀ : PySem.Str → Option Value} {l : List PySem.Str} : Same m₀ l m₀ := fun _ _ => rfl
theorem Same.put {m₀ m : PySem.Str → Option Value} {l : List PySem.Str} {y : PySem.Str} {v : Option Value} (hy : y ∈ l) (h : Same m₀ l m) : Same m₀ l (fun z => if z = y then v else m z) := fun z hz => by
  show (if z = y then v else m z) = m₀ z
  rw [if_neg (fun e : z = y => hz (e.symm ▸ hy)), h z hz]
theorem Same.get {m₀ m : PySem.Str → Option Value} {l : List PySem.Str} {y : PySem.Str} {v : Option Value} (h : Same m₀ l m) (hy : y ∉ l) (e : m₀ y = v) : m y = v := (h y hy).trans e
theorem Same.keep {m₀ m : PySem.Str → Option Value} {l : List PySem.Str} {y : PySem.Str} {v : Option Value} (e : m₀ y = v) (h : Same m₀ l m) : Same m₀ l (fun z => if z = y then v else m z) := fun z hz => by
  show (if z = y then v else m z) = m₀ z
  by_cases q : z = y
  · rw [if_pos q, q, e]
  · rw [if_neg q, h z hz]
theorem Same.trans {m₀ m₁ m : PySem.Str → Option Value} {l l' : List PySem.Str} (h : Same m₀ l m₁) (h' : Same m₁ l' m) (hs : ∀ z ∈ l', z ∈ l) : Same m₀ l m := fun z hz => (h' z fun q => hz (hs z q)).trans (h z hz)
/-- the end of a turn, as one word: the walker halts at it -/
def TurnEnd (h₀ : Heap) (L I : Addr) (it : Obj) (J : (PySem.Str → Option Value) → List (Addr × Obj) → Prop) (s₁ : Shared) (f : Flow) (s' : Shared) : Prop :=
  f = .next ∧ ∃ h' tk' m'' news'', s' = { s₁ with heap := h', toks := tk' } ∧ J m'' news'' ∧ Fr h₀ L h' m'' ∧ News h₀ L h' ((I, it) :: news'') ∧ ∀ p ∈ news'', p.1 ≠ I
def TurnEnd1 (h₀ : Heap) (L I : Addr) (it : Obj) (news : List (Addr × Obj)) (J : (PySem.Str → Option Value) → Prop) (s₁ : Shared) (f : Flow) (s' : Shared) : Prop :=
  f = .next ∧ ∃ h' tk' m'', s' = { s₁ with heap := h', toks := tk' } ∧ J m'' ∧ Fr h₀ L h' m'' ∧ News h₀ L h' ((I, it) :: news)
theorem TurnEnd.of {h₀ : Heap} {L I : Addr} {it : Obj} {J : (PySem.Str → Option Value) → List (Addr × Obj) → Prop} {s₁ : Shared} {h' : Heap} {tk' : Nat} {m'' : PySem.Str → Option Value} (news'' : List (Addr × Obj))
    (F : Fr h₀ L h' m'') (N : News h₀ L h' ((I, it) :: news'')) (ho : ∀ p ∈ news'', p.1 ≠ I) (hJ : J m'' news'') : TurnEnd h₀ L I it J s₁ .next { s₁ with heap := h', toks := tk' } := ⟨rfl, h', tk', m'', news'', rfl, hJ, F, N, ho⟩
theorem TurnEnd1.of {h₀ : Heap} {L I : Addr} {it : Obj} {news : List (Addr × Obj)} {J : (PySem.Str → Option Value) → Prop} {s₁ : Shared} {h' : Heap} {tk' : Nat} {m'' : PySem.Str → Option Value}
    (F : Fr h₀ L h' m'') (N : News h₀ L h' ((I, it) :: news)) (hJ : J m'') : TurnEnd1 h₀ L I it news J s₁ .next { s₁ with heap := h', toks := tk' } := ⟨rfl, h', tk', m'', rfl, hJ, F, N⟩
section
variable {prog : Program} {w : World} {A : Around} {E : Value → Shared → Prop} {s : Shared} {env : Env} {h₀ : Heap} {x : PySem.Str} {body : List Stmt} {Q : Flow → Shared → Prop}
/-- a loop over a range by ones: what holds between the turns of the frame's map and of the ledger -/
theorem range_inv {I : Addr} {a : Int} {n : Nat} (Inv : Nat → (PySem.Str → Option Value) → List (Addr × Obj) → Prop)
    (turn : ∀ i, i < n → ∀ m' news t h tk, Inv i m' news → (∀ p ∈ news, p.1 ≠ I) → Fr h₀ env.locals h (fun y => if y = x then some (.int (a + (i : Int)) t) else m' y) → News h₀ env.locals h ((I, itR (a + ((i + 1 : Nat) : Int)) ((n : Int) - ((i + 1 : Nat) : Int))) :: news) →
      wpAny (model prog w) A (execs body env) (TurnEnd h₀ env.locals I (itR (a + ((i + 1 : Nat) : Int)) ((n : Int) - ((i + 1 : Nat) : Int))) (Inv (i + 1)) { s with heap := h, toks := tk }) E { s with heap := h, toks := tk })
    (done : ∀ m' news h tk, Inv n m' news → Fr h₀ env.locals h m' → News h₀ env.locals h news → Q .next { s with heap := h, toks := tk }) :
    ∀ k i m' news, k + i = n → Inv i m' news → (∀ p ∈ news, p.1 ≠ I) → RangeRest prog w A E h₀ env x body Q s I a n k i m' news
  | 0, i, m', news, hk, hi, _ => RangeRest.zero fun h tk F N => done m' news h tk (by rw [Nat.zero_add] at hk; exact hk ▸ hi) F N
  | k + 1, i, m', news, hk, hi, ho => RangeRest.succ fun t h tk F N => wpAny_mono (turn i (by omega) m' news t h tk hi ho F N) (fun f s₂ q => by
      obtain ⟨rfl, h', tk', m'', news'', rfl, hi', F', N', ho'⟩ := q
      exact ⟨h', tk', m'', news'', rfl, F', N', ho', range_inv Inv turn done k (i + 1) m'' news'' (by omega) hi' ho'⟩) fun _ _ e => e
theorem for_rangeN {r : Addr} {a₀ b₀ : Int} {t₀ u₀ v₀ : Tok} {m₀ : PySem.Str → Option Value} {news₀ : List (Addr × Obj)} {L : Addr} (hL : env.locals = L) (a n : Nat) (Inv : Nat → (PySem.Str → Option Value) → List (Addr × Obj) → Prop)
    (hh : A.handled = none) (hr : IsRange s.heap r a₀ b₀ 1 t₀ u₀ v₀) (ha : a₀ = (a : Int)) (hb : b₀ = ((a + n : Nat) : Int)) (hn : a + n ≤ 1000) (F : Fr h₀ L s.heap m₀) (N : News h₀ L s.heap news₀) (start : Inv 0 m₀ news₀)
    (turn : ∀ I : Addr, (∀ p ∈ news₀, @LT.lt Nat _ p.1 I) → ∀ i, i < n → ∀ m' news t h tk it, Inv i m' news → (∀ p ∈ news, p.1 ≠ I) → Fr h₀ L h (fun y => if y = x then some (.int ((a : Int) + (i : Int)) t) else m' y) → News h₀ L h ((I, it) :: news) →
      wpAny (model prog w) A (execs body env) (TurnEnd h₀ L I it (Inv (i + 1)) { s with heap := h, toks := tk }) E { s with heap := h, toks := tk })
    (done : ∀ m' news h tk, Inv n m' news → Fr h₀ L h m' → News h₀ L h news → Q .next { s with heap := h, toks := tk }) :
    wpAny (model prog w) A (pyIter (.ref r)) (fun it s₂ => LoopAtV prog w A h₀ env x body Q E it s₂) E s := by
  subst ha hb hL
  have hsz : Builtin.Range.rangeSize (a : Int) ((a + n : Nat) : Int) 1 = (n : Int) := by rw [rangeSize_one]; split <;> omega
  refine iter_rangeUnr hh hr (small_one (by omega) (by omega) (by omega) (by omega)) hsz F N fun I hlt => ?_
  exact range_inv Inv (fun i hi m' news t h tk hI ho F N => turn I hlt i hi m' news t h tk _ hI ho F N) done n 0 m₀ news₀ rfl start (fun p hp => Nat.ne_of_lt (hlt p hp))
theorem for_range {r : Addr} {a₀ b₀ : Int} {t₀ u₀ v₀ : Tok} {m₀ : PySem.Str → Option Value} {news : List (Addr × Obj)} {L : Addr} (hL : env.locals = L) (n : Nat) (Inv : Nat → (PySem.Str → Option Value) → Prop)
    (hh : A.handled = none) (hr : IsRange s.heap r a₀ b₀ 1 t₀ u₀ v₀) (ha : a₀ = 0) (hb : b₀ = (n : Int)) (hn : n ≤ 1000) (F : Fr h₀ L s.heap m₀) (N : News h₀ L s.heap news) (start : Inv 0 m₀)
    (turn : ∀ I : Addr, (∀ p ∈ news, @LT.lt Nat _ p.1 I) → ∀ i, i < n → ∀ m' t h tk it, Inv i m' → Fr h₀ L h (fun y => if y = x then some (.int (i : Int) t) else m' y) → News h₀ L h ((I, it) :: news) →
      wpAny (model prog w) A (execs body env) (TurnEnd1 h₀ L I it news (Inv (i + 1)) { s with heap := h, toks := tk }) E { s with heap := h, toks := tk })
    (done : ∀ m' h tk, Inv n m' → Fr h₀ L h m' → News h₀ L h news → Q .next { s with heap := h, toks := tk }) :
    wpAny (model prog w) A (pyIter (.ref r)) (fun it s₂ => LoopAtV prog w A h₀ env x body Q E it s₂) E s := by
  refine for_rangeN hL 0 n (fun i m' news' => news' = news ∧ Inv i m') hh hr ha (by rw [hb, Nat.zero_add]) (by omega) F N ⟨rfl, start⟩ (fun I hlt i hi m' news' t h tk it hI ho F₁ N₁ => ?_) (fun m' news' h tk hI F₁ N₁ => ?_)
  · obtain ⟨rfl, hI⟩ := hI
    have e : ((0 : Nat) : Int) + (i : Int) = (i : Int) := by omega
    rw [e] at F₁
    refine wpAny_mono (turn I hlt i hi m' t h tk it hI F₁ N₁) (fun f s₂ q => ?_) fun _ _ e => e
    obtain ⟨rfl, h', tk', m'', rfl, hi', F', N'⟩ := q
    exact ⟨rfl, h', tk', m'', _, rfl, ⟨rfl, hi'⟩, F', N', ho⟩
  · obtain ⟨rfl, hI⟩ := hI
    exact done m' h tk hI F₁ N₁
end
/-- the two tables stand filled -/
def Ready (news : List (Addr × Obj)) : Prop := ∃ (c1 c2 : Addr) (o1 o2 : Obj) (v1 v2 : Array Value) (g1 g2 : Tok), (51, tabObj #[rawInt ((75 : Nat) : Int), rawInt ((4 : Nat) : Int), .ref c1]) ∈ news ∧ (c1, o1) ∈ news ∧ o1.data = .fields v1 ∧ v1[1]? = some (.str (Str.ofString "_int2digits.<locals>.inner") g1) ∧
  (58, tabObj #[rawInt ((90 : Nat) : Int), rawInt ((4 : Nat) : Int), .ref c2]) ∈ news ∧ (c2, o2) ∈ news ∧ o2.data = .fields v2 ∧ v2[1]? = some (.str (Str.ofString "_digits2int.<locals>.inner") g2)
theorem Ready.more {l l' : List (Addr × Obj)} (h : Ready l) (hs : ∀ p ∈ l, p ∈ l') : Ready l' := by
  obtain ⟨c1, c2, o1, o2, v1, v2, g1, g2, a1, a2, a3, a4, a5, a6, a7, a8⟩ := h
  exact ⟨c1, c2, o1, o2, v1, v2, g1, g2, hs _ a1, hs _ a2, a3, a4, hs _ a5, hs _ a6, a7, a8⟩
theorem ints_cons2 {ys : List Value} {e : Int} {r : List Int} (h : IntsAre ys (e :: r)) : ∃ t ys', ys = .int e t :: ys' ∧ IntsAre ys' r := by cases h; exact ⟨_, _, rfl, by assumption⟩
theorem ints_nil {ys : List Value} (h : IntsAre ys []) : ys = [] := by cases h; rfl
def motz6 : List Int := [1, 1, 2, 4, 9, 21]
/-- the ledger of _law_numbers between its turns: the list first -/
def NumsAt (l rc : Addr) (ro : Obj) (i : Nat) (news : List (Addr × Obj)) : Prop := ∃ (vs : List Value) (kk : Nat) (nw : List (Addr × Obj)), news = (l, listOf vs.toArray kk) :: nw ∧ IntsAre vs (motz6.take (i + 2)) ∧ (∀ p ∈ nw, p.1 ≠ l) ∧
  ((i = 0 ∧ nw = [(58, tabObj #[]), (51, tabObj #[]), (rc, ro)]) ∨ (1 ≤ i ∧ Ready nw ∧ (rc, ro) ∈ nw))
theorem nums_start {h₀ h : Heap} {L l rc : Addr} {ro : Obj} {k : Nat} {u0 u1 : Tok} {m : PySem.Str → Option Value} (N : News h₀ L h [(l, listOf #[.int 1 u0, .int 1 u1] k), (58, tabObj #[]), (51, tabObj #[]), (rc, ro)]) (F : Fr h₀ L h m) (e : m (Str.ofString "found") = some (.ref l)) (hl : @LT.lt Nat _ 58 l) (hr : @LT.lt Nat _ rc l) :
    ∃ (m₀ : PySem.Str → Option Value) (l : Addr) (k : Nat) (u0 u1 : Tok), Fr h₀ L h m₀ ∧ News h₀ L h [(l, listOf #[.int 1 u0, .int 1 u1] k), (58, tabObj #[]), (51, tabObj #[]), (rc, ro)] ∧ m₀ (Str.ofString "found") = some (.ref l) ∧ @LT.lt Nat _ 58 l ∧ @LT.lt Nat _ rc l := ⟨m, l, k, u0, u1, F, N, e, hl, hr⟩
theorem off_low {l rc : Addr} {ro : Obj} (hl : @LT.lt Nat _ 58 l) (hr : @LT.lt Nat _ rc l) : ∀ p ∈ [((58 : Addr), tabObj #[]), (51, tabObj #[]), (rc, ro)], p.1 ≠ l :=
  List.forall_mem_cons.mpr ⟨Nat.ne_of_lt hl, List.forall_mem_cons.mpr ⟨Nat.ne_of_lt (Nat.lt_trans (by decide : @LT.lt Nat _ 51 58) hl), List.forall_mem_cons.mpr ⟨Nat.ne_of_lt hr, fun _ h => nomatch h⟩⟩⟩
def touchedN : List PySem.Str := [Str.ofString "k", Str.ofString "number", Str.ofString "rest"]
def NumsInv (m₀ : PySem.Str → Option Value) (l rc : Addr) (ro : Obj) (i : Nat) (m : PySem.Str → Option Value) (news : List (Addr × Obj)) : Prop := Same m₀ touchedN m ∧ NumsAt l rc ro i news
end
section
theorem divmod_NL {prog : Program} {w : World} {A : Around} {E : Value → Shared → Prop} {s : Shared} {Q : Value → Shared → Prop} {a b : Int} {t u : Tok} {h₀ : Heap} {L : Addr} {m : PySem.Str → Option Value} {news : List (Addr × Obj)} (F : Fr h₀ L s.heap m) (N : News h₀ L s.heap news) (hb : 0 < b ∧ b < 1000000)
    (h : ∀ q h', (∀ p ∈ news, p.1 < q) → Fr h₀ L h' m → News h₀ L h' ((q, { cls := .type "tuple", data := .seq #[.int (a.fdiv b) s.toks, .int (a.fmod b) (s.toks + 1)] }) :: news) →
      Q (.ref q) { s with toks := s.toks + 1 + 1, heap := h' }) :
    wpAny (model prog w) A (call (.builtin "divmod") [.int a t, .int b u]) Q E s :=
  divmod_N F N (by omega) (fun h' F' N' => h _ h' (fun p hp => Heap.lt_size (N p hp).1) F' N') (Or.inl (PyProof.noPylong_small (by omega)))
local macro_rules | `(tactic| walk_at "call builtin:divmod") => `(tactic| (k_here; refine' divmod_NL ?k1 ?k2 ?k3 ?_; (case k1 => k_asm); (case k2 => k_asm); (case k3 => assumption); intro q' h' l1 F' N'))
set_option maxRecDepth 100000 in
set_option maxHeartbeats 8000000 in
theorem div_call {w : World} {p : Program} {loose : List Str} {mean : ExcName → Option Value} {mg mb : Str → Option Value}
  (dp un : Nat) (gd : Option (List Code)) (cn : Str) (cs : Scope) (a : Addr) (ccd : Value) (cl : List (Str × Addr)) (outer : List Env) (A₀ : Around) (base h₀ : Heap) (L : Addr) (m : Str → Option Value) (s : Shared) (Q : Value → Shared → Prop) (E : Value → Shared → Prop) (news : List (Addr × Obj))
  (B : Below A₀ base outer h₀) (F : Fr h₀ L s.heap m) (X : (hd.heap_39 w.params).In h₀) (N : News h₀ L s.heap news) (T : Top p loose mean mg mb h₀) (hk : cs.kind = .function)
  (hd : dp < 700) (hu : un < 500) (x y n : Int) (t1 t2 t3 : Tok) (hx : 0 ≤ x ∧ x < 2 ^ 60) (hy : 0 < y ∧ y < 1000000) (hn : 0 ≤ n)
  (hret : ∀ q h' tk' u1 u2, Fr h₀ L h' m → News h₀ L h' ((q, { cls := .type "tuple", data := .seq #[.int (x.fdiv y) u1, .int (x.fmod y) u2] }) :: news) → (∀ p ∈ news, p.1 < q) → Q (.ref q) { s with heap := h', toks := tk' }) :
  wpAny (model PySem.Challenge.rw_gl0007_01.row.prog w) (ktrTop dp un gd cn cs L a ccd cl outer) (call (.ref 42) [.int x t1, .int y t2, .int n t3]) Q E s := by
  have hbits : ((Builtin.Int.intBits x : Nat) : Int) ≤ 64 := by
    have := intBits_le_64 (k := x) (by omega) (by omega)
    omega
  k_with_none
  w_top off
  revert X; k_fill; intro X
  refine wpAny_call ?_
  k_dflt cell_enter
  k_steps
  all_goals exact hret _ _ _ _ _ (by assumption) (by assumption) (by assumption)
end
section
theorem flat_rep (D : Nat) (v : Value) : (List.foldl (fun x1 x2 => x1 ++ x2) #[] (List.replicate D #[v]) : Array Value) = (List.replicate D v).toArray := by
  have : ∀ (D : Nat) (a : Array Value), List.foldl (fun x1 x2 => x1 ++ x2) a (List.replicate D #[v]) = a ++ (List.replicate D v).toArray := by
    intro D
    induction D with
    | zero => intro a; simp
    | succ D ih =>
      intro a
      rw [List.replicate_succ, List.foldl_cons, ih]
      apply Array.toList_inj.mp
      simp [List.replicate_succ]
  simpa using this D #[]
theorem mul_one {prog : Program} {w : World} {A : Around} {E : Value → Shared → Prop} {s : Shared} {Q : Value → Shared → Prop} {h₀ : Heap} {L l : Addr} {m : PySem.Str → Option Value} {news : List (Addr × Obj)} {v : Value} {k D : Nat} {x : Int} {u : Tok}
    (F : Fr h₀ L s.heap m) (N : News h₀ L s.heap news) (hm : (l, listOf #[v] k) ∈ news) (hx : x = (D : Int)) (hD : D ≤ 1000)
    (h : ∀ q h', (∀ p ∈ news, p.1 < q) → Fr h₀ L h' m → News h₀ L h' ((q, listOf (List.replicate D v).toArray 0) :: news) → Q (.ref q) { s with heap := h' }) :
    wpAny (model prog w) A (binaryOp .Mult (.ref l) (.int x u)) Q E s := by
  subst hx
  refine mul_list F N (N _ hm).1 (by omega) (by omega) (by simp; omega) fun h' F' N' => ?_
  have e : (List.foldl (fun x1 x2 => x1 ++ x2) #[] (List.replicate (if (#[v] : Array Value).isEmpty = true then 0 else (D : Int).toNat) #[v]) : Array Value) = (List.replicate D v).toArray := by
    rw [if_neg (by simp), Int.toNat_natCast, flat_rep]
  rw [e] at N'
  exact h _ h' (fun p hp => Heap.lt_size (N p hp).1) F' N'
theorem ints_rep (D : Nat) (t : Tok) : IntsAre (List.replicate D (.int 0 t)) (List.replicate D 0) := by
  induction D with
  | zero => exact .nil
  | succ D ih => exact .cons _ _ ih
theorem allLt_ne {d a : Addr} {l : List (Addr × Obj)} (h : AllLt d l) (hd : @LE.le Nat _ d a) : ∀ p ∈ l, p.1 ≠ a := by
  induction l with
  | nil => intro p hp; cases hp
  | cons q r ih =>
    intro p hp
    rcases List.mem_cons.mp hp with rfl | hp
    · exact Nat.ne_of_lt (Nat.lt_of_lt_of_le h.1 hd)
    · exact ih h.2 p hp
theorem ext_hide {h : Heap} {l b : Addr} {o : Obj} (e : h.get? b = some o) (hb : b ≠ l) : (hideAll h [l]).get? b = some o := hideAll_get _ e (by simpa using hb)
section
variable {prog : Program} {w : World} {p : Program} {loose : List Str} {mean : ExcName → Option Value} {mg mb : Str → Option Value} {A : Around} {E : Value → Shared → Prop} {s : Shared} {Q : Value → Shared → Prop} {h₀ : Heap} {L fI c' l l' ca ci cnn : Addr} {m : PySem.Str → Option Value} {news : List (Addr × Obj)}
  {p1 p2 p3 p4 p5 p6 p7 p8 p9 p10 p11 p12 p13 p14 p15 p16 p17 p18 p19 p20 p21 p22 p23 p24 p25 p26 p27 p28 p29 p30 p31 p32 p33 p34 p35 p36 p37 p38 p39 p40 p41 p42 p43 p44 p45 p46 p47 p48 p49 p50 : Pos} {k1 k2 kk D n x : Nat} {tn t1 t2 t3 tq : Tok} {name qual : Str} {params : Arguments} {scope : Scope} {clos : List (Str × Addr)} {doc pm ctv : Value} {oc ol oi oa on : Obj} {vc : Array Value} {its : List Value} {ns : List Int}
theorem store_L (T : Top p loose mean mg mb h₀) (F : Fr h₀ L s.heap m)
    (N : News h₀ L s.heap ((fI, fnMade name qual params (storeBody p1 p2 p3 p4 p5 p6 p7 p8 p9 p10 p11 p12 p13 p14 p15 p16 p17 p18 p19 p20 p21 p22 p23 p24 p25 p26 p27 p28 p29 p30 p31 p32 p33 p34 p35 p36 p37 p38 p39 p40 p41 p42 p43 p44 p45 p46 p47 p48 p49 p50 k1 k2) scope clos doc pm c' ctv) :: (c', oc) :: (l, listOf its.toArray kk) :: (l', ol) :: (ci, oi) :: (ca, oa) :: (cnn, on) :: news))
    (d1 : oc.data = .fields vc) (d2 : vc[1]? = some (.str qual tq)) (e1 : oa.data = .cell (some (.ref l))) (e2 : oi.data = .cell (some (.ref fI))) (e3 : on.data = .cell (some (.int n tn)))
    (n1 : @LT.lt Nat _ l c') (n2 : @LT.lt Nat _ c' fI) (n3 : ∀ q ∈ (l', ol) :: (ci, oi) :: (ca, oa) :: (cnn, on) :: news, q.1 ≠ l)
    (hn : 0 < n ∧ n < 1000) (hroom : A.depth + D < recursionLimit) (hD : D < 100) (hD0 : 0 < D) (hx : x < 2 ^ (D * n)) (hx60 : x < 2 ^ 60) (hlen : D = ns.length) (hI : IntsAre its ns)
    (cdg : clos.lookup (Str.ofString "a_digits") = some ca) (cin : clos.lookup (Str.ofString "inner") = some ci) (cn : clos.lookup (Str.ofString "n") = some cnn)
    (hk : scope.kind = .function) (hco : scope.isCoroutine = false) (hgen : scope.isGenerator = false) (hcell : ∀ x ∈ scope.names, x.2 ≠ .cell)
    (loc : ∀ x ∈ ["x", "L", "R", "mid", "shift", "upper", "lower"], scope.names.lookup (Str.ofString x) = some .local)
    (free : ∀ x ∈ ["a_digits", "inner", "n"], scope.names.lookup (Str.ofString x) = some .free)
    (binds : ∀ (s : Shared) (x L R : Value), BindsTo s (fnX name qual params (storeBody p1 p2 p3 p4 p5 p6 p7 p8 p9 p10 p11 p12 p13 p14 p15 p16 p17 p18 p19 p20 p21 p22 p23 p24 p25 p26 p27 p28 p29 p30 p31 p32 p33 p34 p35 p36 p37 p38 p39 p40 p41 p42 p43 p44 p45 p46 p47 p48 p49 p50 k1 k2) scope clos .none .none doc pm none (.ref c') ctv) ⟨[x, L, R], []⟩ [(Str.ofString "x", x), (Str.ofString "L", L), (Str.ofString "R", R)])
    (hres : ∀ h' tk vs', Fr h₀ L h' m → News h₀ L h' ((fI, fnMade name qual params (storeBody p1 p2 p3 p4 p5 p6 p7 p8 p9 p10 p11 p12 p13 p14 p15 p16 p17 p18 p19 p20 p21 p22 p23 p24 p25 p26 p27 p28 p29 p30 p31 p32 p33 p34 p35 p36 p37 p38 p39 p40 p41 p42 p43 p44 p45 p46 p47 p48 p49 p50 k1 k2) scope clos doc pm c' ctv) :: (c', oc) :: (l, listOf (List.toArray vs') kk) :: (l', ol) :: (ci, oi) :: (ca, oa) :: (cnn, on) :: news) → IntsAre vs' (digs n x D) → Q .none { s with heap := h', toks := tk }) :
    wpAny (model prog w) A (call (.ref fI) [.int x t1, .int 0 t2, .int (D : Int) t3]) Q E s := by
  have a0 := N _ (.head _)
  have a1 := N _ (.tail _ (.head _))
  have a2 := N _ (.tail _ (.tail _ (.head _)))
  have a3 := N _ (.tail _ (.tail _ (.tail _ (.tail _ (.head _)))))
  have a4 := N _ (.tail _ (.tail _ (.tail _ (.tail _ (.tail _ (.head _))))))
  have a5 := N _ (.tail _ (.tail _ (.tail _ (.tail _ (.tail _ (.tail _ (.head _)))))))
  have i3 : ci ≠ l := n3 _ (.tail _ (.head _))
  have i4 : ca ≠ l := n3 _ (.tail _ (.tail _ (.head _)))
  have i5 : cnn ≠ l := n3 _ (.tail _ (.tail _ (.tail _ (.head _))))
  have i1 : c' ≠ l := Nat.ne_of_gt n1
  have i0 : fI ≠ l := Nat.ne_of_gt (Nat.lt_trans n1 n2)
  have S : StoreFn (hideAll s.heap [l]) fI ca ci cnn l n tn (fnX name qual params (storeBody p1 p2 p3 p4 p5 p6 p7 p8 p9 p10 p11 p12 p13 p14 p15 p16 p17 p18 p19 p20 p21 p22 p23 p24 p25 p26 p27 p28 p29 p30 p31 p32 p33 p34 p35 p36 p37 p38 p39 p40 p41 p42 p43 p44 p45 p46 p47 p48 p49 p50 k1 k2) scope clos .none .none doc pm none (.ref c') ctv) :=
    { fn := ⟨_, ext_hide a0.1 i0, rfl⟩
      code := ⟨c', oc, vc, tq, rfl, ext_hide a1.1 i1, d1, d2⟩
      lim := by
        obtain ⟨mc, hm1, hm2⟩ := T.nolimit
        obtain ⟨o, es, ep, g1, g2⟩ := hm1
        refine ⟨mc, ⟨o, es, ep, ?_, g2⟩, hm2⟩
        refine ext_hide (F.keep _ _ g1) fun q => ?_
        rw [q, a2.2.2] at g1; cases g1
      dg := ⟨_, ext_hide a4.1 i4, e1⟩
      inn := ⟨_, ext_hide a3.1 i3, e2⟩
      nn := ⟨_, ext_hide a5.1 i5, e3⟩
      off := hideAll_none _ (by simp)
      cdg := cdg, cinn := cin, cnn := cn, hk := hk, hco := hco, hgen := hgen, hcell := hcell, loc := loc, free := free, binds := binds }
  refine inner_store S hn rfl D x 0 D t1 t2 t3 A s Q E its kk ns (by omega) hroom hD hD0 hx hx60 (by omega) (by omega) hI a2.1 (fun b o e => of_hideAll _ e) fun h' tk vs' g1 g2 g3 => ?_
  have e : ns.take 0 ++ digs n x D ++ ns.drop D = digs n x D := by
    rw [List.drop_of_length_le (by omega)]; simp
  rw [e] at g2
  have hL : L ≠ l := fun q => a2.2.1 q.symm
  refine hres h' tk vs' ⟨?_, fun b o e => g3 b o (fun q => by rw [q, a2.2.2] at e; cases e) (F.keep b o e), F.above⟩ (fun q hq => ?_) g2
  · obtain ⟨oL, r1, r2, r3, r4⟩ := F.ns
    exact ⟨oL, r1, r2, g3 _ _ hL r3, r4⟩
  · rcases List.mem_cons.mp hq with rfl | hq
    · exact ⟨g3 _ _ i0 a0.1, a0.2⟩
    rcases List.mem_cons.mp hq with rfl | hq
    · exact ⟨g3 _ _ i1 a1.1, a1.2⟩
    rcases List.mem_cons.mp hq with rfl | hq
    · exact ⟨g1, a2.2⟩
    have z := N q (.tail _ (.tail _ (.tail _ hq)))
    exact ⟨g3 _ _ (n3 q hq) z.1, z.2⟩
variable {tbl : Addr} {otb : Obj}
theorem store_H (T : Top p loose mean mg mb h₀) (F : Fr h₀ L s.heap m)
    (N : News h₀ L s.heap ((fI, fnMade name qual params (storeBody p1 p2 p3 p4 p5 p6 p7 p8 p9 p10 p11 p12 p13 p14 p15 p16 p17 p18 p19 p20 p21 p22 p23 p24 p25 p26 p27 p28 p29 p30 p31 p32 p33 p34 p35 p36 p37 p38 p39 p40 p41 p42 p43 p44 p45 p46 p47 p48 p49 p50 k1 k2) scope clos doc pm c' ctv) :: (l, listOf its.toArray kk) :: (l', ol) :: (ci, oi) :: (ca, oa) :: (cnn, on) :: (tbl, otb) :: (c', oc) :: news))
    (d1 : oc.data = .fields vc) (d2 : vc[1]? = some (.str qual tq)) (e1 : oa.data = .cell (some (.ref l))) (e2 : oi.data = .cell (some (.ref fI))) (e3 : on.data = .cell (some (.int n tn)))
    (n2 : @LT.lt Nat _ l fI) (n3 : ∀ q ∈ (l', ol) :: (ci, oi) :: (ca, oa) :: (cnn, on) :: (tbl, otb) :: (c', oc) :: news, q.1 ≠ l)
    (hn : 0 < n ∧ n < 1000) (hroom : A.depth + D < recursionLimit) (hD : D < 100) (hD0 : 0 < D) (hx : x < 2 ^ (D * n)) (hx60 : x < 2 ^ 60) (hlen : D = ns.length) (hI : IntsAre its ns)
    (cdg : clos.lookup (Str.ofString "a_digits") = some ca) (cin : clos.lookup (Str.ofString "inner") = some ci) (cn : clos.lookup (Str.ofString "n") = some cnn)
    (hk : scope.kind = .function) (hco : scope.isCoroutine = false) (hgen : scope.isGenerator = false) (hcell : ∀ x ∈ scope.names, x.2 ≠ .cell)
    (loc : ∀ x ∈ ["x", "L", "R", "mid", "shift", "upper", "lower"], scope.names.lookup (Str.ofString x) = some .local)
    (free : ∀ x ∈ ["a_digits", "inner", "n"], scope.names.lookup (Str.ofString x) = some .free)
    (binds : ∀ (s : Shared) (x L R : Value), BindsTo s (fnX name qual params (storeBody p1 p2 p3 p4 p5 p6 p7 p8 p9 p10 p11 p12 p13 p14 p15 p16 p17 p18 p19 p20 p21 p22 p23 p24 p25 p26 p27 p28 p29 p30 p31 p32 p33 p34 p35 p36 p37 p38 p39 p40 p41 p42 p43 p44 p45 p46 p47 p48 p49 p50 k1 k2) scope clos .none .none doc pm none (.ref c') ctv) ⟨[x, L, R], []⟩ [(Str.ofString "x", x), (Str.ofString "L", L), (Str.ofString "R", R)])
    (hres : ∀ h' tk vs', Fr h₀ L h' m → News h₀ L h' ((fI, fnMade name qual params (storeBody p1 p2 p3 p4 p5 p6 p7 p8 p9 p10 p11 p12 p13 p14 p15 p16 p17 p18 p19 p20 p21 p22 p23 p24 p25 p26 p27 p28 p29 p30 p31 p32 p33 p34 p35 p36 p37 p38 p39 p40 p41 p42 p43 p44 p45 p46 p47 p48 p49 p50 k1 k2) scope clos doc pm c' ctv) :: (l, listOf (List.toArray vs') kk) :: (l', ol) :: (ci, oi) :: (ca, oa) :: (cnn, on) :: (tbl, otb) :: (c', oc) :: news) → IntsAre vs' (digs n x D) → Q .none { s with heap := h', toks := tk }) :
    wpAny (model prog w) A (call (.ref fI) [.int x t1, .int 0 t2, .int (D : Int) t3]) Q E s := by
  have a0 := N _ (.head _)
  have a1 := N _ (.tail _ (.tail _ (.tail _ (.tail _ (.tail _ (.tail _ (.tail _ (.head _))))))))
  have a2 := N _ (.tail _ (.head _))
  have a3 := N _ (.tail _ (.tail _ (.tail _ (.head _))))
  have a4 := N _ (.tail _ (.tail _ (.tail _ (.tail _ (.head _)))))
  have a5 := N _ (.tail _ (.tail _ (.tail _ (.tail _ (.tail _ (.head _))))))
  have i3 : ci ≠ l := n3 _ (.tail _ (.head _))
  have i4 : ca ≠ l := n3 _ (.tail _ (.tail _ (.head _)))
  have i5 : cnn ≠ l := n3 _ (.tail _ (.tail _ (.tail _ (.head _))))
  have i1 : c' ≠ l := n3 _ (.tail _ (.tail _ (.tail _ (.tail _ (.tail _ (.head _))))))
  have i0 : fI ≠ l := Nat.ne_of_gt n2
  have S : StoreFn (hideAll s.heap [l]) fI ca ci cnn l n tn (fnX name qual params (storeBody p1 p2 p3 p4 p5 p6 p7 p8 p9 p10 p11 p12 p13 p14 p15 p16 p17 p18 p19 p20 p21 p22 p23 p24 p25 p26 p27 p28 p29 p30 p31 p32 p33 p34 p35 p36 p37 p38 p39 p40 p41 p42 p43 p44 p45 p46 p47 p48 p49 p50 k1 k2) scope clos .none .none doc pm none (.ref c') ctv) :=
    { fn := ⟨_, ext_hide a0.1 i0, rfl⟩
      code := ⟨c', oc, vc, tq, rfl, ext_hide a1.1 i1, d1, d2⟩
      lim := by
        obtain ⟨mc, hm1, hm2⟩ := T.nolimit
        obtain ⟨o, es, ep, g1, g2⟩ := hm1
        refine ⟨mc, ⟨o, es, ep, ?_, g2⟩, hm2⟩
        refine ext_hide (F.keep _ _ g1) fun q => ?_
        rw [q, a2.2.2] at g1; cases g1
      dg := ⟨_, ext_hide a4.1 i4, e1⟩
      inn := ⟨_, ext_hide a3.1 i3, e2⟩
      nn := ⟨_, ext_hide a5.1 i5, e3⟩
      off := hideAll_none _ (by simp)
      cdg := cdg, cinn := cin, cnn := cn, hk := hk, hco := hco, hgen := hgen, hcell := hcell, loc := loc, free := free, binds := binds }
  refine inner_store S hn rfl D x 0 D t1 t2 t3 A s Q E its kk ns (by omega) hroom hD hD0 hx hx60 (by omega) (by omega) hI a2.1 (fun b o e => of_hideAll _ e) fun h' tk vs' g1 g2 g3 => ?_
  have e : ns.take 0 ++ digs n x D ++ ns.drop D = digs n x D := by
    rw [List.drop_of_length_le (by omega)]; simp
  rw [e] at g2
  have hL : L ≠ l := fun q => a2.2.1 q.symm
  refine hres h' tk vs' ⟨?_, fun b o e => g3 b o (fun q => by rw [q, a2.2.2] at e; cases e) (F.keep b o e), F.above⟩ (fun q hq => ?_) g2
  · obtain ⟨oL, r1, r2, r3, r4⟩ := F.ns
    exact ⟨oL, r1, r2, g3 _ _ hL r3, r4⟩
  · rcases List.mem_cons.mp hq with rfl | hq
    · exact ⟨g3 _ _ i0 a0.1, a0.2⟩
    rcases List.mem_cons.mp hq with rfl | hq
    · exact ⟨g1, a2.2⟩
    have z := N q (.tail _ (.tail _ hq))
    exact ⟨g3 _ _ (n3 q hq) z.1, z.2⟩
end
theorem allLt_lt {d a : Addr} {l : List (Addr × Obj)} (h : AllLt d l) (hd : @LE.le Nat _ d a) : ∀ p ∈ l, @LT.lt Nat _ p.1 a := by
  induction l with
  | nil => intro p hp; cases hp
  | cons q r ih =>
    intro p hp
    rcases List.mem_cons.mp hp with rfl | hp
    · exact Nat.lt_of_lt_of_le h.1 hd
    · exact ih h.2 p hp
theorem tok_tr {v : Option Value} {a b : Str} {t : Tok} (h : v = some (.str a t)) (e : a = b) : v = some (.str b t) := e ▸ h
theorem allLt_ne' {d : Addr} {l : List (Addr × Obj)} (h : AllLt d l) : ∀ p ∈ l, p.1 ≠ d := allLt_ne h (Nat.le_refl _)
local macro_rules | `(tactic| walk_at "binaryOp Mult ref int") => `(tactic| (k_here; refine' mul_one ?k1 ?k2 ?k3 ?k4 ?k5 ?_; (case k1 => k_asm); (case k2 => k_asm); (case k3 => k_mem); (case k4 => assumption); (case k5 => omega); intro q' h' l1 F' N'; (try k_lt l1)))
set_option maxRecDepth 100000 in
set_option maxHeartbeats 8000000 in
theorem i2d_fresh {w : World} {p : Program} {loose : List Str} {mean : ExcName → Option Value} {mg mb : Str → Option Value}
  (dp un : Nat) (gd : Option (List Code)) (cn : Str) (cs : Scope) (a : Addr) (ccd : Value) (cl : List (Str × Addr)) (outer : List Env) (A₀ : Around) (base h₀ : Heap) (L : Addr) (m : Str → Option Value) (s : Shared) (Q : Value → Shared → Prop) (E : Value → Shared → Prop) (news : List (Addr × Obj))
  (B : Below A₀ base outer h₀) (F : Fr h₀ L s.heap m) (X : (hd.heap_39 w.params).In h₀) (N : News h₀ L s.heap ((51, tabObj #[]) :: news)) (h51 : ∀ p ∈ news, p.1 ≠ 51) (T : Top p loose mean mg mb h₀) (hk : cs.kind = .function)
  (hd : dp < 700) (hu : un < 500) (x n D : Nat) (t1 t2 : Tok) (hx : (x : Int) ≠ 0) (hcnt : ((Builtin.Int.intBits (x : Int) : Nat) + (n : Int) - 1).fdiv (n : Int) = (D : Int)) (hD : 0 < D ∧ D < 50) (hn : 0 < n ∧ n < 60)
  (hx2 : x < 2 ^ (D * n)) (hx60 : x < 2 ^ 60)
  (hret : ∀ (q c' : Addr) oc vc tq kk (vs' : List Value) h' tk', Fr h₀ L h' m → News h₀ L h' ((q, listOf vs'.toArray kk) :: (51, tabObj (#[] ++ #[rawInt ((75 : Nat) : Int), rawInt ((4 : Nat) : Int), .ref c'])) :: (c', oc) :: news) → oc.data = .fields vc → vc[1]? = some (.str (Str.ofString "_int2digits.<locals>.inner") tq) → IntsAre vs' (digs n x D) →
    (∀ p ∈ news, @LT.lt Nat _ p.1 q) → @LT.lt Nat _ 51 q → @LT.lt Nat _ q c' → Q (.ref q) { s with heap := h', toks := tk' }) :
  wpAny (model PySem.Challenge.rw_gl0007_01.row.prog w) (ktrTop dp un gd cn cs L a ccd cl outer) (call (.ref 56) [.int x t1, .int n t2]) Q E s := by
  have hn0 : (n : Int) ≠ 0 := by omega
  have c1 : CodeHd h₀ 55 51 := codeHd_of_K X (by kernel_rfl)
  k_with_none
  w_top off
  k_with "all" => first | assumption | exact allLt_ne (by assumption) (by omega)
  revert X; k_fill; intro X
  refine wpAny_call ?_
  k_dflt (refine' code_defC ?k1 ?k2 ?k3 ?k4 ?k5 ?kA ?kF ?kK ?k6 ?k7 ?k8 ?k9 ?kB ?kD ?_ ?c2 ?c3 ?c4; (case kA => exact rfl); (case kF => exact rfl); (case kK => assumption); (case k1 => k_asm); (case k2 => k_asm); (case k3 => k_asm); (case k4 => k_asm); (case k5 => k_asm); (case k6 => k_is); (case k7 => k_is); (case k8 => k_room); (case k9 => exact BindsTo.of_eq rfl); (case kB => exact rfl); (case kD => decide +kernel); (case c2 => exact rfl); (case c3 => exact rfl); (case c4 => exact rfl); k_whole; intro g' L' h' tk' cells' FG' F' N' Y' B' X' T' l1; (try k_lt l1); have hLt := l1.2; k_cells Y'; (try simp only [List.cons_append, List.nil_append] at N'); (try dsimp only); (try k_lift B'); (try k_fold))
  k_with "call builtin:len" => (k_here; refine' KM.len_K (n := D) ?k1 ?k2 ?k3 ?k4 ?_; (case k1 => k_asm); (case k2 => k_mem); (case k3 => simp); (case k4 => omega))
  k_with "call ref" => (k_here; refine' store_L (n := n) (D := D) (ns := List.replicate D 0) (tn := t2) ?T ?F ?N ?d1 ?d2 ?e1 ?e2 ?e3 ?n1 ?n2 ?n3 ?hn ?room ?hD ?hD0 ?hx ?hx60 ?hlen ?hI ?cdg ?cin ?cn ?hk ?hco ?hgen ?hcell ?loc ?free ?binds ?hres; (case T => k_asm); (case F => k_asm); (case N => k_asm); (case d1 => assumption); (case d2 => assumption); (case e1 => assumption); (case e2 => assumption); (case e3 => exact Eq.trans (by assumption) (by kernel_rfl)); (case n1 => omega); (case n2 => omega); (case hn => omega); (case room => k_room); (case hD => omega); (case hD0 => omega); (case hx => assumption); (case hx60 => assumption); (case hlen => simp); (case cdg => kernel_rfl); (case cin => kernel_rfl); (case cn => kernel_rfl); (case hk => rfl); (case hco => rfl); (case hgen => rfl); (case hcell => decide +kernel); (case loc => decide +kernel); (case free => decide +kernel); (case binds => exact fun _ _ _ _ => BindsTo.of_eq rfl); (case hI => exact ints_rep _ _); (case n3 => exact allLt_ne' (by simp only [AllLt]; repeat' (first | assumption | assumption | apply And.intro | omega))); intro h' tk' vs' F' N' hI')
  k_steps
  · have kN := ‹News h₀ L _ _›
    have kF := ‹Fr h₀ L _ m›
    refine hret _ _ _ _ _ _ _ _ _ (by assumption) (cb_drop kN (List.forall_mem_cons.mpr ⟨.tail _ (.tail _ (.head _)), List.forall_mem_cons.mpr ⟨.tail _ (.tail _ (.tail _ (.tail _ (.tail _ (.tail _ (.tail _ (.head _))))))), List.forall_mem_cons.mpr ⟨.tail _ (.head _), fun p hp => .tail _ (.tail _ (.tail _ (.tail _ (.tail _ (.tail _ (.tail _ (.tail _ hp)))))))⟩⟩⟩)) (by assumption) (tok_tr (by assumption) (by kernel_rfl)) (by assumption) (allLt_lt (by assumption) (by omega)) (by omega) (by omega)
  · exact absurd (by assumption) hx
set_option maxRecDepth 100000 in
set_option maxHeartbeats 8000000 in
theorem i2d_hit {w : World} {p : Program} {loose : List Str} {mean : ExcName → Option Value} {mg mb : Str → Option Value}
  (dp un : Nat) (gd : Option (List Code)) (cn : Str) (cs : Scope) (a : Addr) (ccd : Value) (cl : List (Str × Addr)) (outer : List Env) (A₀ : Around) (base h₀ : Heap) (L : Addr) (m : Str → Option Value) (s : Shared) (Q : Value → Shared → Prop) (E : Value → Shared → Prop) (news : List (Addr × Obj))
  (B : Below A₀ base outer h₀) (F : Fr h₀ L s.heap m) (X : (hd.heap_39 w.params).In h₀) (c' : Addr) (oc : Obj) (vc : Array Value) (tq : Tok) (N : News h₀ L s.heap ((51, tabObj #[rawInt ((75 : Nat) : Int), rawInt ((4 : Nat) : Int), .ref c']) :: (c', oc) :: news)) (ec1 : oc.data = .fields vc) (ec2 : vc[1]? = some (.str (Str.ofString "_int2digits.<locals>.inner") tq)) (T : Top p loose mean mg mb h₀) (hk : cs.kind = .function)
  (hd : dp < 700) (hu : un < 500) (x n D : Nat) (t1 t2 : Tok) (hx : (x : Int) ≠ 0) (hcnt : ((Builtin.Int.intBits (x : Int) : Nat) + (n : Int) - 1).fdiv (n : Int) = (D : Int)) (hD : 0 < D ∧ D < 50) (hn : 0 < n ∧ n < 60)
  (hx2 : x < 2 ^ (D * n)) (hx60 : x < 2 ^ 60)
  (hret : ∀ (q : Addr) kk (vs' : List Value) h' tk', Fr h₀ L h' m → News h₀ L h' ((q, listOf vs'.toArray kk) :: (51, tabObj #[rawInt ((75 : Nat) : Int), rawInt ((4 : Nat) : Int), .ref c']) :: (c', oc) :: news) → IntsAre vs' (digs n x D) →
    (∀ p ∈ news, @LT.lt Nat _ p.1 q) → @LT.lt Nat _ 51 q → @LT.lt Nat _ c' q → Q (.ref q) { s with heap := h', toks := tk' }) :
  wpAny (model PySem.Challenge.rw_gl0007_01.row.prog w) (ktrTop dp un gd cn cs L a ccd cl outer) (call (.ref 56) [.int x t1, .int n t2]) Q E s := by
  have hn0 : (n : Int) ≠ 0 := by omega
  have c1 : CodeHd h₀ 55 51 := codeHd_of_K X (by kernel_rfl)
  k_with_none
  w_top off
  k_with "all" => first | assumption | exact allLt_ne (by assumption) (by omega)
  revert X; k_fill; intro X
  refine wpAny_call ?_
  k_dflt (refine' code_defC ?k1 ?k2 ?k3 ?k4 ?k5 ?kA ?kF ?kK ?k6 ?k7 ?k8 ?k9 ?kB ?kD ?_ ?c2 ?c3 ?c4; (case kA => exact rfl); (case kF => exact rfl); (case kK => assumption); (case k1 => k_asm); (case k2 => k_asm); (case k3 => k_asm); (case k4 => k_asm); (case k5 => k_asm); (case k6 => k_is); (case k7 => k_is); (case k8 => k_room); (case k9 => exact BindsTo.of_eq rfl); (case kB => exact rfl); (case kD => decide +kernel); (case c2 => exact rfl); (case c3 => exact rfl); (case c4 => exact rfl); k_whole; intro g' L' h' tk' cells' FG' F' N' Y' B' X' T' l1; (try k_lt l1); have hLt := l1.2.2; k_cells Y'; (try simp only [List.cons_append, List.nil_append] at N'); (try dsimp only); (try k_lift B'); (try k_fold))
  k_with "call builtin:len" => (k_here; refine' KM.len_K (n := D) ?k1 ?k2 ?k3 ?k4 ?_; (case k1 => k_asm); (case k2 => k_mem); (case k3 => simp); (case k4 => omega))
  k_with "call ref" => (k_here; refine' store_H (n := n) (D := D) (ns := List.replicate D 0) (tn := t2) ?T ?F ?N ?d1 ?d2 ?e1 ?e2 ?e3 ?n2 ?n3 ?hn ?room ?hD ?hD0 ?hx ?hx60 ?hlen ?hI ?cdg ?cin ?cn ?hk ?hco ?hgen ?hcell ?loc ?free ?binds ?hres; (case T => k_asm); (case F => k_asm); (case N => k_asm); (case d1 => assumption); (case d2 => exact tok_tr (by assumption) (by kernel_rfl)); (case e1 => assumption); (case e2 => assumption); (case e3 => exact Eq.trans (by assumption) (by kernel_rfl)); (case n2 => omega); (case hn => omega); (case room => k_room); (case hD => omega); (case hD0 => omega); (case hx => assumption); (case hx60 => assumption); (case hlen => simp); (case cdg => kernel_rfl); (case cin => kernel_rfl); (case cn => kernel_rfl); (case hk => rfl); (case hco => rfl); (case hgen => rfl); (case hcell => decide +kernel); (case loc => decide +kernel); (case free => decide +kernel); (case binds => exact fun _ _ _ _ => BindsTo.of_eq rfl); (case hI => exact ints_rep _ _); (case n3 => exact allLt_ne' (by simp only [AllLt]; repeat' (first | assumption | assumption | apply And.intro | omega))); intro h' tk' vs' F' N' hI')
  k_steps
  · have kN := ‹News h₀ L _ _›
    have kF := ‹Fr h₀ L _ m›
    refine hret _ _ _ _ _ (by assumption) (cb_drop kN (List.forall_mem_cons.mpr ⟨.tail _ (.head _), fun p hp => .tail _ (.tail _ (.tail _ (.tail _ (.tail _ (.tail _ hp)))))⟩)) (by assumption) (allLt_lt (by assumption) (by omega)) (by omega) (by omega)
  · exact absurd (by assumption) hx
end
section
section
variable {prog : Program} {w : World} {p : Program} {loose : List Str} {mean : ExcName → Option Value} {mg mb : Str → Option Value} {A : Around} {E : Value → Shared → Prop} {s : Shared} {Q : Value → Shared → Prop} {h₀ : Heap} {L fI c' l ca ci cnn : Addr} {m : PySem.Str → Option Value} {news : List (Addr × Obj)}
  {p1 p2 p3 p4 p5 p6 p7 p8 p9 p10 p11 p12 p13 p14 p15 p16 p17 p18 p19 p20 p21 p22 p23 p24 p25 p26 p27 p28 p29 p30 p31 p32 p33 p34 p35 p36 : Pos} {k1 k2 kk D n : Nat} {tn t2 t3 tq : Tok} {name qual : Str} {params : Arguments} {scope : Scope} {clos : List (Str × Addr)} {doc pm ctv : Value} {oc oi oa on : Obj} {vc : Array Value} {its : List Value} {ds : List Nat}
theorem sum_N (T : Top p loose mean mg mb h₀) (F : Fr h₀ L s.heap m) (N : News h₀ L s.heap news)
    (hf : (fI, fnMade name qual params (sumBody p1 p2 p3 p4 p5 p6 p7 p8 p9 p10 p11 p12 p13 p14 p15 p16 p17 p18 p19 p20 p21 p22 p23 p24 p25 p26 p27 p28 p29 p30 p31 p32 p33 p34 p35 p36 k1 k2) scope clos doc pm c' ctv) ∈ news) (hc : (c', oc) ∈ news) (hl : (l, listOf its.toArray kk) ∈ news) (hi : (ci, oi) ∈ news) (ha : (ca, oa) ∈ news) (hnn : (cnn, on) ∈ news)
    (d1 : oc.data = .fields vc) (d2 : vc[1]? = some (.str qual tq)) (e1 : oa.data = .cell (some (.ref l))) (e2 : oi.data = .cell (some (.ref fI))) (e3 : on.data = .cell (some (.int n tn)))
    (hn : 0 < n ∧ n < 60) (hroom : A.depth + D < recursionLimit) (hD : D < 100) (hD0 : 0 < D) (hlen : D = ds.length) (hI : IntsAre its (ds.map fun (d : Nat) => (d : Int))) (hd2 : ∀ d ∈ ds, d < 2 ^ n) (hl60 : D * n ≤ 60)
    (cdg : clos.lookup (Str.ofString "digits") = some ca) (cin : clos.lookup (Str.ofString "inner") = some ci) (cn : clos.lookup (Str.ofString "n") = some cnn)
    (hk : scope.kind = .function) (hco : scope.isCoroutine = false) (hgen : scope.isGenerator = false) (hcell : ∀ x ∈ scope.names, x.2 ≠ .cell)
    (loc : ∀ x ∈ ["L", "R", "mid", "shift"], scope.names.lookup (Str.ofString x) = some .local)
    (free : ∀ x ∈ ["digits", "inner", "n"], scope.names.lookup (Str.ofString x) = some .free)
    (binds : ∀ (s : Shared) (L R : Value), BindsTo s (fnX name qual params (sumBody p1 p2 p3 p4 p5 p6 p7 p8 p9 p10 p11 p12 p13 p14 p15 p16 p17 p18 p19 p20 p21 p22 p23 p24 p25 p26 p27 p28 p29 p30 p31 p32 p33 p34 p35 p36 k1 k2) scope clos .none .none doc pm none (.ref c') ctv) ⟨[L, R], []⟩ [(Str.ofString "L", L), (Str.ofString "R", R)])
    (hres : ∀ h' tk t, Fr h₀ L h' m → News h₀ L h' news → Q (.int ((val n ds : Nat) : Int) t) { s with heap := h', toks := tk }) :
    wpAny (model prog w) A (call (.ref fI) [.int 0 t2, .int (D : Int) t3]) Q E s := by
  have S : SumFn s.heap fI ca ci cnn l n tn its kk (fnX name qual params (sumBody p1 p2 p3 p4 p5 p6 p7 p8 p9 p10 p11 p12 p13 p14 p15 p16 p17 p18 p19 p20 p21 p22 p23 p24 p25 p26 p27 p28 p29 p30 p31 p32 p33 p34 p35 p36 k1 k2) scope clos .none .none doc pm none (.ref c') ctv) :=
    { fn := ⟨_, (N _ hf).1, rfl⟩
      code := ⟨c', oc, vc, tq, rfl, (N _ hc).1, d1, d2⟩
      lim := T.nolimit.keeps F.keep
      dg := ⟨_, (N _ ha).1, e1⟩
      inn := ⟨_, (N _ hi).1, e2⟩
      nn := ⟨_, (N _ hnn).1, e3⟩
      list := (N _ hl).1
      cdg := cdg, cinn := cin, cnn := cn, hk := hk, hco := hco, hgen := hgen, hcell := hcell, loc := loc, free := free, binds := binds }
  refine inner_sum S (by omega) hI hd2 (by rw [← hlen]; exact hl60) rfl D 0 D t2 t3 A s Q E (by omega) hroom hD hD0 (by omega) (fun b o e => e) fun h' tk t g1 => ?_
  have e : (ds.drop 0).take D = ds := by rw [List.drop_zero, List.take_of_length_le (by omega)]
  rw [e]
  exact hres h' tk t ⟨F.ns.keeps g1, fun b o e => g1 _ _ (F.keep b o e), F.above⟩ fun q hq => ⟨g1 _ _ (N q hq).1, (N q hq).2⟩
end
set_option maxRecDepth 100000 in
set_option maxHeartbeats 8000000 in
theorem d2i_fresh {w : World} {p : Program} {loose : List Str} {mean : ExcName → Option Value} {mg mb : Str → Option Value}
  (dp un : Nat) (gd : Option (List Code)) (cn : Str) (cs : Scope) (a : Addr) (ccd : Value) (cl : List (Str × Addr)) (outer : List Env) (A₀ : Around) (base h₀ : Heap) (L : Addr) (m : Str → Option Value) (s : Shared) (Q : Value → Shared → Prop) (E : Value → Shared → Prop) (news : List (Addr × Obj))
  (B : Below A₀ base outer h₀) (F : Fr h₀ L s.heap m) (X : (hd.heap_39 w.params).In h₀) (l : Addr) (vs : List Value) (kk : Nat) (ds : List Nat) (N : News h₀ L s.heap ((58, tabObj #[]) :: (l, listOf vs.toArray kk) :: news)) (h58 : ∀ p ∈ (l, listOf vs.toArray kk) :: news, p.1 ≠ 58) (T : Top p loose mean mg mb h₀) (hk : cs.kind = .function)
  (hd : dp < 700) (hu : un < 500) (n D : Nat) (t2 : Tok) (hI : IntsAre vs (ds.map fun (d : Nat) => (d : Int))) (hlen : D = ds.length) (hd2 : ∀ d ∈ ds, d < 2 ^ n) (hl60 : D * n ≤ 60) (hD : 0 < D ∧ D < 50) (hn : 0 < n ∧ n < 60)
  (hret : ∀ (c' : Addr) oc vc tq h' tk' t, Fr h₀ L h' m → News h₀ L h' ((58, tabObj (#[] ++ #[rawInt ((90 : Nat) : Int), rawInt ((4 : Nat) : Int), .ref c'])) :: (c', oc) :: (l, listOf vs.toArray kk) :: news) → oc.data = .fields vc → vc[1]? = some (.str (Str.ofString "_digits2int.<locals>.inner") tq) →
    (∀ p ∈ (l, listOf vs.toArray kk) :: news, @LT.lt Nat _ p.1 c') → @LT.lt Nat _ 58 c' → Q (.int ((val n ds : Nat) : Int) t) { s with heap := h', toks := tk' }) :
  wpAny (model PySem.Challenge.rw_gl0007_01.row.prog w) (ktrTop dp un gd cn cs L a ccd cl outer) (call (.ref 63) [.ref l, .int n t2]) Q E s := by
  have hsz : vs.toArray.size = D := by simp [hI.length, hlen]
  have c1 : CodeHd h₀ 62 58 := codeHd_of_K X (by kernel_rfl)
  k_with_none
  w_top off
  k_with "all" => first | assumption | exact allLt_ne (by assumption) (by omega)
  revert X; k_fill; intro X
  refine wpAny_call ?_
  k_dflt (refine' code_defC ?k1 ?k2 ?k3 ?k4 ?k5 ?kA ?kF ?kK ?k6 ?k7 ?k8 ?k9 ?kB ?kD ?_ ?c2 ?c3 ?c4; (case kA => exact rfl); (case kF => exact rfl); (case kK => assumption); (case k1 => k_asm); (case k2 => k_asm); (case k3 => k_asm); (case k4 => k_asm); (case k5 => k_asm); (case k6 => k_is); (case k7 => k_is); (case k8 => k_room); (case k9 => exact BindsTo.of_eq rfl); (case kB => exact rfl); (case kD => decide +kernel); (case c2 => exact rfl); (case c3 => exact rfl); (case c4 => exact rfl); k_whole; intro g' L' h' tk' cells' FG' F' N' Y' B' X' T' l1; (try k_lt l1); have hLt := l1.2.2; k_cells Y'; (try simp only [List.cons_append, List.nil_append] at N'); (try dsimp only); (try k_lift B'); (try k_fold))
  k_with "call builtin:len" => (k_here; refine' KM.len_K (n := D) ?k1 ?k2 ?k3 ?k4 ?_; (case k1 => k_asm); (case k2 => k_mem); (case k3 => assumption); (case k4 => omega))
  k_with "call ref" => (k_here; refine' sum_N (l := l) (kk := kk) (its := vs) (n := n) (D := D) (ds := ds) (tn := t2) ?T ?F ?N ?hf ?hc ?hl ?hi ?ha ?hnn ?d1 ?d2 ?e1 ?e2 ?e3 ?hn ?room ?hD ?hD0 ?hlen ?hI ?hd2 ?hl60 ?cdg ?cin ?cn ?hk ?hco ?hgen ?hcell ?loc ?free ?binds ?hres; (case T => k_asm); (case F => k_asm); (case N => k_asm); (case hf => exact List.mem_cons_self); (case hc => exact (List.mem_cons_of_mem _ List.mem_cons_self)); (case hi => exact (List.mem_cons_of_mem _ (List.mem_cons_of_mem _ List.mem_cons_self))); (case hnn => exact (List.mem_cons_of_mem _ (List.mem_cons_of_mem _ (List.mem_cons_of_mem _ List.mem_cons_self)))); (case ha => exact (List.mem_cons_of_mem _ (List.mem_cons_of_mem _ (List.mem_cons_of_mem _ (List.mem_cons_of_mem _ List.mem_cons_self))))); (case cdg => kernel_rfl); (case cin => kernel_rfl); (case cn => kernel_rfl); (case e1 => exact Eq.trans (by assumption) (by kernel_rfl)); (case hl => exact (List.mem_cons_of_mem _ (List.mem_cons_of_mem _ (List.mem_cons_of_mem _ (List.mem_cons_of_mem _ (List.mem_cons_of_mem _ (List.mem_cons_of_mem _ List.mem_cons_self))))))); (case d1 => assumption); (case d2 => assumption); (case e2 => assumption); (case e3 => exact Eq.trans (by assumption) (by kernel_rfl)); (case hn => omega); (case room => k_room); (case hD => omega); (case hD0 => omega); (case hlen => assumption); (case hI => assumption); (case hd2 => assumption); (case hl60 => assumption); (case hk => rfl); (case hco => rfl); (case hgen => rfl); (case hcell => decide +kernel); (case loc => decide +kernel); (case free => decide +kernel); (case binds => exact fun _ _ _ => BindsTo.of_eq rfl); intro h' tk' t' F' N')
  k_steps
  · have kN := ‹News h₀ L _ _›
    refine hret _ _ _ _ _ _ _ (by assumption) (cb_drop kN (List.forall_mem_cons.mpr ⟨(List.mem_cons_of_mem _ (List.mem_cons_of_mem _ (List.mem_cons_of_mem _ (List.mem_cons_of_mem _ (List.mem_cons_of_mem _ List.mem_cons_self))))), List.forall_mem_cons.mpr ⟨(List.mem_cons_of_mem _ List.mem_cons_self), fun p hp => (List.mem_cons_of_mem _ (List.mem_cons_of_mem _ (List.mem_cons_of_mem _ (List.mem_cons_of_mem _ (List.mem_cons_of_mem _ (List.mem_cons_of_mem _ hp))))))⟩⟩)) (by assumption) (tok_tr (by assumption) (by kernel_rfl)) (List.forall_mem_cons.mpr ⟨by omega, allLt_lt (by assumption) (by omega)⟩) (by omega)
set_option maxRecDepth 100000 in
set_option maxHeartbeats 8000000 in
theorem d2i_hit {w : World} {p : Program} {loose : List Str} {mean : ExcName → Option Value} {mg mb : Str → Option Value}
  (dp un : Nat) (gd : Option (List Code)) (cn : Str) (cs : Scope) (a : Addr) (ccd : Value) (cl : List (Str × Addr)) (outer : List Env) (A₀ : Around) (base h₀ : Heap) (L : Addr) (m : Str → Option Value) (s : Shared) (Q : Value → Shared → Prop) (E : Value → Shared → Prop) (news : List (Addr × Obj))
  (B : Below A₀ base outer h₀) (F : Fr h₀ L s.heap m) (X : (hd.heap_39 w.params).In h₀) (l : Addr) (vs : List Value) (kk : Nat) (ds : List Nat) (c' : Addr) (oc : Obj) (vc : Array Value) (tq : Tok) (N : News h₀ L s.heap ((58, tabObj #[rawInt ((90 : Nat) : Int), rawInt ((4 : Nat) : Int), .ref c']) :: (c', oc) :: (l, listOf vs.toArray kk) :: news)) (ec1 : oc.data = .fields vc) (ec2 : vc[1]? = some (.str (Str.ofString "_digits2int.<locals>.inner") tq)) (T : Top p loose mean mg mb h₀) (hk : cs.kind = .function)
  (hd : dp < 700) (hu : un < 500) (n D : Nat) (t2 : Tok) (hI : IntsAre vs (ds.map fun (d : Nat) => (d : Int))) (hlen : D = ds.length) (hd2 : ∀ d ∈ ds, d < 2 ^ n) (hl60 : D * n ≤ 60) (hD : 0 < D ∧ D < 50) (hn : 0 < n ∧ n < 60)
  (hret : ∀ h' tk' t, Fr h₀ L h' m → News h₀ L h' ((58, tabObj #[rawInt ((90 : Nat) : Int), rawInt ((4 : Nat) : Int), .ref c']) :: (c', oc) :: (l, listOf vs.toArray kk) :: news) → Q (.int ((val n ds : Nat) : Int) t) { s with heap := h', toks := tk' }) :
  wpAny (model PySem.Challenge.rw_gl0007_01.row.prog w) (ktrTop dp un gd cn cs L a ccd cl outer) (call (.ref 63) [.ref l, .int n t2]) Q E s := by
  have hsz : vs.toArray.size = D := by simp [hI.length, hlen]
  have c1 : CodeHd h₀ 62 58 := codeHd_of_K X (by kernel_rfl)
  k_with_none
  w_top off
  k_with "all" => first | assumption | exact allLt_ne (by assumption) (by omega)
  revert X; k_fill; intro X
  refine wpAny_call ?_
  k_dflt (refine' code_defC ?k1 ?k2 ?k3 ?k4 ?k5 ?kA ?kF ?kK ?k6 ?k7 ?k8 ?k9 ?kB ?kD ?_ ?c2 ?c3 ?c4; (case kA => exact rfl); (case kF => exact rfl); (case kK => assumption); (case k1 => k_asm); (case k2 => k_asm); (case k3 => k_asm); (case k4 => k_asm); (case k5 => k_asm); (case k6 => k_is); (case k7 => k_is); (case k8 => k_room); (case k9 => exact BindsTo.of_eq rfl); (case kB => exact rfl); (case kD => decide +kernel); (case c2 => exact rfl); (case c3 => exact rfl); (case c4 => exact rfl); k_whole; intro g' L' h' tk' cells' FG' F' N' Y' B' X' T' l1; (try k_lt l1); have hLt := l1.2.2.2; k_cells Y'; (try simp only [List.cons_append, List.nil_append] at N'); (try dsimp only); (try k_lift B'); (try k_fold))
  k_with "call builtin:len" => (k_here; refine' KM.len_K (n := D) ?k1 ?k2 ?k3 ?k4 ?_; (case k1 => k_asm); (case k2 => k_mem); (case k3 => assumption); (case k4 => omega))
  k_with "call ref" => (k_here; refine' sum_N (l := l) (kk := kk) (its := vs) (n := n) (D := D) (ds := ds) (tn := t2) ?T ?F ?N ?hf ?hc ?hl ?hi ?ha ?hnn ?d1 ?d2 ?e1 ?e2 ?e3 ?hn ?room ?hD ?hD0 ?hlen ?hI ?hd2 ?hl60 ?cdg ?cin ?cn ?hk ?hco ?hgen ?hcell ?loc ?free ?binds ?hres; (case T => k_asm); (case F => k_asm); (case N => k_asm); (case hf => exact List.mem_cons_self); (case hc => exact (List.mem_cons_of_mem _ (List.mem_cons_of_mem _ (List.mem_cons_of_mem _ (List.mem_cons_of_mem _ (List.mem_cons_of_mem _ List.mem_cons_self)))))); (case hi => exact (List.mem_cons_of_mem _ List.mem_cons_self)); (case hnn => exact (List.mem_cons_of_mem _ (List.mem_cons_of_mem _ List.mem_cons_self))); (case ha => exact (List.mem_cons_of_mem _ (List.mem_cons_of_mem _ (List.mem_cons_of_mem _ List.mem_cons_self)))); (case cdg => kernel_rfl); (case cin => kernel_rfl); (case cn => kernel_rfl); (case e1 => exact Eq.trans (by assumption) (by kernel_rfl)); (case hl => exact (List.mem_cons_of_mem _ (List.mem_cons_of_mem _ (List.mem_cons_of_mem _ (List.mem_cons_of_mem _ (List.mem_cons_of_mem _ (List.mem_cons_of_mem _ List.mem_cons_self))))))); (case d1 => assumption); (case d2 => exact tok_tr (by assumption) (by kernel_rfl)); (case e2 => assumption); (case e3 => exact Eq.trans (by assumption) (by kernel_rfl)); (case hn => omega); (case room => k_room); (case hD => omega); (case hD0 => omega); (case hlen => assumption); (case hI => assumption); (case hd2 => assumption); (case hl60 => assumption); (case hk => rfl); (case hco => rfl); (case hgen => rfl); (case hcell => decide +kernel); (case loc => decide +kernel); (case free => decide +kernel); (case binds => exact fun _ _ _ => BindsTo.of_eq rfl); intro h' tk' t' F' N')
  k_steps
  · have kN := ‹News h₀ L _ _›
    exact hret _ _ _ (by assumption) (cb_drop kN fun p hp => (List.mem_cons_of_mem _ (List.mem_cons_of_mem _ (List.mem_cons_of_mem _ (List.mem_cons_of_mem _ hp)))))
end
section
theorem News.more {h₀ h : Heap} {L : Addr} {news : List (Addr × Obj)} (N : News h₀ L h news) {q : Addr × Obj} (hq : q ∈ news) : News h₀ L h (q :: news) := List.forall_mem_cons.mpr ⟨N q hq, N⟩
theorem i2d_hitM {w : World} {p : Program} {loose : List Str} {mean : ExcName → Option Value} {mg mb : Str → Option Value}
  (dp un : Nat) (gd : Option (List Code)) (cn : Str) (cs : Scope) (a : Addr) (ccd : Value) (cl : List (Str × Addr)) (outer : List Env) (A₀ : Around) (base h₀ : Heap) (L : Addr) (m : Str → Option Value) (s : Shared) (Q : Value → Shared → Prop) (E : Value → Shared → Prop) (news : List (Addr × Obj))
  (B : Below A₀ base outer h₀) (F : Fr h₀ L s.heap m) (X : (hd.heap_39 w.params).In h₀) (c' : Addr) (oc : Obj) (vc : Array Value) (tq : Tok) (N : News h₀ L s.heap news) (m51 : (51, tabObj #[rawInt ((75 : Nat) : Int), rawInt ((4 : Nat) : Int), .ref c']) ∈ news) (mc : (c', oc) ∈ news) (ec1 : oc.data = .fields vc) (ec2 : vc[1]? = some (.str (Str.ofString "_int2digits.<locals>.inner") tq))
  (T : Top p loose mean mg mb h₀) (hk : cs.kind = .function) (hd : dp < 700) (hu : un < 500) (x n D : Nat) (t1 t2 : Tok) (hx : (x : Int) ≠ 0) (hcnt : ((Builtin.Int.intBits (x : Int) : Nat) + (n : Int) - 1).fdiv (n : Int) = (D : Int)) (hD : 0 < D ∧ D < 50) (hn : 0 < n ∧ n < 60) (hx2 : x < 2 ^ (D * n)) (hx60 : x < 2 ^ 60)
  (hret : ∀ (q : Addr) kk (vs' : List Value) h' tk', Fr h₀ L h' m → News h₀ L h' ((q, listOf vs'.toArray kk) :: news) → IntsAre vs' (digs n x D) → (∀ p ∈ news, p.1 < q) → Q (.ref q) { s with heap := h', toks := tk' }) :
  wpAny (model PySem.Challenge.rw_gl0007_01.row.prog w) (ktrTop dp un gd cn cs L a ccd cl outer) (call (.ref 56) [.int x t1, .int n t2]) Q E s :=
  i2d_hit dp un gd cn cs a ccd cl outer A₀ base h₀ L m s Q E news B F X c' oc vc tq (News.more (News.more N mc) (List.mem_cons_of_mem _ m51)) ec1 ec2 T hk hd hu x n D t1 t2 hx hcnt hD hn hx2 hx60
    fun q kk vs' h' tk' F' N' hI hl _ _ => hret q kk vs' h' tk' F' (cb_drop N' (List.forall_mem_cons.mpr ⟨List.mem_cons_self, fun p hp => (List.mem_cons_of_mem _ (List.mem_cons_of_mem _ (List.mem_cons_of_mem _ hp)))⟩)) hI hl
theorem d2i_hitM {w : World} {p : Program} {loose : List Str} {mean : ExcName → Option Value} {mg mb : Str → Option Value}
  (dp un : Nat) (gd : Option (List Code)) (cn : Str) (cs : Scope) (a : Addr) (ccd : Value) (cl : List (Str × Addr)) (outer : List Env) (A₀ : Around) (base h₀ : Heap) (L : Addr) (m : Str → Option Value) (s : Shared) (Q : Value → Shared → Prop) (E : Value → Shared → Prop) (news : List (Addr × Obj))
  (B : Below A₀ base outer h₀) (F : Fr h₀ L s.heap m) (X : (hd.heap_39 w.params).In h₀) (l : Addr) (vs : Array Value) (kk : Nat) (ds : List Nat) (c' : Addr) (oc : Obj) (vc : Array Value) (tq : Tok) (N : News h₀ L s.heap news) (hl : (l, listOf vs kk) ∈ news) (m58 : (58, tabObj #[rawInt ((90 : Nat) : Int), rawInt ((4 : Nat) : Int), .ref c']) ∈ news) (mc : (c', oc) ∈ news) (ec1 : oc.data = .fields vc) (ec2 : vc[1]? = some (.str (Str.ofString "_digits2int.<locals>.inner") tq))
  (T : Top p loose mean mg mb h₀) (hk : cs.kind = .function) (hd : dp < 700) (hu : un < 500) (n D : Nat) (t2 : Tok) (hI : IntsAre vs.toList (ds.map fun (d : Nat) => (d : Int))) (hlen : D = ds.length) (hd2 : ∀ d ∈ ds, d < 2 ^ n) (hl60 : D * n ≤ 60) (hD : 0 < D ∧ D < 50) (hn : 0 < n ∧ n < 60) (v : Nat) (hv : val n ds = v)
  (hret : ∀ h' tk' t, Fr h₀ L h' m → News h₀ L h' news → Q (.int (v : Int) t) { s with heap := h', toks := tk' }) :
  wpAny (model PySem.Challenge.rw_gl0007_01.row.prog w) (ktrTop dp un gd cn cs L a ccd cl outer) (call (.ref 63) [.ref l, .int n t2]) Q E s := by
  subst hv
  refine d2i_hit dp un gd cn cs a ccd cl outer A₀ base h₀ L m s Q E news B F X l vs.toList kk ds c' oc vc tq (News.more (News.more (News.more N ?_) (List.mem_cons_of_mem _ mc)) (List.mem_cons_of_mem _ (List.mem_cons_of_mem _ m58))) ec1 ec2 T hk hd hu n D t2 hI hlen hd2 hl60 hD hn
    fun h' tk' t F' N' => hret h' tk' t F' (cb_drop N' (fun p hp => (List.mem_cons_of_mem _ (List.mem_cons_of_mem _ (List.mem_cons_of_mem _ hp)))))
  simpa using hl
theorem div_callE {w : World} {p : Program} {loose : List Str} {mean : ExcName → Option Value} {mg mb : Str → Option Value}
  (dp un : Nat) (gd : Option (List Code)) (cn : Str) (cs : Scope) (a : Addr) (ccd : Value) (cl : List (Str × Addr)) (outer : List Env) (A₀ : Around) (base h₀ : Heap) (L : Addr) (m : Str → Option Value) (s : Shared) (Q : Value → Shared → Prop) (E : Value → Shared → Prop) (news : List (Addr × Obj))
  (B : Below A₀ base outer h₀) (F : Fr h₀ L s.heap m) (X : (hd.heap_39 w.params).In h₀) (N : News h₀ L s.heap news) (T : Top p loose mean mg mb h₀) (hk : cs.kind = .function)
  (hd : dp < 700) (hu : un < 500) (x y n q r : Int) (t1 t2 t3 : Tok) (hx : 0 ≤ x ∧ x < 2 ^ 60) (hy : 0 < y ∧ y < 1000000) (hn : 0 ≤ n) (e1 : x.fdiv y = q) (e2 : x.fmod y = r)
  (hret : ∀ c h' tk' u1 u2, Fr h₀ L h' m → News h₀ L h' ((c, { cls := .type "tuple", data := .seq #[.int q u1, .int r u2] }) :: news) → (∀ p ∈ news, p.1 < c) → Q (.ref c) { s with heap := h', toks := tk' }) :
  wpAny (model PySem.Challenge.rw_gl0007_01.row.prog w) (ktrTop dp un gd cn cs L a ccd cl outer) (call (.ref 42) [.int x t1, .int y t2, .int n t3]) Q E s := by
  subst e1 e2
  exact div_call dp un gd cn cs a ccd cl outer A₀ base h₀ L m s Q E news B F X N T hk hd hu x y n t1 t2 t3 hx hy hn hret
theorem ints1 {vs : List Value} {x : Int} (h : IntsAre vs [x]) : ∃ t0, vs.toArray = #[.int x t0] := by
  cases h with | cons _ t0 h => cases h; exact ⟨t0, rfl⟩
theorem ints2 {vs : List Value} {x y : Int} (h : IntsAre vs [x, y]) : ∃ t0 t1, vs.toArray = #[.int x t0, .int y t1] := by
  cases h with | cons _ t0 h => cases h with | cons _ t1 h => cases h; exact ⟨t0, t1, rfl⟩
theorem ints3 {vs : List Value} {x y z : Int} (h : IntsAre vs [x, y, z]) : ∃ t0 t1 t2, vs.toArray = #[.int x t0, .int y t1, .int z t2] := by
  cases h with | cons _ t0 h => cases h with | cons _ t1 h => cases h with | cons _ t2 h => cases h; exact ⟨t0, t1, t2, rfl⟩
end
section
theorem bits_lit {prog : Program} {w : World} {A : Around} {E : Value → Shared → Prop} {s : Shared} {a : Int} {t : Tok} {Q : Value → Shared → Prop} {k : Nat} (e : Builtin.Int.intBits a = k) (h : Q (.int (k : Int) s.toks) { s with toks := s.toks + 1 }) : wpAny (model prog w) A (call (.builtin "int.bit_length") [.int a t]) Q E s := call_int_bit_length (by rw [e]; exact h)
theorem offI_of {I : Addr} {it : Obj} : ∀ {l : List (Addr × Obj)}, AllLt I l → OffI I it l
  | [], _ => trivial
  | _ :: _, h => ⟨Or.inl (Nat.ne_of_lt h.1), offI_of h.2⟩
section
variable {prog : Program} {w : World} {A : Around} {E : Value → Shared → Prop} {s : Shared} {env : Env} {h₀ : Heap} {x : PySem.Str} {body : List Stmt} {Q : Flow → Shared → Prop}
/-- a loop over reversed(list): what holds between the turns -/
theorem rev_inv {I L : Addr} (hL : env.locals = L) {lp : Addr × Obj} (full : List Value) (Inv : Nat → (PySem.Str → Option Value) → List (Addr × Obj) → Prop) (hlp : ∀ i m news, Inv i m news → lp ∈ news)
    (turn : ∀ i v, full[i]? = some v → ∀ m' news it h tk, Inv i m' news → (∀ p ∈ news, p.1 ≠ I) → Fr h₀ L h (fun y => if y = x then some v else m' y) → News h₀ L h ((I, it) :: news) →
      wpAny (model prog w) A (execs body env) (TurnEnd h₀ L I it (Inv (i + 1)) { s with heap := h, toks := tk }) E { s with heap := h, toks := tk })
    (done : ∀ m' news h tk, Inv full.length m' news → Fr h₀ L h m' → News h₀ L h news → Q .next { s with heap := h, toks := tk }) :
    ∀ (r : List Value) i m' news, full.drop i = r → Inv i m' news → (∀ p ∈ news, p.1 ≠ I) → i ≤ full.length → RevRest prog w A E h₀ env x body Q s I lp r m' news
  | [], i, m', news, hr, hi, _, hle => RevRest.zero fun h tk F N => done m' news h tk (by
      have : i = full.length := Nat.le_antisymm hle (List.drop_eq_nil_iff.mp hr)
      exact this ▸ hi) (hL ▸ F) (hL ▸ N)
  | v :: r, i, m', news, hr, hi, ho, hle => RevRest.succ fun it h tk _ F N => by
      subst hL
      have hv : full[i]? = some v := by
        have := congrArg (fun l => l[0]?) hr
        simpa using this
      have hr' : full.drop (i + 1) = r := by
        have := congrArg List.tail hr
        simpa using this
      have hlt : i < full.length := (List.getElem?_eq_some_iff.mp hv).1
      refine wpAny_mono (turn i v hv m' news it h tk hi ho F N) (fun f s₂ q => ?_) fun _ _ e => e
      obtain ⟨rfl, h', tk', m'', news'', rfl, hi', F', N', ho'⟩ := q
      exact ⟨h', tk', m'', news'', rfl, F', N', ho', hlp _ _ _ hi', rev_inv rfl full Inv hlp turn done r (i + 1) m'' news'' hr' hi' ho' hlt⟩
theorem for_rev {ax I L : Addr} (hL : env.locals = L) {kk : Nat} {vs : List Value} {m₀ : PySem.Str → Option Value} {news : List (Addr × Obj)} (Inv : Nat → (PySem.Str → Option Value) → List (Addr × Obj) → Prop) (hh : A.handled = none) (F : Fr h₀ L s.heap m₀) (N : News h₀ L s.heap ((I, revObj ax ((vs.length : Int) - 1)) :: news))
    (hl : AllLt I news) (hm : (ax, listOf vs.toArray kk) ∈ news) (hlp : ∀ i m news, Inv i m news → (ax, listOf vs.toArray kk) ∈ news) (start : Inv 0 m₀ news)
    (turn : ∀ i v, vs.reverse[i]? = some v → ∀ m' news it h tk, Inv i m' news → (∀ p ∈ news, p.1 ≠ I) → Fr h₀ L h (fun y => if y = x then some v else m' y) → News h₀ L h ((I, it) :: news) →
      wpAny (model prog w) A (execs body env) (TurnEnd h₀ L I it (Inv (i + 1)) { s with heap := h, toks := tk }) E { s with heap := h, toks := tk })
    (done : ∀ m' news h tk, Inv vs.reverse.length m' news → Fr h₀ L h m' → News h₀ L h news → Q .next { s with heap := h, toks := tk }) :
    wpAny (model prog w) A (pyIter (.ref I)) (fun it s₂ => LoopAtV prog w A h₀ env x body Q E it s₂) E s := by
  subst hL
  exact iter_revUnr hh F N (offI_of hl) hm rfl rfl (rev_inv rfl vs.reverse Inv hlp turn done vs.reverse 0 m₀ news rfl start (allLt_ne' hl) (Nat.zero_le _))
end
theorem ints_append {a b : List Value} {x y : List Int} (h : IntsAre a x) (h' : IntsAre b y) : IntsAre (a ++ b) (x ++ y) := by
  induction h with
  | nil => exact h'
  | cons n t _ ih => exact .cons n t ih
theorem ints_reverse {a : List Value} {x : List Int} (h : IntsAre a x) : IntsAre a.reverse x.reverse := by
  induction h with
  | nil => exact .nil
  | cons n t _ ih => rw [List.reverse_cons, List.reverse_cons]; exact ints_append ih (.cons n t .nil)
theorem rev_at {vs : List Value} {ds : List Nat} (h : IntsAre vs (ds.map fun (d : Nat) => (d : Int))) {i : Nat} {v : Value} (hv : vs.reverse[i]? = some v) : ∃ (d : Nat) (t : Tok), v = .int (d : Int) t ∧ ds.reverse[i]? = some d := by
  have h2 := ints_reverse h
  have hl := h2.length
  have hi : i < vs.reverse.length := (List.getElem?_eq_some_iff.mp hv).1
  have hi2 : i < ds.reverse.length := by rw [hl] at hi; simpa using hi
  have e : ((ds.map fun (d : Nat) => (d : Int)).reverse)[i]? = some ((ds.reverse[i] : Nat) : Int) := by
    rw [← List.map_reverse, List.getElem?_map, List.getElem?_eq_getElem hi2]; rfl
  obtain ⟨t, ht⟩ := h2.get i _ e
  exact ⟨ds.reverse[i], t, Option.some.inj (hv.symm.trans ht), List.getElem?_eq_getElem hi2⟩
theorem allLt_all {d : Addr} : ∀ {l : List (Addr × Obj)}, AllLt d l → ∀ p ∈ l, p.1 < d
  | [], _, _, h => nomatch h
  | _ :: _, h, p, hp => by
    rcases List.mem_cons.mp hp with rfl | hp
    · exact h.1
    · exact allLt_all h.2 p hp
def dstep (n y : Nat) (p : List Nat × Nat) (d : Nat) : List Nat × Nat := (p.1 ++ [(p.2 * 2 ^ n + d) / y], (p.2 * 2 ^ n + d) % y)
def dfold (n y : Nat) (l : List Nat) : List Nat × Nat := l.foldl (dstep n y) ([], 0)
theorem dfold_snoc (n y : Nat) (l : List Nat) (d : Nat) : dfold n y (l ++ [d]) = dstep n y (dfold n y l) d := by simp [dfold]
theorem dfold_lt (n y : Nat) (hy : 0 < y) (l : List Nat) : (dfold n y l).2 < y := by
  rcases List.eq_nil_or_concat l with rfl | ⟨l', d, rfl⟩
  · exact hy
  · rw [List.concat_eq_append, dfold_snoc]; exact Nat.mod_lt _ hy
theorem dfold_len (n y : Nat) (l : List Nat) : (dfold n y l).1.length = l.length := by
  have key : ∀ (l : List Nat) (p : List Nat × Nat), (l.foldl (dstep n y) p).1.length = p.1.length + l.length := by
    intro l
    induction l with
    | nil => intro p; rfl
    | cons d r ih => intro p; rw [List.foldl_cons, ih]; simp [dstep]; omega
  simpa [dfold] using key l ([], 0)
theorem step_val (n R d : Nat) : (R : Int) * 2 ^ (n : Int).toNat + (d : Int) = ((R * 2 ^ n + d : Nat) : Int) := by
  rw [Int.toNat_natCast]; push_cast; rfl
theorem step_div (n R d y : Nat) : ((R : Int) * 2 ^ (n : Int).toNat + (d : Int)).fdiv (y : Int) = (((R * 2 ^ n + d) / y : Nat) : Int) := by
  rw [step_val]; exact (Int.ofNat_fdiv _ _).symm
theorem step_mod (n R d y : Nat) : ((R : Int) * 2 ^ (n : Int).toNat + (d : Int)).fmod (y : Int) = (((R * 2 ^ n + d) % y : Nat) : Int) := by
  rw [step_val]; exact (Int.ofNat_fmod _ _).symm
theorem step_small (n R d y : Nat) (hn : n < 10) (hR : R < y) (hy : y < 1000000) (hd : d < 2 ^ n) : 0 ≤ (R : Int) * 2 ^ (n : Int).toNat + (d : Int) ∧ (R : Int) * 2 ^ (n : Int).toNat + (d : Int) < 2 ^ 60 := by
  rw [step_val]
  have h1 : 2 ^ n ≤ 2 ^ 9 := Nat.pow_le_pow_right (by decide) (by omega)
  have h2 : R * 2 ^ n ≤ 1000000 * 2 ^ 9 := Nat.mul_le_mul (by omega) h1
  omega
def touchedD : List PySem.Str := [Str.ofString "a_digit", Str.ofString "q_digit", Str.ofString "r"]
def DigsInv (m₀ : PySem.Str → Option Value) (n y : Nat) (ds : List Nat) (lq : Addr) (tl : List (Addr × Obj)) (i : Nat) (m : PySem.Str → Option Value) (news : List (Addr × Obj)) : Prop :=
  Same m₀ touchedD m ∧ (∃ tr, m (Str.ofString "r") = some (.int (((dfold n y (ds.reverse.take i)).2 : Nat) : Int) tr)) ∧ ∃ us kq, news = (lq, listOf us.toArray kq) :: tl ∧ IntsAre us ((dfold n y (ds.reverse.take i)).1.map fun (d : Nat) => (d : Int))
theorem pick2 {h₀ h : Heap} {L I lq : Addr} {a b : Obj} {rest : List (Addr × Obj)} (_ : News h₀ L h ((I, a) :: (lq, b) :: rest)) : ∃ I' lq' : Addr, I' = I ∧ lq' = lq := ⟨_, _, rfl, rfl⟩
theorem div_start {h₀ h : Heap} {L lq : Addr} {m : PySem.Str → Option Value} {y n : Nat} {tr ty tn : Tok} (F : Fr h₀ L h m) (e1 : m (Str.ofString "q_digits") = some (.ref lq)) (e2 : m (Str.ofString "r") = some (.int 0 tr)) (e3 : m (Str.ofString "b") = some (.int (y : Int) ty)) (e4 : m (Str.ofString "n") = some (.int (n : Int) tn)) :
    ∃ (m₀ : PySem.Str → Option Value) (tr tn : Tok), Fr h₀ L h m₀ ∧ m₀ (Str.ofString "q_digits") = some (.ref lq) ∧ m₀ (Str.ofString "r") = some (.int 0 tr) ∧ m₀ (Str.ofString "b") = some (.int (y : Int) ty) ∧ m₀ (Str.ofString "n") = some (.int (n : Int) tn) := ⟨m, tr, tn, F, e1, e2, e3, e4⟩
set_option maxRecDepth 100000 in
set_option maxHeartbeats 8000000 in
theorem divpos_hit {w : World} {p : Program} {loose : List Str} {mean : ExcName → Option Value} {mg mb : Str → Option Value}
  (dp un : Nat) (gd : Option (List Code)) (cn : Str) (cs : Scope) (a : Addr) (ccd : Value) (cl : List (Str × Addr)) (outer : List Env) (A₀ : Around) (base h₀ : Heap) (L : Addr) (m : Str → Option Value) (s : Shared) (Q : Value → Shared → Prop) (E : Value → Shared → Prop) (news : List (Addr × Obj))
  (B : Below A₀ base outer h₀) (F : Fr h₀ L s.heap m) (X : (hd.heap_39 w.params).In h₀) (c1 c2 : Addr) (o1 o2 : Obj) (v1 v2 : Array Value) (g1 g2 : Tok) (m51 : (51, tabObj #[rawInt ((75 : Nat) : Int), rawInt ((4 : Nat) : Int), .ref c1]) ∈ news) (mc1 : (c1, o1) ∈ news) (f1 : o1.data = .fields v1) (rr1 : v1[1]? = some (.str (Str.ofString "_int2digits.<locals>.inner") g1))
  (m58 : (58, tabObj #[rawInt ((90 : Nat) : Int), rawInt ((4 : Nat) : Int), .ref c2]) ∈ news) (mc2 : (c2, o2) ∈ news) (f2 : o2.data = .fields v2) (rr2 : v2[1]? = some (.str (Str.ofString "_digits2int.<locals>.inner") g2)) (N : News h₀ L s.heap news)
  (T : Top p loose mean mg mb h₀) (hk : cs.kind = .function) (hd : dp < 600) (hu : un < 400) (x y n D : Nat) (ds qs : List Nat) (r0 vq : Nat) (t1 t2 : Tok) (hx : (x : Int) ≠ 0) (hcnt : ((Builtin.Int.intBits (x : Int) : Nat) + (n : Int) - 1).fdiv (n : Int) = (D : Int)) (hD : 0 < D ∧ D < 4) (hn : 0 < n ∧ n < 10) (hx2 : x < 2 ^ (D * n)) (hx60 : x < 2 ^ 60)
  (hy : 0 < (y : Int) ∧ (y : Int) < 1000000) (hnb : (Builtin.Int.intBits (y : Int) : Nat) = n) (hdig : digs n x D = ds.map fun (d : Nat) => (d : Int)) (hlen : ds.length = D) (hdb : ∀ d ∈ ds, d < 2 ^ n) (hfold : dfold n y ds.reverse = (qs, r0)) (hq : ∀ d ∈ qs.reverse, d < 2 ^ n) (hv : val n qs.reverse = vq)
  (hret : ∀ c h' tk' u1 u2, Fr h₀ L h' m → News h₀ L h' ((c, { cls := .type "tuple", data := .seq #[.int (vq : Nat) u1, .int (r0 : Nat) u2] }) :: news) → (∀ p ∈ news, p.1 < c) → Q (.ref c) { s with heap := h', toks := tk' }) :
  wpAny (model PySem.Challenge.rw_gl0007_01.row.prog w) (ktrTop dp un gd cn cs L a ccd cl outer) (call (.ref 70) [.int x t1, .int y t2]) Q E s := by
  have hl60 : D * n ≤ 60 := by
    rcases (by omega : D = 1 ∨ D = 2 ∨ D = 3) with rfl | rfl | rfl <;> omega
  k_with_none
  w_top off
  k_with "all" => first | assumption | exact allLt_ne (by assumption) (by omega)
  revert X; k_fill; intro X
  refine wpAny_call ?_
  k_dflt cell_enter
  k_with "call ref" => (k_here; (with_reducible show wpAny _ _ (call (Value.ref 56) _) _ _ _); (k_dflt (refine' i2d_hitM _ _ _ _ _ _ _ _ _ _ _ _ _ _ _ _ _ _ (by k_asm) (by k_asm) (by k_asm) _ _ _ _ (by k_asm) (by (repeat (first | exact m51 | refine List.mem_cons_of_mem _ ?_))) (by (repeat (first | exact mc1 | refine List.mem_cons_of_mem _ ?_))) (by assumption) (by assumption) (by k_asm) (by rfl) (by ((try dsimp only [ktrTop]); omega)) (by ((try dsimp only [ktrTop]); omega)) x n D _ _ (by assumption) (by assumption) (by omega) (by omega) (by assumption) (by assumption) ?_); intro q' kk' vs' h' tk' F' N' hI' l1; (try k_lt l1)))
  k_with "call builtin:int.bit_length" => refine bits_lit hnb ?_
  k_with "pyIter ref" => (k_here; (with_reducible show wpAny _ _ (pyIter (Value.ref _)) (fun it s₂ => LoopAtV _ _ _ _ _ _ _ _ _ it s₂) _ _); refine Stop.go ?_)
  k_steps
  refine Stop.on ?_
  with_reducible rename News _ _ _ _ => Nq
  with_reducible rename Fr _ _ _ _ => Fq
  obtain ⟨m₀, tr0, tn0, F0, eq1, eq2, eq3, eq4⟩ := div_start Fq (by rfl) (by rfl) (by rfl) (by rfl)
  have hI0 : IntsAre vs' (ds.map fun (d : Nat) => (d : Int)) := hdig ▸ hI'
  have hyN : 0 < y ∧ y < 1000000 := by omega
  clear Fq
  obtain ⟨I, lq, eI, elq⟩ := pick2 Nq
  subst eI elq
  have hlI : @LT.lt Nat _ lq I := by omega
  have hlq : AllLt lq ((q', listOf vs'.toArray kk') :: news) := by simp only [AllLt]; assumption
  have hoffq := allLt_ne' hlq
  have hAI : AllLt I ((lq, listOf #[] 0) :: (q', listOf vs'.toArray kk') :: news) := by simp only [AllLt]; assumption
  refine for_rev (by rfl) (DigsInv m₀ n y ds lq ((q', listOf vs'.toArray kk') :: news)) (by rfl) F0 Nq hAI (.tail _ (.head _)) (fun i m news h => ?hlp) ⟨Same.refl, ⟨_, eq2⟩, [], 0, rfl, .nil⟩ ?turn ?done
  case hlp =>
    obtain ⟨_, _, us, kq, rfl, _⟩ := h
    exact .tail _ (.head _)
  case turn =>
    intro i v hv m' nws it h tk ⟨hS, ⟨tr, er⟩, us, kq, en, hU⟩ hoI F N
    subst en
    clear F0 Nq
    obtain ⟨d, td, rfl, hd⟩ := rev_at hI0 hv
    have hdn : d < 2 ^ n := hdb d (List.mem_reverse.mp (List.mem_of_getElem? hd))
    have hR := dfold_lt n y hyN.1 (ds.reverse.take i)
    have hql : (dfold n y (ds.reverse.take i)).1.length ≤ 3 := by
      rw [dfold_len, List.length_take, List.length_reverse]; omega
    have hnext : dfold n y (ds.reverse.take (i + 1)) = dstep n y (dfold n y (ds.reverse.take i)) d := by
      rw [List.take_add_one, hd]; exact dfold_snoc n y _ d
    unfold DigsInv
    rw [hnext]
    generalize dfold n y (ds.reverse.take i) = pr at er hU hR hql ⊢
    obtain ⟨ql, R⟩ := pr
    dsimp only at er hU hR hql
    have hus : us.toArray.size ≤ sizeLine := by
      rw [List.size_toArray, hU.length, List.length_map]; exact Nat.le_trans hql (by decide)
    have e1 := step_div n R d y
    have e2 := step_mod n R d y
    have eb := step_small n R d y hn.2 hR hyN.2 hdn
    have en : ((R : Nat) : Int).natAbs < 2 ^ 64 := by omega
    replace F := Fr.put (Fr.put (Fr.put (Fr.put F ((if_neg (by decide +kernel)).trans er)) ((if_neg (by decide +kernel)).trans ((if_neg (by decide +kernel)).trans (hS.get (by decide +kernel) eq1)))) ((if_neg (by decide +kernel)).trans ((if_neg (by decide +kernel)).trans ((if_neg (by decide +kernel)).trans (hS.get (by decide +kernel) eq3))))) ((if_neg (by decide +kernel)).trans ((if_neg (by decide +kernel)).trans ((if_neg (by decide +kernel)).trans ((if_neg (by decide +kernel)).trans (hS.get (by decide +kernel) eq4)))))
    have kMark := kstMark
    k_with "call ref" => (k_here; (with_reducible show wpAny _ _ (call (Value.ref 42) _) _ _ _); (k_dflt (refine' div_callE _ _ _ _ _ _ _ _ _ _ _ _ _ _ _ _ _ _ (by k_asm) (by k_asm) (by k_asm) (by k_asm) (by k_asm) (by rfl) (by ((try dsimp only [ktrTop]); omega)) (by ((try dsimp only [ktrTop]); omega)) _ _ _ _ _ _ _ _ (by assumption) (by assumption) (by omega) (by assumption) (by assumption) ?_); intro c' h' tk' v1' v2' F' N' l1; (try k_lt l1)))
    k_with "call builtin:list.append" => (k_here; (k_dflt (refine append_K (its := us.toArray) (n := kq) (D := lq) (by k_asm) (by k_asm) (by k_upd) ?_ hus)); intro h' F' N'; rw [List.push_toArray] at N')
    k_steps
    refine TurnEnd.of ((lq, listOf (us ++ [_]).toArray (kq + 1)) :: (q', listOf vs'.toArray kk') :: news) (by k_asm) (cb_drop (by k_asm) fun p hp => List.mem_cons_of_mem _ hp) (List.forall_mem_cons.mpr ⟨Nat.ne_of_lt hlI, fun p hp => hoI p (.tail _ hp)⟩) ⟨?same, ⟨_, by rfl⟩, _, _, rfl, ?hintz⟩
    case same => exact (by (repeat (first | exact hS | refine Same.put (by decide +kernel) ?_ | refine Same.keep (by assumption) ?_)))
    case hintz =>
      show IntsAre _ ((ql ++ [(R * 2 ^ n + d) / y]).map fun (d : Nat) => (d : Int))
      rw [List.map_append]
      exact ints_append hU (.cons _ _ .nil)
  case done =>
    intro m' nws h tk ⟨hS, ⟨tr, er⟩, us, kq, en, hU⟩ F N
    subst en
    clear F0 Nq
    have elen : vs'.reverse.length = ds.reverse.length := by rw [List.length_reverse, List.length_reverse, hI0.length, List.length_map]
    rw [elen, List.take_length, hfold] at er hU
    dsimp only at er hU
    have hU2 : IntsAre us.reverse (qs.reverse.map fun (d : Nat) => (d : Int)) := by rw [List.map_reverse]; exact ints_reverse hU
    have hqlen : D = qs.reverse.length := by
      have h1 := dfold_len n y ds.reverse
      rw [hfold] at h1
      have h2 : qs.length = ds.reverse.length := h1
      rw [List.length_reverse] at h2
      rw [List.length_reverse]; omega
    have hus : us.toArray.toList.length ≤ sizeLine := by
      show us.length ≤ _
      rw [hU.length, List.length_map]
      rw [List.length_reverse] at hqlen
      exact Nat.le_trans (by omega : qs.length ≤ 3) (by decide)
    replace F := Fr.put (Fr.put (Fr.put F er) ((if_neg (by decide +kernel)).trans (hS.get (by decide +kernel) eq1))) ((if_neg (by decide +kernel)).trans ((if_neg (by decide +kernel)).trans (hS.get (by decide +kernel) eq4)))
    have kMark := kstMark
    k_with "call builtin:list.reverse" => (k_here; (k_dflt (refine kl_reverse (its := us.toArray) (n := kq) (D := lq) (l := us.reverse) (by k_asm) (by k_asm) (by rfl) (by k_upd) hus ?_)); intro h' F' N')
    k_with "call ref" => (k_here; (with_reducible show wpAny _ _ (call (Value.ref 63) _) _ _ _); (k_dflt (refine' d2i_hitM _ _ _ _ _ _ _ _ _ _ _ _ _ _ _ _ _ _ (by k_asm) (by k_asm) (by k_asm) _ us.reverse.toArray _ qs.reverse _ _ _ _ (by k_asm) (by k_mem) (by (repeat (first | exact m58 | refine List.mem_cons_of_mem _ ?_))) (by (repeat (first | exact mc2 | refine List.mem_cons_of_mem _ ?_))) (by assumption) (by assumption) (by k_asm) (by rfl) (by ((try dsimp only [ktrTop]); omega)) (by ((try dsimp only [ktrTop]); omega)) n D _ hU2 hqlen (by assumption) (by assumption) (by omega) (by omega) vq (by assumption) ?_); intro h' tk' t' F' N'))
    k_steps
    all_goals (have kN := ‹News h₀ L _ _›; exact hret _ _ _ _ _ (by assumption) (cb_drop kN (List.forall_mem_cons.mpr ⟨List.mem_cons_self, by intro p hp; repeat (first | exact hp | apply List.mem_cons_of_mem)⟩)) (allLt_all (by simp only [AllLt] at *; (repeat (first | assumption | exact And.right (by assumption) | exact And.right (And.right (by assumption)))))))
end
section
section
variable {prog : Program} {w : World} {A : Around} {E : Value → Shared → Prop} {s : Shared} {env : Env} {h₀ : Heap} {x : Str} {body : List Stmt} {Q : Flow → Shared → Prop}
theorem iter_revE {ax I : Addr} {kk : Nat} {vs r : List Value} {m₀ : Str → Option Value} {news : List (Addr × Obj)} (hh : A.handled = none) (F : Fr h₀ env.locals s.heap m₀) (N : News h₀ env.locals s.heap ((I, revObj ax ((vs.length : Int) - 1)) :: news)) (hl : AllLt I news) (hm : (ax, listOf vs.toArray kk) ∈ news) (hr : vs.reverse = r)
    (rest : RevRest prog w A E h₀ env x body Q s I (ax, listOf vs.toArray kk) r m₀ news) : wpAny (model prog w) A (pyIter (.ref I)) (fun it s₂ => LoopAtV prog w A h₀ env x body Q E it s₂) E s := by
  subst hr
  exact iter_revUnr hh F N (offI_of hl) hm rfl rfl rest
end
theorem unrEnd0 {h₀ : Heap} {L I : Addr} {it : Obj} {rest : (Str → Option Value) → List (Addr × Obj) → Prop} {s₁ : Shared} {h' : Heap} {tk : Nat} {m' : Str → Option Value} {r : List (Addr × Obj)} (F : Fr h₀ L h' m') (N : News h₀ L h' ((I, it) :: r)) (hl : AllLt I r) (hr : rest m' r) : UnrEnd h₀ L s₁ I it rest { s₁ with heap := h', toks := tk } :=
  UnrEnd.intro F N r (fun _ h => h) (allLt_ne' hl) hr
theorem unrEnd1 {h₀ : Heap} {L I : Addr} {it : Obj} {rest : (Str → Option Value) → List (Addr × Obj) → Prop} {s₁ : Shared} {h' : Heap} {tk : Nat} {m' : Str → Option Value} {a : Addr × Obj} {r : List (Addr × Obj)} (F : Fr h₀ L h' m') (N : News h₀ L h' (a :: (I, it) :: r)) (hl : AllLt I r) (hr : rest m' r) : UnrEnd h₀ L s₁ I it rest { s₁ with heap := h', toks := tk } :=
  UnrEnd.intro F N r (fun _ h => .tail _ h) (allLt_ne' hl) hr
theorem unrEnd2 {h₀ : Heap} {L I : Addr} {it : Obj} {rest : (Str → Option Value) → List (Addr × Obj) → Prop} {s₁ : Shared} {h' : Heap} {tk : Nat} {m' : Str → Option Value} {a b : Addr × Obj} {r : List (Addr × Obj)} (F : Fr h₀ L h' m') (N : News h₀ L h' (a :: b :: (I, it) :: r)) (hl : AllLt I r) (hr : rest m' r) : UnrEnd h₀ L s₁ I it rest { s₁ with heap := h', toks := tk } :=
  UnrEnd.intro F N r (fun _ h => .tail _ (.tail _ h)) (allLt_ne' hl) hr
end
section
theorem i2d_freshM {w : World} {p : Program} {loose : List Str} {mean : ExcName → Option Value} {mg mb : Str → Option Value}
  (dp un : Nat) (gd : Option (List Code)) (cn : Str) (cs : Scope) (a : Addr) (ccd : Value) (cl : List (Str × Addr)) (outer : List Env) (A₀ : Around) (base h₀ : Heap) (L : Addr) (m : Str → Option Value) (s : Shared) (Q : Value → Shared → Prop) (E : Value → Shared → Prop) (news : List (Addr × Obj))
  (B : Below A₀ base outer h₀) (F : Fr h₀ L s.heap m) (X : (hd.heap_39 w.params).In h₀) (N : News h₀ L s.heap ((58, tabObj #[]) :: (51, tabObj #[]) :: news)) (h51 : ∀ p ∈ news, p.1 ≠ 51)
  (T : Top p loose mean mg mb h₀) (hk : cs.kind = .function) (hd : dp < 700) (hu : un < 500) (x n D : Nat) (t1 t2 : Tok) (hx : (x : Int) ≠ 0) (hcnt : ((Builtin.Int.intBits (x : Int) : Nat) + (n : Int) - 1).fdiv (n : Int) = (D : Int)) (hD : 0 < D ∧ D < 50) (hn : 0 < n ∧ n < 60) (hx2 : x < 2 ^ (D * n)) (hx60 : x < 2 ^ 60)
  (hret : ∀ (q c' : Addr) oc vc tq kk (vs' : List Value) h' tk', Fr h₀ L h' m → News h₀ L h' ((q, listOf vs'.toArray kk) :: (51, tabObj (#[] ++ #[rawInt ((75 : Nat) : Int), rawInt ((4 : Nat) : Int), .ref c'])) :: (c', oc) :: (58, tabObj #[]) :: news) → oc.data = .fields vc → vc[1]? = some (.str (Str.ofString "_int2digits.<locals>.inner") tq) → IntsAre vs' (digs n x D) →
    (∀ p ∈ (58, tabObj #[]) :: news, p.1 < q) → @LT.lt Nat _ 51 q → @LT.lt Nat _ q c' → Q (.ref q) { s with heap := h', toks := tk' }) :
  wpAny (model PySem.Challenge.rw_gl0007_01.row.prog w) (ktrTop dp un gd cn cs L a ccd cl outer) (call (.ref 56) [.int x t1, .int n t2]) Q E s :=
  i2d_fresh dp un gd cn cs a ccd cl outer A₀ base h₀ L m s Q E ((58, tabObj #[]) :: news) B F X (cb_drop N (List.forall_mem_cons.mpr ⟨.tail _ (.head _), List.forall_mem_cons.mpr ⟨.head _, fun p hp => .tail _ (.tail _ hp)⟩⟩)) (List.forall_mem_cons.mpr ⟨by decide, h51⟩) T hk hd hu x n D t1 t2 hx hcnt hD hn hx2 hx60 hret
theorem d2i_freshM {w : World} {p : Program} {loose : List Str} {mean : ExcName → Option Value} {mg mb : Str → Option Value}
  (dp un : Nat) (gd : Option (List Code)) (cn : Str) (cs : Scope) (a : Addr) (ccd : Value) (cl : List (Str × Addr)) (outer : List Env) (A₀ : Around) (base h₀ : Heap) (L : Addr) (m : Str → Option Value) (s : Shared) (Q : Value → Shared → Prop) (E : Value → Shared → Prop) (news : List (Addr × Obj))
  (B : Below A₀ base outer h₀) (F : Fr h₀ L s.heap m) (X : (hd.heap_39 w.params).In h₀) (l : Addr) (vs : Array Value) (kk : Nat) (ds : List Nat) (x1 x2 x3 : Addr × Obj) (N : News h₀ L s.heap ((l, listOf vs kk) :: x1 :: x2 :: x3 :: (58, tabObj #[]) :: news)) (h58 : ∀ p ∈ news, p.1 ≠ 58) (n0 : @LT.lt Nat _ 58 l) (n1 : @LT.lt Nat _ 58 x1.1) (n2 : @LT.lt Nat _ x2.1 58) (n3 : @LT.lt Nat _ 58 x3.1)
  (T : Top p loose mean mg mb h₀) (hk : cs.kind = .function) (hd : dp < 700) (hu : un < 500) (n D : Nat) (t2 : Tok) (hI : IntsAre vs.toList (ds.map fun (d : Nat) => (d : Int))) (hlen : D = ds.length) (hd2 : ∀ d ∈ ds, d < 2 ^ n) (hl60 : D * n ≤ 60) (hD : 0 < D ∧ D < 50) (hn : 0 < n ∧ n < 60) (v : Nat) (hv : val n ds = v)
  (hret : ∀ (c' : Addr) oc vc tq h' tk' t, Fr h₀ L h' m → News h₀ L h' ((c', oc) :: (58, tabObj (#[] ++ #[rawInt ((90 : Nat) : Int), rawInt ((4 : Nat) : Int), .ref c'])) :: (l, listOf vs kk) :: x1 :: x2 :: x3 :: news) → oc.data = .fields vc → vc[1]? = some (.str (Str.ofString "_digits2int.<locals>.inner") tq) →
    (∀ p ∈ (l, listOf vs kk) :: x1 :: x2 :: x3 :: news, @LT.lt Nat _ p.1 c') → @LT.lt Nat _ 58 c' → Q (.int (v : Int) t) { s with heap := h', toks := tk' }) :
  wpAny (model PySem.Challenge.rw_gl0007_01.row.prog w) (ktrTop dp un gd cn cs L a ccd cl outer) (call (.ref 63) [.ref l, .int n t2]) Q E s := by
  subst hv
  have e : vs.toList.toArray = vs := by simp
  have N₁ : News h₀ L s.heap ((58, tabObj #[]) :: (l, listOf vs.toList.toArray kk) :: x1 :: x2 :: x3 :: news) := by
    rw [e]
    intro p hp
    simp only [List.mem_cons] at hp
    refine N p ?_
    simp only [List.mem_cons]
    rcases hp with h | h | h | h | h | h <;> simp [h]
  have h58' : ∀ p ∈ (l, listOf vs.toList.toArray kk) :: x1 :: x2 :: x3 :: news, p.1 ≠ 58 := List.forall_mem_cons.mpr ⟨Nat.ne_of_gt n0, List.forall_mem_cons.mpr ⟨Nat.ne_of_gt n1, List.forall_mem_cons.mpr ⟨Nat.ne_of_lt n2, List.forall_mem_cons.mpr ⟨Nat.ne_of_gt n3, h58⟩⟩⟩⟩
  refine d2i_fresh dp un gd cn cs a ccd cl outer A₀ base h₀ L m s Q E (x1 :: x2 :: x3 :: news) B F X l vs.toList kk ds N₁ h58' T hk hd hu n D t2 hI hlen hd2 hl60 hD hn ?_
  intro c' oc vc tq h' tk' t F' N' f1 f2 f3 f4
  rw [e] at N' f3
  exact hret c' oc vc tq h' tk' t F' (cb_drop N' (List.forall_mem_cons.mpr ⟨.tail _ (.head _), List.forall_mem_cons.mpr ⟨.head _, fun p hp => .tail _ (.tail _ hp)⟩⟩)) f1 f2 f3 f4
local macro_rules | `(tactic| walk_at "UnrEnd") => `(tactic| (first | refine' unrEnd1 ?k1 ?k2 ?k3 ?_ | refine' unrEnd0 ?k1 ?k2 ?k3 ?_ | refine' unrEnd2 ?k1 ?k2 ?k3 ?_); (case k1 => k_asm); (case k2 => k_asm); (case k3 => ((simp only [AllLt]); assumption)))
set_option maxRecDepth 100000 in
set_option maxHeartbeats 8000000 in
theorem divpos_fresh {w : World} {p : Program} {loose : List Str} {mean : ExcName → Option Value} {mg mb : Str → Option Value}
  (dp un : Nat) (gd : Option (List Code)) (cn : Str) (cs : Scope) (a : Addr) (ccd : Value) (cl : List (Str × Addr)) (outer : List Env) (A₀ : Around) (base h₀ : Heap) (L : Addr) (m : Str → Option Value) (s : Shared) (Q : Value → Shared → Prop) (E : Value → Shared → Prop) (news : List (Addr × Obj))
  (B : Below A₀ base outer h₀) (F : Fr h₀ L s.heap m) (X : (hd.heap_39 w.params).In h₀) (N : News h₀ L s.heap ((58, tabObj #[]) :: (51, tabObj #[]) :: news)) (h51 : ∀ p ∈ news, p.1 ≠ 51) (h58 : ∀ p ∈ news, p.1 ≠ 58)
  (T : Top p loose mean mg mb h₀) (hk : cs.kind = .function) (hd : dp < 600) (hu : un < 400) (x y n : Nat) (d0 d1 q0 q1 r0 r1 vq : Nat) (t1 t2 : Tok) (hx : (x : Int) ≠ 0) (hcnt : ((Builtin.Int.intBits (x : Int) : Nat) + (n : Int) - 1).fdiv (n : Int) = ((2 : Nat) : Int)) (hn : 0 < n ∧ n < 10) (hx2 : x < 2 ^ (2 * n)) (hx60 : x < 2 ^ 60)
  (hy : 0 < (y : Int) ∧ (y : Int) < 1000000) (hnb : (Builtin.Int.intBits (y : Int) : Nat) = n) (hdig : digs n x 2 = [((d0 : Nat) : Int), ((d1 : Nat) : Int)]) (eq1 : ((0 : Int) * 2 ^ (n : Int).toNat + ((d1 : Nat) : Int)).fdiv (y : Int) = ((q1 : Nat) : Int)) (er1 : ((0 : Int) * 2 ^ (n : Int).toNat + ((d1 : Nat) : Int)).fmod (y : Int) = ((r1 : Nat) : Int)) (eb1 : 0 ≤ ((0 : Int) * 2 ^ (n : Int).toNat + ((d1 : Nat) : Int)) ∧ ((0 : Int) * 2 ^ (n : Int).toNat + ((d1 : Nat) : Int)) < 2 ^ 60) (en1 : ((0 : Int)).natAbs < 2 ^ 64) (eq0 : (((r1 : Nat) : Int) * 2 ^ (n : Int).toNat + ((d0 : Nat) : Int)).fdiv (y : Int) = ((q0 : Nat) : Int)) (er0 : (((r1 : Nat) : Int) * 2 ^ (n : Int).toNat + ((d0 : Nat) : Int)).fmod (y : Int) = ((r0 : Nat) : Int)) (eb0 : 0 ≤ (((r1 : Nat) : Int) * 2 ^ (n : Int).toNat + ((d0 : Nat) : Int)) ∧ (((r1 : Nat) : Int) * 2 ^ (n : Int).toNat + ((d0 : Nat) : Int)) < 2 ^ 60) (en0 : (((r1 : Nat) : Int)).natAbs < 2 ^ 64) (hq : ∀ d ∈ [q0, q1], d < 2 ^ n) (hv : val n [q0, q1] = vq)
  (hret : ∀ c h' tk' u1 u2 (c1 c2 : Addr) o1 o2 v1 v2 g1 g2, Fr h₀ L h' m → News h₀ L h' ((c, { cls := .type "tuple", data := .seq #[.int (vq : Nat) u1, .int (r0 : Nat) u2] }) :: (c2, o2) :: (58, tabObj (#[] ++ #[rawInt ((90 : Nat) : Int), rawInt ((4 : Nat) : Int), .ref c2])) :: (51, tabObj (#[] ++ #[rawInt ((75 : Nat) : Int), rawInt ((4 : Nat) : Int), .ref c1])) :: (c1, o1) :: news) → o1.data = .fields v1 → v1[1]? = some (.str (Str.ofString "_int2digits.<locals>.inner") g1) → o2.data = .fields v2 → v2[1]? = some (.str (Str.ofString "_digits2int.<locals>.inner") g2) →
    (∀ p ∈ news, p.1 < c) → @LT.lt Nat _ 58 c → @LT.lt Nat _ c1 c → @LT.lt Nat _ c2 c → @LT.lt Nat _ 58 c1 → @LT.lt Nat _ c1 c2 → (∀ p ∈ news, @LT.lt Nat _ p.1 c1) → Q (.ref c) { s with heap := h', toks := tk' }) :
  wpAny (model PySem.Challenge.rw_gl0007_01.row.prog w) (ktrTop dp un gd cn cs L a ccd cl outer) (call (.ref 70) [.int x t1, .int y t2]) Q E s := by
  have hl60 : 2 * n ≤ 60 := by omega
  k_with_none
  w_top off
  k_with "all" => first | assumption | exact allLt_ne (by assumption) (by omega)
  k_with "pyIter ref" => ((with_reducible show wpAny _ _ (pyIter (Value.ref _)) (fun it s₂ => LoopAtV _ _ _ _ _ _ _ _ _ it s₂) _ _); k_extra "rev")
  revert X; k_fill; intro X
  refine wpAny_call ?_
  k_dflt cell_enter
  k_with "call ref" => (k_here; (with_reducible show wpAny _ _ (call (Value.ref 56) _) _ _ _); (k_dflt (refine' i2d_freshM _ _ _ _ _ _ _ _ _ _ _ _ _ _ _ _ _ _ (by k_asm) (by k_asm) (by k_asm) (by k_asm) (by assumption) (by k_asm) (by rfl) (by ((try dsimp only [ktrTop]); omega)) (by ((try dsimp only [ktrTop]); omega)) x n 2 _ _ (by assumption) (by assumption) (by decide) (by omega) (by assumption) (by assumption) ?_); intro q' c1' oc1' vc1' tq1' kk' vs' h' tk' F' N' fc1 fc2 hI' li l2 l3; obtain ⟨u0, u1, hV⟩ := ints2 (hdig ▸ hI'); rw [hV] at N'; clear hI'; (try k_lt li)))
  k_with "call ref" => (k_here; (with_reducible show wpAny _ _ (call (Value.ref 42) _) _ _ _); (k_dflt (refine' div_callE _ _ _ _ _ _ _ _ _ _ _ _ _ _ _ _ _ _ (by k_asm) (by k_asm) (by k_asm) (by k_asm) (by k_asm) (by rfl) (by ((try dsimp only [ktrTop]); omega)) (by ((try dsimp only [ktrTop]); omega)) _ _ _ _ _ _ _ _ (by assumption) (by assumption) (by omega) (by assumption) (by assumption) ?_); intro c' h' tk' v1' v2' F' N' l1; (try k_lt l1)))
  k_with "call ref" => (k_here; (with_reducible show wpAny _ _ (call (Value.ref 63) _) _ _ _); (k_dflt (refine' d2i_freshM _ _ _ _ _ _ _ _ _ _ _ _ _ _ _ _ _ _ (by k_asm) (by k_asm) (by k_asm) _ _ _ [q0, q1] _ _ _ (by k_asm) (by assumption) (by omega) (by omega) (by omega) (by omega) (by k_asm) (by rfl) (by ((try dsimp only [ktrTop]); omega)) (by ((try dsimp only [ktrTop]); omega)) n 2 _ (by (repeat (first | exact IntsAre.nil | refine IntsAre.cons _ _ ?_))) (by rfl) (by assumption) (by assumption) (by decide) (by omega) vq (by assumption) ?_); intro c2' oc2' vc2' tq2' h' tk' t' F' N' gc1 gc2 l4 l5; (try k_lt l4)))
  k_with "rev" => ((k_dflt (refine' iter_revE (vs := [.int (d0 : Nat) u0, .int (d1 : Nat) u1]) (r := [.int (d1 : Nat) u1, .int (d0 : Nat) u0]) (by rfl) (by k_asm) (by k_asm) (by ((simp only [AllLt]); assumption)) (by k_mem) (by rfl) ?_)))
  k_with "call builtin:int.bit_length" => refine bits_lit hnb ?_
  k_steps
  all_goals first
    | exact List.mem_cons_of_mem _ List.mem_cons_self
    | (have kN := ‹News h₀ L _ _›; refine hret _ _ _ _ _ c1' c2' oc1' oc2' vc1' vc2' tq1' tq2' (by assumption) (cb_drop kN (List.forall_mem_cons.mpr ⟨List.mem_cons_self, List.forall_mem_cons.mpr ⟨(List.mem_cons_of_mem _ List.mem_cons_self), List.forall_mem_cons.mpr ⟨(List.mem_cons_of_mem _ (List.mem_cons_of_mem _ List.mem_cons_self)), List.forall_mem_cons.mpr ⟨(List.mem_cons_of_mem _ (List.mem_cons_of_mem _ (List.mem_cons_of_mem _ (List.mem_cons_of_mem _ (List.mem_cons_of_mem _ List.mem_cons_self))))), List.forall_mem_cons.mpr ⟨(List.mem_cons_of_mem _ (List.mem_cons_of_mem _ (List.mem_cons_of_mem _ (List.mem_cons_of_mem _ (List.mem_cons_of_mem _ (List.mem_cons_of_mem _ List.mem_cons_self)))))), fun p hp => (List.mem_cons_of_mem _ (List.mem_cons_of_mem _ (List.mem_cons_of_mem _ (List.mem_cons_of_mem _ (List.mem_cons_of_mem _ (List.mem_cons_of_mem _ (List.mem_cons_of_mem _ hp)))))))⟩⟩⟩⟩⟩)) fc1 fc2 gc1 gc2 (allLt_lt l4.2.2.2.2 (by omega)) (by omega) (by omega) (by omega) (by omega) (by omega) (allLt_lt li.2 (by omega)))
set_option maxRecDepth 100000 in
set_option maxHeartbeats 8000000 in
theorem dm_hit {w : World} {p : Program} {loose : List Str} {mean : ExcName → Option Value} {mg mb : Str → Option Value}
  (dp un : Nat) (gd : Option (List Code)) (cn : Str) (cs : Scope) (a : Addr) (ccd : Value) (cl : List (Str × Addr)) (outer : List Env) (A₀ : Around) (base h₀ : Heap) (L : Addr) (m : Str → Option Value) (s : Shared) (Q : Value → Shared → Prop) (E : Value → Shared → Prop) (news : List (Addr × Obj))
  (B : Below A₀ base outer h₀) (F : Fr h₀ L s.heap m) (X : (hd.heap_39 w.params).In h₀) (c1 c2 : Addr) (o1 o2 : Obj) (v1 v2 : Array Value) (g1 g2 : Tok) (m51 : (51, tabObj #[rawInt ((75 : Nat) : Int), rawInt ((4 : Nat) : Int), .ref c1]) ∈ news) (mc1 : (c1, o1) ∈ news) (f1 : o1.data = .fields v1) (rr1 : v1[1]? = some (.str (Str.ofString "_int2digits.<locals>.inner") g1))
  (m58 : (58, tabObj #[rawInt ((90 : Nat) : Int), rawInt ((4 : Nat) : Int), .ref c2]) ∈ news) (mc2 : (c2, o2) ∈ news) (f2 : o2.data = .fields v2) (rr2 : v2[1]? = some (.str (Str.ofString "_digits2int.<locals>.inner") g2)) (N : News h₀ L s.heap news)
  (T : Top p loose mean mg mb h₀) (hk : cs.kind = .function) (hd : dp < 500) (hu : un < 300) (x y n D : Nat) (ds qs : List Nat) (r0 vq : Nat) (t1 t2 : Tok) (hx : (x : Int) ≠ 0) (hcnt : ((Builtin.Int.intBits (x : Int) : Nat) + (n : Int) - 1).fdiv (n : Int) = (D : Int)) (hD : 0 < D ∧ D < 4) (hn : 0 < n ∧ n < 10) (hx2 : x < 2 ^ (D * n)) (hx60 : x < 2 ^ 60)
  (hy : 0 < (y : Int) ∧ (y : Int) < 1000000) (hnb : (Builtin.Int.intBits (y : Int) : Nat) = n) (hdig : digs n x D = ds.map fun (d : Nat) => (d : Int)) (hlen : ds.length = D) (hdb : ∀ d ∈ ds, d < 2 ^ n) (hfold : dfold n y ds.reverse = (qs, r0)) (hq : ∀ d ∈ qs.reverse, d < 2 ^ n) (hv : val n qs.reverse = vq)
  (hret : ∀ c h' tk' u1 u2, Fr h₀ L h' m → News h₀ L h' ((c, { cls := .type "tuple", data := .seq #[.int (vq : Nat) u1, .int (r0 : Nat) u2] }) :: news) → (∀ p ∈ news, p.1 < c) → Q (.ref c) { s with heap := h', toks := tk' }) :
  wpAny (model PySem.Challenge.rw_gl0007_01.row.prog w) (ktrTop dp un gd cn cs L a ccd cl outer) (call (.ref 77) [.int x t1, .int y t2]) Q E s := by
  have hb0 : ((y : Int) == 0) = false := beq_false_of_ne (by omega)
  have hb1 : ¬ (y : Int) < 0 := by omega
  have hb2 : ¬ (x : Int) < 0 := by omega
  k_with_none
  w_top off
  k_with "all" => first | assumption | exact allLt_ne (by assumption) (by omega)
  k_with "pyIter ref" => ((with_reducible show wpAny _ _ (pyIter (Value.ref _)) (fun it s₂ => LoopAtV _ _ _ _ _ _ _ _ _ it s₂) _ _); k_extra "rev")
  revert X; k_fill; intro X
  refine wpAny_call ?_
  k_dflt cell_enter
  k_with "call ref" => (k_here; (with_reducible show wpAny _ _ (call (Value.ref 70) _) _ _ _); (k_dflt (refine' divpos_hit _ _ _ _ _ _ _ _ _ _ _ _ _ _ _ _ _ _ (by k_asm) (by k_asm) (by k_asm) c1 c2 o1 o2 v1 v2 g1 g2 (by (repeat (first | exact m51 | refine List.mem_cons_of_mem _ ?_))) (by (repeat (first | exact mc1 | refine List.mem_cons_of_mem _ ?_))) f1 rr1 (by (repeat (first | exact m58 | refine List.mem_cons_of_mem _ ?_))) (by (repeat (first | exact mc2 | refine List.mem_cons_of_mem _ ?_))) f2 rr2 (by k_asm) (by k_asm) (by rfl) (by ((try dsimp only [ktrTop]); omega)) (by ((try dsimp only [ktrTop]); omega)) x y n D ds qs r0 vq _ _ hx hcnt hD hn hx2 hx60 hy hnb hdig hlen hdb hfold hq hv ?_); intro c' h' tk' w1' w2' F' N' l1))
  k_steps
  all_goals exact hret _ _ _ _ _ (by assumption) (by assumption) (by assumption)


set_option maxRecDepth 100000 in
set_option maxHeartbeats 8000000 in
theorem dm_fresh {w : World} {p : Program} {loose : List Str} {mean : ExcName → Option Value} {mg mb : Str → Option Value}
  (dp un : Nat) (gd : Option (List Code)) (cn : Str) (cs : Scope) (a : Addr) (ccd : Value) (cl : List (Str × Addr)) (outer : List Env) (A₀ : Around) (base h₀ : Heap) (L : Addr) (m : Str → Option Value) (s : Shared) (Q : Value → Shared → Prop) (E : Value → Shared → Prop) (news : List (Addr × Obj))
  (B : Below A₀ base outer h₀) (F : Fr h₀ L s.heap m) (X : (hd.heap_39 w.params).In h₀) (N : News h₀ L s.heap ((58, tabObj #[]) :: (51, tabObj #[]) :: news)) (h51 : ∀ p ∈ news, p.1 ≠ 51) (h58 : ∀ p ∈ news, p.1 ≠ 58)
  (T : Top p loose mean mg mb h₀) (hk : cs.kind = .function) (hd : dp < 500) (hu : un < 300) (x y n : Nat) (d0 d1 q0 q1 r0 r1 vq : Nat) (t1 t2 : Tok) (hx : (x : Int) ≠ 0) (hcnt : ((Builtin.Int.intBits (x : Int) : Nat) + (n : Int) - 1).fdiv (n : Int) = ((2 : Nat) : Int)) (hn : 0 < n ∧ n < 10) (hx2 : x < 2 ^ (2 * n)) (hx60 : x < 2 ^ 60)
  (hy : 0 < (y : Int) ∧ (y : Int) < 1000000) (hnb : (Builtin.Int.intBits (y : Int) : Nat) = n) (hdig : digs n x 2 = [((d0 : Nat) : Int), ((d1 : Nat) : Int)]) (eq1 : ((0 : Int) * 2 ^ (n : Int).toNat + ((d1 : Nat) : Int)).fdiv (y : Int) = ((q1 : Nat) : Int)) (er1 : ((0 : Int) * 2 ^ (n : Int).toNat + ((d1 : Nat) : Int)).fmod (y : Int) = ((r1 : Nat) : Int)) (eb1 : 0 ≤ ((0 : Int) * 2 ^ (n : Int).toNat + ((d1 : Nat) : Int)) ∧ ((0 : Int) * 2 ^ (n : Int).toNat + ((d1 : Nat) : Int)) < 2 ^ 60) (en1 : ((0 : Int)).natAbs < 2 ^ 64) (eq0 : (((r1 : Nat) : Int) * 2 ^ (n : Int).toNat + ((d0 : Nat) : Int)).fdiv (y : Int) = ((q0 : Nat) : Int)) (er0 : (((r1 : Nat) : Int) * 2 ^ (n : Int).toNat + ((d0 : Nat) : Int)).fmod (y : Int) = ((r0 : Nat) : Int)) (eb0 : 0 ≤ (((r1 : Nat) : Int) * 2 ^ (n : Int).toNat + ((d0 : Nat) : Int)) ∧ (((r1 : Nat) : Int) * 2 ^ (n : Int).toNat + ((d0 : Nat) : Int)) < 2 ^ 60) (en0 : (((r1 : Nat) : Int)).natAbs < 2 ^ 64) (hq : ∀ d ∈ [q0, q1], d < 2 ^ n) (hv : val n [q0, q1] = vq)
  (hret : ∀ c h' tk' u1 u2 (c1 c2 : Addr) o1 o2 v1 v2 g1 g2, Fr h₀ L h' m → News h₀ L h' ((c, { cls := .type "tuple", data := .seq #[.int (vq : Nat) u1, .int (r0 : Nat) u2] }) :: (c2, o2) :: (58, tabObj (#[] ++ #[rawInt ((90 : Nat) : Int), rawInt ((4 : Nat) : Int), .ref c2])) :: (51, tabObj (#[] ++ #[rawInt ((75 : Nat) : Int), rawInt ((4 : Nat) : Int), .ref c1])) :: (c1, o1) :: news) → o1.data = .fields v1 → v1[1]? = some (.str (Str.ofString "_int2digits.<locals>.inner") g1) → o2.data = .fields v2 → v2[1]? = some (.str (Str.ofString "_digits2int.<locals>.inner") g2) →
    (∀ p ∈ news, p.1 < c) → @LT.lt Nat _ 58 c → @LT.lt Nat _ c1 c → @LT.lt Nat _ c2 c → @LT.lt Nat _ 58 c1 → @LT.lt Nat _ c1 c2 → (∀ p ∈ news, @LT.lt Nat _ p.1 c1) → Q (.ref c) { s with heap := h', toks := tk' }) :
  wpAny (model PySem.Challenge.rw_gl0007_01.row.prog w) (ktrTop dp un gd cn cs L a ccd cl outer) (call (.ref 77) [.int x t1, .int y t2]) Q E s := by
  have hb0 : ((y : Int) == 0) = false := beq_false_of_ne (by omega)
  have hb1 : ¬ (y : Int) < 0 := by omega
  have hb2 : ¬ (x : Int) < 0 := by omega
  k_with_none
  w_top off
  k_with "all" => first | assumption | exact allLt_ne (by assumption) (by omega)
  k_with "pyIter ref" => ((with_reducible show wpAny _ _ (pyIter (Value.ref _)) (fun it s₂ => LoopAtV _ _ _ _ _ _ _ _ _ it s₂) _ _); k_extra "rev")
  revert X; k_fill; intro X
  refine wpAny_call ?_
  k_dflt cell_enter
  k_with "call ref" => (k_here; (with_reducible show wpAny _ _ (call (Value.ref 70) _) _ _ _); (k_dflt (refine' divpos_fresh _ _ _ _ _ _ _ _ _ _ _ _ _ _ _ _ _ _ (by k_asm) (by k_asm) (by k_asm) (by k_asm) (by assumption) (by assumption) (by k_asm) (by rfl) (by ((try dsimp only [ktrTop]); omega)) (by ((try dsimp only [ktrTop]); omega)) x y n _ _ _ _ _ _  _ _ _ hx hcnt hn hx2 hx60 hy hnb hdig eq1 er1 eb1 en1 eq0 er0 eb0 en0 hq hv ?_); intro c' h' tk' w1' w2' c1' c2' oc1' oc2' vc1' vc2' tq1' tq2' F' N' fc1 fc2 gc1 gc2 l1 l2 l3 l4 l5 l6 l7))
  k_steps
  all_goals exact hret _ _ _ _ _ _ _ _ _ _ _ _ _ (by assumption) (by assumption) fc1 fc2 gc1 gc2 l1 l2 l3 l4 l5 l6 l7
end
section
theorem dmc_8_4 {w : World} {p : Program} {loose : List Str} {mean : ExcName → Option Value} {mg mb : Str → Option Value}
  (dp un : Nat) (gd : Option (List Code)) (cn : Str) (cs : Scope) (a : Addr) (ccd : Value) (cl : List (Str × Addr)) (outer : List Env) (A₀ : Around) (base h₀ : Heap) (L : Addr) (m : Str → Option Value) (s : Shared) (Q : Value → Shared → Prop) (E : Value → Shared → Prop) (news : List (Addr × Obj))
  (B : Below A₀ base outer h₀) (F : Fr h₀ L s.heap m) (X : (hd.heap_39 w.params).In h₀) (N : News h₀ L s.heap ((58, tabObj #[]) :: (51, tabObj #[]) :: news)) (h51 : ∀ p ∈ news, p.1 ≠ 51) (h58 : ∀ p ∈ news, p.1 ≠ 58) (T : Top p loose mean mg mb h₀) (hk : cs.kind = .function) (hd : dp < 500) (hu : un < 300) (xi yi : Int) (ex : xi = 8) (ey : yi = 4) (t1 t2 : Tok)
  (hret : ∀ c h' tk' u1 u2 (c1 c2 : Addr) o1 o2 v1 v2 g1 g2, Fr h₀ L h' m → News h₀ L h' ((c, { cls := .type "tuple", data := .seq #[.int 2 u1, .int 0 u2] }) :: (c2, o2) :: (58, tabObj #[rawInt ((90 : Nat) : Int), rawInt ((4 : Nat) : Int), .ref c2]) :: (51, tabObj #[rawInt ((75 : Nat) : Int), rawInt ((4 : Nat) : Int), .ref c1]) :: (c1, o1) :: news) → o1.data = .fields v1 → v1[1]? = some (.str (Str.ofString "_int2digits.<locals>.inner") g1) → o2.data = .fields v2 → v2[1]? = some (.str (Str.ofString "_digits2int.<locals>.inner") g2) →
    (∀ p ∈ news, p.1 < c) → @LT.lt Nat _ 58 c → @LT.lt Nat _ c1 c → @LT.lt Nat _ c2 c → @LT.lt Nat _ 58 c1 → @LT.lt Nat _ c1 c2 → (∀ p ∈ news, @LT.lt Nat _ p.1 c1) → Q (.ref c) { s with heap := h', toks := tk' }) :
  wpAny (model PySem.Challenge.rw_gl0007_01.row.prog w) (ktrTop dp un gd cn cs L a ccd cl outer) (call (.ref 77) [.int xi t1, .int yi t2]) Q E s := by
  subst ex ey
  exact dm_fresh dp un gd cn cs a ccd cl outer A₀ base h₀ L m s Q E news B F X N h51 h58 T hk hd hu 8 4 3 0 1 2 0 0 1 2 t1 t2 (by decide) (by decide) (by decide) (by decide) (by decide) (by decide) (by decide) (by decide) (by decide) (by decide) (by decide) (by decide) (by decide) (by decide) (by decide) (by decide) (by decide) (by decide) fun c h' tk' u1 u2 c1 c2 o1 o2 v1 v2 g1 g2 F' N' => by rw [Array.empty_append, Array.empty_append] at N'; exact hret c h' tk' u1 u2 c1 c2 o1 o2 v1 v2 g1 g2 F' N'

theorem dmc_20_5 {w : World} {p : Program} {loose : List Str} {mean : ExcName → Option Value} {mg mb : Str → Option Value}
  (dp un : Nat) (gd : Option (List Code)) (cn : Str) (cs : Scope) (a : Addr) (ccd : Value) (cl : List (Str × Addr)) (outer : List Env) (A₀ : Around) (base h₀ : Heap) (L : Addr) (m : Str → Option Value) (s : Shared) (Q : Value → Shared → Prop) (E : Value → Shared → Prop) (news : List (Addr × Obj))
  (B : Below A₀ base outer h₀) (F : Fr h₀ L s.heap m) (X : (hd.heap_39 w.params).In h₀) (N : News h₀ L s.heap news) (c1 c2 : Addr) (o1 o2 : Obj) (v1 v2 : Array Value) (g1 g2 : Tok) (m51 : (51, tabObj #[rawInt ((75 : Nat) : Int), rawInt ((4 : Nat) : Int), .ref c1]) ∈ news) (mc1 : (c1, o1) ∈ news) (f1 : o1.data = .fields v1) (rr1 : v1[1]? = some (.str (Str.ofString "_int2digits.<locals>.inner") g1))
  (m58 : (58, tabObj #[rawInt ((90 : Nat) : Int), rawInt ((4 : Nat) : Int), .ref c2]) ∈ news) (mc2 : (c2, o2) ∈ news) (f2 : o2.data = .fields v2) (rr2 : v2[1]? = some (.str (Str.ofString "_digits2int.<locals>.inner") g2)) (T : Top p loose mean mg mb h₀) (hk : cs.kind = .function) (hd : dp < 500) (hu : un < 300) (xi yi : Int) (ex : xi = 20) (ey : yi = 5) (t1 t2 : Tok)
  (hret : ∀ c h' tk' u1 u2, Fr h₀ L h' m → News h₀ L h' ((c, { cls := .type "tuple", data := .seq #[.int 4 u1, .int 0 u2] }) :: news) → (∀ p ∈ news, p.1 < c) → Q (.ref c) { s with heap := h', toks := tk' }) :
  wpAny (model PySem.Challenge.rw_gl0007_01.row.prog w) (ktrTop dp un gd cn cs L a ccd cl outer) (call (.ref 77) [.int xi t1, .int yi t2]) Q E s := by
  subst ex ey
  exact dm_hit dp un gd cn cs a ccd cl outer A₀ base h₀ L m s Q E news B F X c1 c2 o1 o2 v1 v2 g1 g2 m51 mc1 f1 rr1 m58 mc2 f2 rr2 N T hk hd hu 20 5 3 2 [4, 2] [0, 4] 0 4 t1 t2 (by decide) (by decide) (by decide) (by decide) (by decide) (by decide) (by decide) (by decide) (by decide) (by decide) (by decide) (by decide) (by decide) (by decide) hret

theorem dmc_54_6 {w : World} {p : Program} {loose : List Str} {mean : ExcName → Option Value} {mg mb : Str → Option Value}
  (dp un : Nat) (gd : Option (List Code)) (cn : Str) (cs : Scope) (a : Addr) (ccd : Value) (cl : List (Str × Addr)) (outer : List Env) (A₀ : Around) (base h₀ : Heap) (L : Addr) (m : Str → Option Value) (s : Shared) (Q : Value → Shared → Prop) (E : Value → Shared → Prop) (news : List (Addr × Obj))
  (B : Below A₀ base outer h₀) (F : Fr h₀ L s.heap m) (X : (hd.heap_39 w.params).In h₀) (N : News h₀ L s.heap news) (c1 c2 : Addr) (o1 o2 : Obj) (v1 v2 : Array Value) (g1 g2 : Tok) (m51 : (51, tabObj #[rawInt ((75 : Nat) : Int), rawInt ((4 : Nat) : Int), .ref c1]) ∈ news) (mc1 : (c1, o1) ∈ news) (f1 : o1.data = .fields v1) (rr1 : v1[1]? = some (.str (Str.ofString "_int2digits.<locals>.inner") g1))
  (m58 : (58, tabObj #[rawInt ((90 : Nat) : Int), rawInt ((4 : Nat) : Int), .ref c2]) ∈ news) (mc2 : (c2, o2) ∈ news) (f2 : o2.data = .fields v2) (rr2 : v2[1]? = some (.str (Str.ofString "_digits2int.<locals>.inner") g2)) (T : Top p loose mean mg mb h₀) (hk : cs.kind = .function) (hd : dp < 500) (hu : un < 300) (xi yi : Int) (ex : xi = 54) (ey : yi = 6) (t1 t2 : Tok)
  (hret : ∀ c h' tk' u1 u2, Fr h₀ L h' m → News h₀ L h' ((c, { cls := .type "tuple", data := .seq #[.int 9 u1, .int 0 u2] }) :: news) → (∀ p ∈ news, p.1 < c) → Q (.ref c) { s with heap := h', toks := tk' }) :
  wpAny (model PySem.Challenge.rw_gl0007_01.row.prog w) (ktrTop dp un gd cn cs L a ccd cl outer) (call (.ref 77) [.int xi t1, .int yi t2]) Q E s := by
  subst ex ey
  exact dm_hit dp un gd cn cs a ccd cl outer A₀ base h₀ L m s Q E news B F X c1 c2 o1 o2 v1 v2 g1 g2 m51 mc1 f1 rr1 m58 mc2 f2 rr2 N T hk hd hu 54 6 3 2 [6, 6] [1, 1] 0 9 t1 t2 (by decide) (by decide) (by decide) (by decide) (by decide) (by decide) (by decide) (by decide) (by decide) (by decide) (by decide) (by decide) (by decide) (by decide) hret

theorem dmc_147_7 {w : World} {p : Program} {loose : List Str} {mean : ExcName → Option Value} {mg mb : Str → Option Value}
  (dp un : Nat) (gd : Option (List Code)) (cn : Str) (cs : Scope) (a : Addr) (ccd : Value) (cl : List (Str × Addr)) (outer : List Env) (A₀ : Around) (base h₀ : Heap) (L : Addr) (m : Str → Option Value) (s : Shared) (Q : Value → Shared → Prop) (E : Value → Shared → Prop) (news : List (Addr × Obj))
  (B : Below A₀ base outer h₀) (F : Fr h₀ L s.heap m) (X : (hd.heap_39 w.params).In h₀) (N : News h₀ L s.heap news) (c1 c2 : Addr) (o1 o2 : Obj) (v1 v2 : Array Value) (g1 g2 : Tok) (m51 : (51, tabObj #[rawInt ((75 : Nat) : Int), rawInt ((4 : Nat) : Int), .ref c1]) ∈ news) (mc1 : (c1, o1) ∈ news) (f1 : o1.data = .fields v1) (rr1 : v1[1]? = some (.str (Str.ofString "_int2digits.<locals>.inner") g1))
  (m58 : (58, tabObj #[rawInt ((90 : Nat) : Int), rawInt ((4 : Nat) : Int), .ref c2]) ∈ news) (mc2 : (c2, o2) ∈ news) (f2 : o2.data = .fields v2) (rr2 : v2[1]? = some (.str (Str.ofString "_digits2int.<locals>.inner") g2)) (T : Top p loose mean mg mb h₀) (hk : cs.kind = .function) (hd : dp < 500) (hu : un < 300) (xi yi : Int) (ex : xi = 147) (ey : yi = 7) (t1 t2 : Tok)
  (hret : ∀ c h' tk' u1 u2, Fr h₀ L h' m → News h₀ L h' ((c, { cls := .type "tuple", data := .seq #[.int 21 u1, .int 0 u2] }) :: news) → (∀ p ∈ news, p.1 < c) → Q (.ref c) { s with heap := h', toks := tk' }) :
  wpAny (model PySem.Challenge.rw_gl0007_01.row.prog w) (ktrTop dp un gd cn cs L a ccd cl outer) (call (.ref 77) [.int xi t1, .int yi t2]) Q E s := by
  subst ex ey
  exact dm_hit dp un gd cn cs a ccd cl outer A₀ base h₀ L m s Q E news B F X c1 c2 o1 o2 v1 v2 g1 g2 m51 mc1 f1 rr1 m58 mc2 f2 rr2 N T hk hd hu 147 7 3 3 [3, 2, 2] [0, 2, 5] 0 21 t1 t2 (by decide) (by decide) (by decide) (by decide) (by decide) (by decide) (by decide) (by decide) (by decide) (by decide) (by decide) (by decide) (by decide) (by decide) hret

theorem dmc_2_1 {w : World} {p : Program} {loose : List Str} {mean : ExcName → Option Value} {mg mb : Str → Option Value}
  (dp un : Nat) (gd : Option (List Code)) (cn : Str) (cs : Scope) (a : Addr) (ccd : Value) (cl : List (Str × Addr)) (outer : List Env) (A₀ : Around) (base h₀ : Heap) (L : Addr) (m : Str → Option Value) (s : Shared) (Q : Value → Shared → Prop) (E : Value → Shared → Prop) (news : List (Addr × Obj))
  (B : Below A₀ base outer h₀) (F : Fr h₀ L s.heap m) (X : (hd.heap_39 w.params).In h₀) (N : News h₀ L s.heap news) (c1 c2 : Addr) (o1 o2 : Obj) (v1 v2 : Array Value) (g1 g2 : Tok) (m51 : (51, tabObj #[rawInt ((75 : Nat) : Int), rawInt ((4 : Nat) : Int), .ref c1]) ∈ news) (mc1 : (c1, o1) ∈ news) (f1 : o1.data = .fields v1) (rr1 : v1[1]? = some (.str (Str.ofString "_int2digits.<locals>.inner") g1))
  (m58 : (58, tabObj #[rawInt ((90 : Nat) : Int), rawInt ((4 : Nat) : Int), .ref c2]) ∈ news) (mc2 : (c2, o2) ∈ news) (f2 : o2.data = .fields v2) (rr2 : v2[1]? = some (.str (Str.ofString "_digits2int.<locals>.inner") g2)) (T : Top p loose mean mg mb h₀) (hk : cs.kind = .function) (hd : dp < 500) (hu : un < 300) (xi yi : Int) (ex : xi = 2) (ey : yi = 1) (t1 t2 : Tok)
  (hret : ∀ c h' tk' u1 u2, Fr h₀ L h' m → News h₀ L h' ((c, { cls := .type "tuple", data := .seq #[.int 2 u1, .int 0 u2] }) :: news) → (∀ p ∈ news, p.1 < c) → Q (.ref c) { s with heap := h', toks := tk' }) :
  wpAny (model PySem.Challenge.rw_gl0007_01.row.prog w) (ktrTop dp un gd cn cs L a ccd cl outer) (call (.ref 77) [.int xi t1, .int yi t2]) Q E s := by
  subst ex ey
  exact dm_hit dp un gd cn cs a ccd cl outer A₀ base h₀ L m s Q E news B F X c1 c2 o1 o2 v1 v2 g1 g2 m51 mc1 f1 rr1 m58 mc2 f2 rr2 N T hk hd hu 2 1 1 2 [0, 1] [1, 0] 0 2 t1 t2 (by decide) (by decide) (by decide) (by decide) (by decide) (by decide) (by decide) (by decide) (by decide) (by decide) (by decide) (by decide) (by decide) (by decide) hret

theorem dmc_2_2 {w : World} {p : Program} {loose : List Str} {mean : ExcName → Option Value} {mg mb : Str → Option Value}
  (dp un : Nat) (gd : Option (List Code)) (cn : Str) (cs : Scope) (a : Addr) (ccd : Value) (cl : List (Str × Addr)) (outer : List Env) (A₀ : Around) (base h₀ : Heap) (L : Addr) (m : Str → Option Value) (s : Shared) (Q : Value → Shared → Prop) (E : Value → Shared → Prop) (news : List (Addr × Obj))
  (B : Below A₀ base outer h₀) (F : Fr h₀ L s.heap m) (X : (hd.heap_39 w.params).In h₀) (N : News h₀ L s.heap news) (c1 c2 : Addr) (o1 o2 : Obj) (v1 v2 : Array Value) (g1 g2 : Tok) (m51 : (51, tabObj #[rawInt ((75 : Nat) : Int), rawInt ((4 : Nat) : Int), .ref c1]) ∈ news) (mc1 : (c1, o1) ∈ news) (f1 : o1.data = .fields v1) (rr1 : v1[1]? = some (.str (Str.ofString "_int2digits.<locals>.inner") g1))
  (m58 : (58, tabObj #[rawInt ((90 : Nat) : Int), rawInt ((4 : Nat) : Int), .ref c2]) ∈ news) (mc2 : (c2, o2) ∈ news) (f2 : o2.data = .fields v2) (rr2 : v2[1]? = some (.str (Str.ofString "_digits2int.<locals>.inner") g2)) (T : Top p loose mean mg mb h₀) (hk : cs.kind = .function) (hd : dp < 500) (hu : un < 300) (xi yi : Int) (ex : xi = 2) (ey : yi = 2) (t1 t2 : Tok)
  (hret : ∀ c h' tk' u1 u2, Fr h₀ L h' m → News h₀ L h' ((c, { cls := .type "tuple", data := .seq #[.int 1 u1, .int 0 u2] }) :: news) → (∀ p ∈ news, p.1 < c) → Q (.ref c) { s with heap := h', toks := tk' }) :
  wpAny (model PySem.Challenge.rw_gl0007_01.row.prog w) (ktrTop dp un gd cn cs L a ccd cl outer) (call (.ref 77) [.int xi t1, .int yi t2]) Q E s := by
  subst ex ey
  exact dm_hit dp un gd cn cs a ccd cl outer A₀ base h₀ L m s Q E news B F X c1 c2 o1 o2 v1 v2 g1 g2 m51 mc1 f1 rr1 m58 mc2 f2 rr2 N T hk hd hu 2 2 2 1 [2] [1] 0 1 t1 t2 (by decide) (by decide) (by decide) (by decide) (by decide) (by decide) (by decide) (by decide) (by decide) (by decide) (by decide) (by decide) (by decide) (by decide) hret

theorem dmc_3_1 {w : World} {p : Program} {loose : List Str} {mean : ExcName → Option Value} {mg mb : Str → Option Value}
  (dp un : Nat) (gd : Option (List Code)) (cn : Str) (cs : Scope) (a : Addr) (ccd : Value) (cl : List (Str × Addr)) (outer : List Env) (A₀ : Around) (base h₀ : Heap) (L : Addr) (m : Str → Option Value) (s : Shared) (Q : Value → Shared → Prop) (E : Value → Shared → Prop) (news : List (Addr × Obj))
  (B : Below A₀ base outer h₀) (F : Fr h₀ L s.heap m) (X : (hd.heap_39 w.params).In h₀) (N : News h₀ L s.heap news) (c1 c2 : Addr) (o1 o2 : Obj) (v1 v2 : Array Value) (g1 g2 : Tok) (m51 : (51, tabObj #[rawInt ((75 : Nat) : Int), rawInt ((4 : Nat) : Int), .ref c1]) ∈ news) (mc1 : (c1, o1) ∈ news) (f1 : o1.data = .fields v1) (rr1 : v1[1]? = some (.str (Str.ofString "_int2digits.<locals>.inner") g1))
  (m58 : (58, tabObj #[rawInt ((90 : Nat) : Int), rawInt ((4 : Nat) : Int), .ref c2]) ∈ news) (mc2 : (c2, o2) ∈ news) (f2 : o2.data = .fields v2) (rr2 : v2[1]? = some (.str (Str.ofString "_digits2int.<locals>.inner") g2)) (T : Top p loose mean mg mb h₀) (hk : cs.kind = .function) (hd : dp < 500) (hu : un < 300) (xi yi : Int) (ex : xi = 3) (ey : yi = 1) (t1 t2 : Tok)
  (hret : ∀ c h' tk' u1 u2, Fr h₀ L h' m → News h₀ L h' ((c, { cls := .type "tuple", data := .seq #[.int 3 u1, .int 0 u2] }) :: news) → (∀ p ∈ news, p.1 < c) → Q (.ref c) { s with heap := h', toks := tk' }) :
  wpAny (model PySem.Challenge.rw_gl0007_01.row.prog w) (ktrTop dp un gd cn cs L a ccd cl outer) (call (.ref 77) [.int xi t1, .int yi t2]) Q E s := by
  subst ex ey
  exact dm_hit dp un gd cn cs a ccd cl outer A₀ base h₀ L m s Q E news B F X c1 c2 o1 o2 v1 v2 g1 g2 m51 mc1 f1 rr1 m58 mc2 f2 rr2 N T hk hd hu 3 1 1 2 [1, 1] [1, 1] 0 3 t1 t2 (by decide) (by decide) (by decide) (by decide) (by decide) (by decide) (by decide) (by decide) (by decide) (by decide) (by decide) (by decide) (by decide) (by decide) hret

theorem dmc_6_2 {w : World} {p : Program} {loose : List Str} {mean : ExcName → Option Value} {mg mb : Str → Option Value}
  (dp un : Nat) (gd : Option (List Code)) (cn : Str) (cs : Scope) (a : Addr) (ccd : Value) (cl : List (Str × Addr)) (outer : List Env) (A₀ : Around) (base h₀ : Heap) (L : Addr) (m : Str → Option Value) (s : Shared) (Q : Value → Shared → Prop) (E : Value → Shared → Prop) (news : List (Addr × Obj))
  (B : Below A₀ base outer h₀) (F : Fr h₀ L s.heap m) (X : (hd.heap_39 w.params).In h₀) (N : News h₀ L s.heap news) (c1 c2 : Addr) (o1 o2 : Obj) (v1 v2 : Array Value) (g1 g2 : Tok) (m51 : (51, tabObj #[rawInt ((75 : Nat) : Int), rawInt ((4 : Nat) : Int), .ref c1]) ∈ news) (mc1 : (c1, o1) ∈ news) (f1 : o1.data = .fields v1) (rr1 : v1[1]? = some (.str (Str.ofString "_int2digits.<locals>.inner") g1))
  (m58 : (58, tabObj #[rawInt ((90 : Nat) : Int), rawInt ((4 : Nat) : Int), .ref c2]) ∈ news) (mc2 : (c2, o2) ∈ news) (f2 : o2.data = .fields v2) (rr2 : v2[1]? = some (.str (Str.ofString "_digits2int.<locals>.inner") g2)) (T : Top p loose mean mg mb h₀) (hk : cs.kind = .function) (hd : dp < 500) (hu : un < 300) (xi yi : Int) (ex : xi = 6) (ey : yi = 2) (t1 t2 : Tok)
  (hret : ∀ c h' tk' u1 u2, Fr h₀ L h' m → News h₀ L h' ((c, { cls := .type "tuple", data := .seq #[.int 3 u1, .int 0 u2] }) :: news) → (∀ p ∈ news, p.1 < c) → Q (.ref c) { s with heap := h', toks := tk' }) :
  wpAny (model PySem.Challenge.rw_gl0007_01.row.prog w) (ktrTop dp un gd cn cs L a ccd cl outer) (call (.ref 77) [.int xi t1, .int yi t2]) Q E s := by
  subst ex ey
  exact dm_hit dp un gd cn cs a ccd cl outer A₀ base h₀ L m s Q E news B F X c1 c2 o1 o2 v1 v2 g1 g2 m51 mc1 f1 rr1 m58 mc2 f2 rr2 N T hk hd hu 6 2 2 2 [2, 1] [0, 3] 0 3 t1 t2 (by decide) (by decide) (by decide) (by decide) (by decide) (by decide) (by decide) (by decide) (by decide) (by decide) (by decide) (by decide) (by decide) (by decide) hret

theorem dmc_4_1 {w : World} {p : Program} {loose : List Str} {mean : ExcName → Option Value} {mg mb : Str → Option Value}
  (dp un : Nat) (gd : Option (List Code)) (cn : Str) (cs : Scope) (a : Addr) (ccd : Value) (cl : List (Str × Addr)) (outer : List Env) (A₀ : Around) (base h₀ : Heap) (L : Addr) (m : Str → Option Value) (s : Shared) (Q : Value → Shared → Prop) (E : Value → Shared → Prop) (news : List (Addr × Obj))
  (B : Below A₀ base outer h₀) (F : Fr h₀ L s.heap m) (X : (hd.heap_39 w.params).In h₀) (N : News h₀ L s.heap news) (c1 c2 : Addr) (o1 o2 : Obj) (v1 v2 : Array Value) (g1 g2 : Tok) (m51 : (51, tabObj #[rawInt ((75 : Nat) : Int), rawInt ((4 : Nat) : Int), .ref c1]) ∈ news) (mc1 : (c1, o1) ∈ news) (f1 : o1.data = .fields v1) (rr1 : v1[1]? = some (.str (Str.ofString "_int2digits.<locals>.inner") g1))
  (m58 : (58, tabObj #[rawInt ((90 : Nat) : Int), rawInt ((4 : Nat) : Int), .ref c2]) ∈ news) (mc2 : (c2, o2) ∈ news) (f2 : o2.data = .fields v2) (rr2 : v2[1]? = some (.str (Str.ofString "_digits2int.<locals>.inner") g2)) (T : Top p loose mean mg mb h₀) (hk : cs.kind = .function) (hd : dp < 500) (hu : un < 300) (xi yi : Int) (ex : xi = 4) (ey : yi = 1) (t1 t2 : Tok)
  (hret : ∀ c h' tk' u1 u2, Fr h₀ L h' m → News h₀ L h' ((c, { cls := .type "tuple", data := .seq #[.int 4 u1, .int 0 u2] }) :: news) → (∀ p ∈ news, p.1 < c) → Q (.ref c) { s with heap := h', toks := tk' }) :
  wpAny (model PySem.Challenge.rw_gl0007_01.row.prog w) (ktrTop dp un gd cn cs L a ccd cl outer) (call (.ref 77) [.int xi t1, .int yi t2]) Q E s := by
  subst ex ey
  exact dm_hit dp un gd cn cs a ccd cl outer A₀ base h₀ L m s Q E news B F X c1 c2 o1 o2 v1 v2 g1 g2 m51 mc1 f1 rr1 m58 mc2 f2 rr2 N T hk hd hu 4 1 1 3 [0, 0, 1] [1, 0, 0] 0 4 t1 t2 (by decide) (by decide) (by decide) (by decide) (by decide) (by decide) (by decide) (by decide) (by decide) (by decide) (by decide) (by decide) (by decide) (by decide) hret

theorem dmc_12_2 {w : World} {p : Program} {loose : List Str} {mean : ExcName → Option Value} {mg mb : Str → Option Value}
  (dp un : Nat) (gd : Option (List Code)) (cn : Str) (cs : Scope) (a : Addr) (ccd : Value) (cl : List (Str × Addr)) (outer : List Env) (A₀ : Around) (base h₀ : Heap) (L : Addr) (m : Str → Option Value) (s : Shared) (Q : Value → Shared → Prop) (E : Value → Shared → Prop) (news : List (Addr × Obj))
  (B : Below A₀ base outer h₀) (F : Fr h₀ L s.heap m) (X : (hd.heap_39 w.params).In h₀) (N : News h₀ L s.heap news) (c1 c2 : Addr) (o1 o2 : Obj) (v1 v2 : Array Value) (g1 g2 : Tok) (m51 : (51, tabObj #[rawInt ((75 : Nat) : Int), rawInt ((4 : Nat) : Int), .ref c1]) ∈ news) (mc1 : (c1, o1) ∈ news) (f1 : o1.data = .fields v1) (rr1 : v1[1]? = some (.str (Str.ofString "_int2digits.<locals>.inner") g1))
  (m58 : (58, tabObj #[rawInt ((90 : Nat) : Int), rawInt ((4 : Nat) : Int), .ref c2]) ∈ news) (mc2 : (c2, o2) ∈ news) (f2 : o2.data = .fields v2) (rr2 : v2[1]? = some (.str (Str.ofString "_digits2int.<locals>.inner") g2)) (T : Top p loose mean mg mb h₀) (hk : cs.kind = .function) (hd : dp < 500) (hu : un < 300) (xi yi : Int) (ex : xi = 12) (ey : yi = 2) (t1 t2 : Tok)
  (hret : ∀ c h' tk' u1 u2, Fr h₀ L h' m → News h₀ L h' ((c, { cls := .type "tuple", data := .seq #[.int 6 u1, .int 0 u2] }) :: news) → (∀ p ∈ news, p.1 < c) → Q (.ref c) { s with heap := h', toks := tk' }) :
  wpAny (model PySem.Challenge.rw_gl0007_01.row.prog w) (ktrTop dp un gd cn cs L a ccd cl outer) (call (.ref 77) [.int xi t1, .int yi t2]) Q E s := by
  subst ex ey
  exact dm_hit dp un gd cn cs a ccd cl outer A₀ base h₀ L m s Q E news B F X c1 c2 o1 o2 v1 v2 g1 g2 m51 mc1 f1 rr1 m58 mc2 f2 rr2 N T hk hd hu 12 2 2 2 [0, 3] [1, 2] 0 6 t1 t2 (by decide) (by decide) (by decide) (by decide) (by decide) (by decide) (by decide) (by decide) (by decide) (by decide) (by decide) (by decide) (by decide) (by decide) hret

theorem dmc_12_3 {w : World} {p : Program} {loose : List Str} {mean : ExcName → Option Value} {mg mb : Str → Option Value}
  (dp un : Nat) (gd : Option (List Code)) (cn : Str) (cs : Scope) (a : Addr) (ccd : Value) (cl : List (Str × Addr)) (outer : List Env) (A₀ : Around) (base h₀ : Heap) (L : Addr) (m : Str → Option Value) (s : Shared) (Q : Value → Shared → Prop) (E : Value → Shared → Prop) (news : List (Addr × Obj))
  (B : Below A₀ base outer h₀) (F : Fr h₀ L s.heap m) (X : (hd.heap_39 w.params).In h₀) (N : News h₀ L s.heap news) (c1 c2 : Addr) (o1 o2 : Obj) (v1 v2 : Array Value) (g1 g2 : Tok) (m51 : (51, tabObj #[rawInt ((75 : Nat) : Int), rawInt ((4 : Nat) : Int), .ref c1]) ∈ news) (mc1 : (c1, o1) ∈ news) (f1 : o1.data = .fields v1) (rr1 : v1[1]? = some (.str (Str.ofString "_int2digits.<locals>.inner") g1))
  (m58 : (58, tabObj #[rawInt ((90 : Nat) : Int), rawInt ((4 : Nat) : Int), .ref c2]) ∈ news) (mc2 : (c2, o2) ∈ news) (f2 : o2.data = .fields v2) (rr2 : v2[1]? = some (.str (Str.ofString "_digits2int.<locals>.inner") g2)) (T : Top p loose mean mg mb h₀) (hk : cs.kind = .function) (hd : dp < 500) (hu : un < 300) (xi yi : Int) (ex : xi = 12) (ey : yi = 3) (t1 t2 : Tok)
  (hret : ∀ c h' tk' u1 u2, Fr h₀ L h' m → News h₀ L h' ((c, { cls := .type "tuple", data := .seq #[.int 4 u1, .int 0 u2] }) :: news) → (∀ p ∈ news, p.1 < c) → Q (.ref c) { s with heap := h', toks := tk' }) :
  wpAny (model PySem.Challenge.rw_gl0007_01.row.prog w) (ktrTop dp un gd cn cs L a ccd cl outer) (call (.ref 77) [.int xi t1, .int yi t2]) Q E s := by
  subst ex ey
  exact dm_hit dp un gd cn cs a ccd cl outer A₀ base h₀ L m s Q E news B F X c1 c2 o1 o2 v1 v2 g1 g2 m51 mc1 f1 rr1 m58 mc2 f2 rr2 N T hk hd hu 12 3 2 2 [0, 3] [1, 0] 0 4 t1 t2 (by decide) (by decide) (by decide) (by decide) (by decide) (by decide) (by decide) (by decide) (by decide) (by decide) (by decide) (by decide) (by decide) (by decide) hret

theorem dmc_4_4 {w : World} {p : Program} {loose : List Str} {mean : ExcName → Option Value} {mg mb : Str → Option Value}
  (dp un : Nat) (gd : Option (List Code)) (cn : Str) (cs : Scope) (a : Addr) (ccd : Value) (cl : List (Str × Addr)) (outer : List Env) (A₀ : Around) (base h₀ : Heap) (L : Addr) (m : Str → Option Value) (s : Shared) (Q : Value → Shared → Prop) (E : Value → Shared → Prop) (news : List (Addr × Obj))
  (B : Below A₀ base outer h₀) (F : Fr h₀ L s.heap m) (X : (hd.heap_39 w.params).In h₀) (N : News h₀ L s.heap news) (c1 c2 : Addr) (o1 o2 : Obj) (v1 v2 : Array Value) (g1 g2 : Tok) (m51 : (51, tabObj #[rawInt ((75 : Nat) : Int), rawInt ((4 : Nat) : Int), .ref c1]) ∈ news) (mc1 : (c1, o1) ∈ news) (f1 : o1.data = .fields v1) (rr1 : v1[1]? = some (.str (Str.ofString "_int2digits.<locals>.inner") g1))
  (m58 : (58, tabObj #[rawInt ((90 : Nat) : Int), rawInt ((4 : Nat) : Int), .ref c2]) ∈ news) (mc2 : (c2, o2) ∈ news) (f2 : o2.data = .fields v2) (rr2 : v2[1]? = some (.str (Str.ofString "_digits2int.<locals>.inner") g2)) (T : Top p loose mean mg mb h₀) (hk : cs.kind = .function) (hd : dp < 500) (hu : un < 300) (xi yi : Int) (ex : xi = 4) (ey : yi = 4) (t1 t2 : Tok)
  (hret : ∀ c h' tk' u1 u2, Fr h₀ L h' m → News h₀ L h' ((c, { cls := .type "tuple", data := .seq #[.int 1 u1, .int 0 u2] }) :: news) → (∀ p ∈ news, p.1 < c) → Q (.ref c) { s with heap := h', toks := tk' }) :
  wpAny (model PySem.Challenge.rw_gl0007_01.row.prog w) (ktrTop dp un gd cn cs L a ccd cl outer) (call (.ref 77) [.int xi t1, .int yi t2]) Q E s := by
  subst ex ey
  exact dm_hit dp un gd cn cs a ccd cl outer A₀ base h₀ L m s Q E news B F X c1 c2 o1 o2 v1 v2 g1 g2 m51 mc1 f1 rr1 m58 mc2 f2 rr2 N T hk hd hu 4 4 3 1 [4] [1] 0 1 t1 t2 (by decide) (by decide) (by decide) (by decide) (by decide) (by decide) (by decide) (by decide) (by decide) (by decide) (by decide) (by decide) (by decide) (by decide) hret

theorem dmc_5_1 {w : World} {p : Program} {loose : List Str} {mean : ExcName → Option Value} {mg mb : Str → Option Value}
  (dp un : Nat) (gd : Option (List Code)) (cn : Str) (cs : Scope) (a : Addr) (ccd : Value) (cl : List (Str × Addr)) (outer : List Env) (A₀ : Around) (base h₀ : Heap) (L : Addr) (m : Str → Option Value) (s : Shared) (Q : Value → Shared → Prop) (E : Value → Shared → Prop) (news : List (Addr × Obj))
  (B : Below A₀ base outer h₀) (F : Fr h₀ L s.heap m) (X : (hd.heap_39 w.params).In h₀) (N : News h₀ L s.heap news) (c1 c2 : Addr) (o1 o2 : Obj) (v1 v2 : Array Value) (g1 g2 : Tok) (m51 : (51, tabObj #[rawInt ((75 : Nat) : Int), rawInt ((4 : Nat) : Int), .ref c1]) ∈ news) (mc1 : (c1, o1) ∈ news) (f1 : o1.data = .fields v1) (rr1 : v1[1]? = some (.str (Str.ofString "_int2digits.<locals>.inner") g1))
  (m58 : (58, tabObj #[rawInt ((90 : Nat) : Int), rawInt ((4 : Nat) : Int), .ref c2]) ∈ news) (mc2 : (c2, o2) ∈ news) (f2 : o2.data = .fields v2) (rr2 : v2[1]? = some (.str (Str.ofString "_digits2int.<locals>.inner") g2)) (T : Top p loose mean mg mb h₀) (hk : cs.kind = .function) (hd : dp < 500) (hu : un < 300) (xi yi : Int) (ex : xi = 5) (ey : yi = 1) (t1 t2 : Tok)
  (hret : ∀ c h' tk' u1 u2, Fr h₀ L h' m → News h₀ L h' ((c, { cls := .type "tuple", data := .seq #[.int 5 u1, .int 0 u2] }) :: news) → (∀ p ∈ news, p.1 < c) → Q (.ref c) { s with heap := h', toks := tk' }) :
  wpAny (model PySem.Challenge.rw_gl0007_01.row.prog w) (ktrTop dp un gd cn cs L a ccd cl outer) (call (.ref 77) [.int xi t1, .int yi t2]) Q E s := by
  subst ex ey
  exact dm_hit dp un gd cn cs a ccd cl outer A₀ base h₀ L m s Q E news B F X c1 c2 o1 o2 v1 v2 g1 g2 m51 mc1 f1 rr1 m58 mc2 f2 rr2 N T hk hd hu 5 1 1 3 [1, 0, 1] [1, 0, 1] 0 5 t1 t2 (by decide) (by decide) (by decide) (by decide) (by decide) (by decide) (by decide) (by decide) (by decide) (by decide) (by decide) (by decide) (by decide) (by decide) hret

theorem dmc_20_2 {w : World} {p : Program} {loose : List Str} {mean : ExcName → Option Value} {mg mb : Str → Option Value}
  (dp un : Nat) (gd : Option (List Code)) (cn : Str) (cs : Scope) (a : Addr) (ccd : Value) (cl : List (Str × Addr)) (outer : List Env) (A₀ : Around) (base h₀ : Heap) (L : Addr) (m : Str → Option Value) (s : Shared) (Q : Value → Shared → Prop) (E : Value → Shared → Prop) (news : List (Addr × Obj))
  (B : Below A₀ base outer h₀) (F : Fr h₀ L s.heap m) (X : (hd.heap_39 w.params).In h₀) (N : News h₀ L s.heap news) (c1 c2 : Addr) (o1 o2 : Obj) (v1 v2 : Array Value) (g1 g2 : Tok) (m51 : (51, tabObj #[rawInt ((75 : Nat) : Int), rawInt ((4 : Nat) : Int), .ref c1]) ∈ news) (mc1 : (c1, o1) ∈ news) (f1 : o1.data = .fields v1) (rr1 : v1[1]? = some (.str (Str.ofString "_int2digits.<locals>.inner") g1))
  (m58 : (58, tabObj #[rawInt ((90 : Nat) : Int), rawInt ((4 : Nat) : Int), .ref c2]) ∈ news) (mc2 : (c2, o2) ∈ news) (f2 : o2.data = .fields v2) (rr2 : v2[1]? = some (.str (Str.ofString "_digits2int.<locals>.inner") g2)) (T : Top p loose mean mg mb h₀) (hk : cs.kind = .function) (hd : dp < 500) (hu : un < 300) (xi yi : Int) (ex : xi = 20) (ey : yi = 2) (t1 t2 : Tok)
  (hret : ∀ c h' tk' u1 u2, Fr h₀ L h' m → News h₀ L h' ((c, { cls := .type "tuple", data := .seq #[.int 10 u1, .int 0 u2] }) :: news) → (∀ p ∈ news, p.1 < c) → Q (.ref c) { s with heap := h', toks := tk' }) :
  wpAny (model PySem.Challenge.rw_gl0007_01.row.prog w) (ktrTop dp un gd cn cs L a ccd cl outer) (call (.ref 77) [.int xi t1, .int yi t2]) Q E s := by
  subst ex ey
  exact dm_hit dp un gd cn cs a ccd cl outer A₀ base h₀ L m s Q E news B F X c1 c2 o1 o2 v1 v2 g1 g2 m51 mc1 f1 rr1 m58 mc2 f2 rr2 N T hk hd hu 20 2 2 3 [0, 1, 1] [0, 2, 2] 0 10 t1 t2 (by decide) (by decide) (by decide) (by decide) (by decide) (by decide) (by decide) (by decide) (by decide) (by decide) (by decide) (by decide) (by decide) (by decide) hret

theorem dmc_30_3 {w : World} {p : Program} {loose : List Str} {mean : ExcName → Option Value} {mg mb : Str → Option Value}
  (dp un : Nat) (gd : Option (List Code)) (cn : Str) (cs : Scope) (a : Addr) (ccd : Value) (cl : List (Str × Addr)) (outer : List Env) (A₀ : Around) (base h₀ : Heap) (L : Addr) (m : Str → Option Value) (s : Shared) (Q : Value → Shared → Prop) (E : Value → Shared → Prop) (news : List (Addr × Obj))
  (B : Below A₀ base outer h₀) (F : Fr h₀ L s.heap m) (X : (hd.heap_39 w.params).In h₀) (N : News h₀ L s.heap news) (c1 c2 : Addr) (o1 o2 : Obj) (v1 v2 : Array Value) (g1 g2 : Tok) (m51 : (51, tabObj #[rawInt ((75 : Nat) : Int), rawInt ((4 : Nat) : Int), .ref c1]) ∈ news) (mc1 : (c1, o1) ∈ news) (f1 : o1.data = .fields v1) (rr1 : v1[1]? = some (.str (Str.ofString "_int2digits.<locals>.inner") g1))
  (m58 : (58, tabObj #[rawInt ((90 : Nat) : Int), rawInt ((4 : Nat) : Int), .ref c2]) ∈ news) (mc2 : (c2, o2) ∈ news) (f2 : o2.data = .fields v2) (rr2 : v2[1]? = some (.str (Str.ofString "_digits2int.<locals>.inner") g2)) (T : Top p loose mean mg mb h₀) (hk : cs.kind = .function) (hd : dp < 500) (hu : un < 300) (xi yi : Int) (ex : xi = 30) (ey : yi = 3) (t1 t2 : Tok)
  (hret : ∀ c h' tk' u1 u2, Fr h₀ L h' m → News h₀ L h' ((c, { cls := .type "tuple", data := .seq #[.int 10 u1, .int 0 u2] }) :: news) → (∀ p ∈ news, p.1 < c) → Q (.ref c) { s with heap := h', toks := tk' }) :
  wpAny (model PySem.Challenge.rw_gl0007_01.row.prog w) (ktrTop dp un gd cn cs L a ccd cl outer) (call (.ref 77) [.int xi t1, .int yi t2]) Q E s := by
  subst ex ey
  exact dm_hit dp un gd cn cs a ccd cl outer A₀ base h₀ L m s Q E news B F X c1 c2 o1 o2 v1 v2 g1 g2 m51 mc1 f1 rr1 m58 mc2 f2 rr2 N T hk hd hu 30 3 2 3 [2, 3, 1] [0, 2, 2] 0 10 t1 t2 (by decide) (by decide) (by decide) (by decide) (by decide) (by decide) (by decide) (by decide) (by decide) (by decide) (by decide) (by decide) (by decide) (by decide) hret

theorem dmc_20_4 {w : World} {p : Program} {loose : List Str} {mean : ExcName → Option Value} {mg mb : Str → Option Value}
  (dp un : Nat) (gd : Option (List Code)) (cn : Str) (cs : Scope) (a : Addr) (ccd : Value) (cl : List (Str × Addr)) (outer : List Env) (A₀ : Around) (base h₀ : Heap) (L : Addr) (m : Str → Option Value) (s : Shared) (Q : Value → Shared → Prop) (E : Value → Shared → Prop) (news : List (Addr × Obj))
  (B : Below A₀ base outer h₀) (F : Fr h₀ L s.heap m) (X : (hd.heap_39 w.params).In h₀) (N : News h₀ L s.heap news) (c1 c2 : Addr) (o1 o2 : Obj) (v1 v2 : Array Value) (g1 g2 : Tok) (m51 : (51, tabObj #[rawInt ((75 : Nat) : Int), rawInt ((4 : Nat) : Int), .ref c1]) ∈ news) (mc1 : (c1, o1) ∈ news) (f1 : o1.data = .fields v1) (rr1 : v1[1]? = some (.str (Str.ofString "_int2digits.<locals>.inner") g1))
  (m58 : (58, tabObj #[rawInt ((90 : Nat) : Int), rawInt ((4 : Nat) : Int), .ref c2]) ∈ news) (mc2 : (c2, o2) ∈ news) (f2 : o2.data = .fields v2) (rr2 : v2[1]? = some (.str (Str.ofString "_digits2int.<locals>.inner") g2)) (T : Top p loose mean mg mb h₀) (hk : cs.kind = .function) (hd : dp < 500) (hu : un < 300) (xi yi : Int) (ex : xi = 20) (ey : yi = 4) (t1 t2 : Tok)
  (hret : ∀ c h' tk' u1 u2, Fr h₀ L h' m → News h₀ L h' ((c, { cls := .type "tuple", data := .seq #[.int 5 u1, .int 0 u2] }) :: news) → (∀ p ∈ news, p.1 < c) → Q (.ref c) { s with heap := h', toks := tk' }) :
  wpAny (model PySem.Challenge.rw_gl0007_01.row.prog w) (ktrTop dp un gd cn cs L a ccd cl outer) (call (.ref 77) [.int xi t1, .int yi t2]) Q E s := by
  subst ex ey
  exact dm_hit dp un gd cn cs a ccd cl outer A₀ base h₀ L m s Q E news B F X c1 c2 o1 o2 v1 v2 g1 g2 m51 mc1 f1 rr1 m58 mc2 f2 rr2 N T hk hd hu 20 4 3 2 [4, 2] [0, 5] 0 5 t1 t2 (by decide) (by decide) (by decide) (by decide) (by decide) (by decide) (by decide) (by decide) (by decide) (by decide) (by decide) (by decide) (by decide) (by decide) hret
end
section
theorem perm1 {h₀ h : Heap} {L : Addr} {x0 y z : Addr × Obj} {r : List (Addr × Obj)} (N : News h₀ L h (x0 :: y :: z :: r)) : News h₀ L h (y :: z :: x0 :: r) := by
  intro p hp
  simp only [List.mem_cons] at hp
  refine N p ?_
  simp only [List.mem_cons]
  rcases hp with h | h | h | h <;> simp [h]
theorem perm2 {h₀ h : Heap} {L : Addr} {x0 x1 y z : Addr × Obj} {r : List (Addr × Obj)} (N : News h₀ L h (x0 :: x1 :: y :: z :: r)) : News h₀ L h (y :: z :: x0 :: x1 :: r) := by
  intro p hp
  simp only [List.mem_cons] at hp
  refine N p ?_
  simp only [List.mem_cons]
  rcases hp with h | h | h | h | h <;> simp [h]
theorem perm3 {h₀ h : Heap} {L : Addr} {x0 x1 x2 y z : Addr × Obj} {r : List (Addr × Obj)} (N : News h₀ L h (x0 :: x1 :: x2 :: y :: z :: r)) : News h₀ L h (y :: z :: x0 :: x1 :: x2 :: r) := by
  intro p hp
  simp only [List.mem_cons] at hp
  refine N p ?_
  simp only [List.mem_cons]
  rcases hp with h | h | h | h | h | h <;> simp [h]
theorem perm4 {h₀ h : Heap} {L : Addr} {x0 x1 x2 x3 y z : Addr × Obj} {r : List (Addr × Obj)} (N : News h₀ L h (x0 :: x1 :: x2 :: x3 :: y :: z :: r)) : News h₀ L h (y :: z :: x0 :: x1 :: x2 :: x3 :: r) := by
  intro p hp
  simp only [List.mem_cons] at hp
  refine N p ?_
  simp only [List.mem_cons]
  rcases hp with h | h | h | h | h | h | h <;> simp [h]

set_option maxRecDepth 100000 in
set_option maxHeartbeats 8000000 in
theorem numbers1 {w : World} {p : Program} {loose : List Str} {mean : ExcName → Option Value} {mg mb : Str → Option Value}
  (dp un : Nat) (gd : Option (List Code)) (cn : Str) (cs : Scope) (a : Addr) (ccd : Value) (cl : List (Str × Addr)) (outer : List Env) (A₀ : Around) (base h₀ : Heap) (L : Addr) (m : Str → Option Value) (s : Shared) (Q : Value → Shared → Prop) (E : Value → Shared → Prop)
  (B : Below A₀ base outer h₀) (F : Fr h₀ L s.heap m) (X : (hd.heap_39 w.params).In h₀) (rc : Addr) (ro : Obj) (N : News h₀ L s.heap [(58, tabObj #[]), (51, tabObj #[]), (rc, ro)]) (hrc : @LT.lt Nat _ 58 rc) (T : Top p loose mean mg mb h₀) (hk : cs.kind = .function) (hd : dp < 400) (hu : un < 200) (t1 : Tok)
  (hret : ∀ q kk h' tk' u0 u1, Fr h₀ L h' m → News h₀ L h' [(q, listOf #[.int 1 u0, .int 1 u1] kk), (58, tabObj #[]), (51, tabObj #[]), (rc, ro)] → @LT.lt Nat _ rc q → @LT.lt Nat _ 58 q → Q (.ref q) { s with heap := h', toks := tk' }) :
  wpAny (model PySem.Challenge.rw_gl0007_01.row.prog w) (ktrTop dp un gd cn cs L a ccd cl outer) (call (.ref 89) [.int 1 t1]) Q E s := by
  k_with_none
  w_top off
  k_with "all" => first | assumption | exact allLt_ne (by assumption) (by omega)
  revert X; k_fill; intro X
  refine wpAny_call ?_
  k_dflt cell_enter
  k_with "ite" => first | (with_reducible refine ite_neg (by decide) ?_) | (with_reducible refine ite_pos (by decide) ?_)
  k_with "call type:range" => ((fail_if_success (with_reducible show wpAny _ _ (call (.type "range") [.int 2 _, .int 2 _]) _ _ _)); k_dflt (show wpAny _ _ (call (.type "range") [.int 2 _, .int 2 _]) _ _ _))
  k_steps
  all_goals exact hret _ _ _ _ _ _ (by assumption) (by assumption) (by omega) (by omega)
end
section
/-- the rows of n signs -/
def rowsN : Nat → List PySem.Str
  | 0 => [Str.ofString ""]
  | n + 1 => rowsStep (Str.ofString "().") (rowsN n)
theorem rowsN_length : ∀ n, (rowsN n).length = 3 ^ n
  | 0 => rfl
  | n + 1 => by
    have ih := rowsN_length n
    have : ∀ xs : List PySem.Str, (rowsStep (Str.ofString "().") xs).length = xs.length * 3 := by
      intro xs
      induction xs with
      | nil => rfl
      | cons x xs ih =>
        show (signsOf (Str.ofString "().") x ++ rowsStep (Str.ofString "().") xs).length = _
        rw [List.length_append, ih, show (signsOf (Str.ofString "().") x).length = 3 from by simp [signsOf]; rfl, List.length_cons]
        omega
    show (rowsStep (Str.ofString "().") (rowsN n)).length = _
    rw [this, ih, Nat.pow_succ]
theorem rowsN_each : ∀ n, ∀ r ∈ rowsN n, r.cps.size = n ∧ ∀ c ∈ r.cps.toList, c ∈ [40, 41, 46]
  | 0, r, h => by
    rw [List.mem_singleton.mp h]
    exact ⟨rfl, fun c hc => by cases hc⟩
  | n + 1, r, h => by
    obtain ⟨x, hx, hr⟩ := List.mem_flatMap.mp h
    obtain ⟨c, hc, rfl⟩ := List.mem_map.mp hr
    obtain ⟨h1, h2⟩ := rowsN_each n x hx
    have e : (x ++ (⟨#[c]⟩ : PySem.Str)).cps = x.cps ++ #[c] := rfl
    rw [e]
    refine ⟨by simp [h1], fun d hd => ?_⟩
    simp only [Array.toList_append, List.mem_append] at hd
    rcases hd with hd | hd
    · exact h2 d hd
    · simp at hd; subst hd
      have : (Str.ofString "().").cps.toList = [40, 41, 46] := by decide +kernel
      rw [this] at hc; exact hc
section
variable {prog : Program} {w : World} {A : Around} {E : Value → Shared → Prop} {s : Shared} {env : Env} {a b : PySem.Str} {pa pb pa' pb' pl pe pr : Pos} {j : Nat} {scope : Scope} {pos : Pos} {h₀ : Heap} {L : Addr} {m : PySem.Str → Option Value} {news : List (Addr × Obj)}
theorem rows_K {Q : Flow → Shared → Prop} {rows y' : PySem.Str} {py spos : Pos} {ax : Addr} {vs : List Value} {k n : Nat} (hh : A.handled = none) (F : Fr h₀ env.locals s.heap m) (N : News h₀ env.locals s.heap news) (hv : m rows = some (.ref ax)) (hm : (ax, listOf vs.toArray k) ∈ news) (hS : PyProof.Rows.StrsAre vs (rowsN n)) (hn : n < 8)
    (hk : env.scope.kind = .function) (hl : env.scope.names.lookup rows = some .local) (hd : (rows == ("__debug__" : PySem.Str)) = false) (hclos : closureFor scope env = pure []) (hcell : ∀ z ∈ scope.names, z.2 ≠ .cell) (hkind : scope.kind = .function)
    (hnames : ∀ z ∈ scope.names, z.2 = .local → scope.names.lookup z.1 = some .local) (hab : a ≠ b) (ka : scope.names.lookup a = some .local) (kb : scope.names.lookup b = some .local)
    (hda : (a == ("__debug__" : PySem.Str)) = false) (hdb : (b == ("__debug__" : PySem.Str)) = false)
    (hsw : swapsWith (.ListComp (rowsElt a b pa' pb' pe) (rowsGens a b pa pb pl j (.Name rows pr) (Str.ofString "().")) scope pos) (some (.Name y' py)) spos.line env = pure true) (hy' : env.kindOf y' = some .local) (hp' : (env.scope.kind == .class || (env.scope.kind == .module && env.locals != env.globals)) = false)
    (hQ : ∀ D h' tk (ys : List Value) k', Fr h₀ env.locals h' (fun z => if z = y' then some (.ref D) else m z) → News h₀ env.locals h' ((D, listOf ys.toArray k') :: news) → PyProof.Rows.StrsAre ys (rowsN (n + 1)) → (∀ p ∈ news, p.1 < D) → Q .next { s with heap := h', toks := tk }) :
    wpAny (model prog w) A (exec (.Assign [.Name y' py] (.ListComp (rowsElt a b pa' pb' pe) (rowsGens a b pa pb pl j (.Name rows pr) (Str.ofString "().")) scope pos) spos) env) Q E s := by
  refine rows_assign hsw hy' hp' hh hclos hcell hkind hnames hab ka kb hda hdb (by decide +kernel) (wpAny_Name (wpAny_loadName_local hk hl F.ns hv ?_) hd) (fun _ => rfl)
  have hp : 3 ^ n ≤ 3 ^ 7 := Nat.pow_le_pow_right (by decide) (by omega)
  refine ⟨ax, vs, rowsN n, k, m, rfl, F.ns, (N _ hm).1, hS, fun r hr => ?_, ?_, fun D h' tk ys k' hns hk' hD hg hS' => ?_⟩
  · show r.cps.size < sizeLine
    rw [(rowsN_each n r hr).1]
    have : (8 : Nat) ≤ sizeLine := by decide
    omega
  · rw [rowsN_length, show (Str.ofString "().").cps.size = 3 from by decide +kernel]
    have : (3 : Nat) ^ 7 * 3 ≤ sizeLine := by decide
    omega
  · have lt : ∀ c o, s.heap.get? c = some o → @LT.lt Nat _ c D := fun c o e => Nat.lt_of_lt_of_le (Heap.lt_size e) hD
    have none0 : h₀.get? D = none := by
      cases hq : h₀.get? D with
      | none => rfl
      | some o => exact absurd (lt _ _ (F.keep _ _ hq)) (Nat.lt_irrefl _)
    obtain ⟨oL, r1, r2, r3, r4⟩ := F.ns
    have hDL : D ≠ env.locals := Nat.ne_of_gt (lt _ _ r3)
    refine hQ D h' tk ys.toList k' ⟨hns, fun b o e => hk' _ _ (Nat.ne_of_lt (Nat.lt_of_lt_of_le (Heap.lt_size e) F.above)) (F.keep _ _ e), F.above⟩ (fun p hp => ?_) hS' fun p hp => lt _ _ (N p hp).1
    rcases List.mem_cons.mp hp with rfl | hp
    · exact ⟨by rw [hg], hDL, none0⟩
    · exact ⟨hk' _ _ (N p hp).2.1 (N p hp).1, (N p hp).2⟩
end
theorem allLt_ne1 {d : Addr} : ∀ {l : List (Addr × Obj)}, AllLt d l → ∀ p ∈ l, p.1 ≠ d
  | [], _, _, h => nomatch h
  | _ :: _, h, p, hp => by
    rcases List.mem_cons.mp hp with rfl | hp
    · exact Nat.ne_of_lt h.1
    · exact allLt_ne1 h.2 p hp
theorem unrEndP {h₀ : Heap} {L I : Addr} {it : Obj} {rest : (Str → Option Value) → List (Addr × Obj) → Prop} {s₁ : Shared} {h' : Heap} {tk : Nat} {m' : Str → Option Value} {a : Addr × Obj} {r : List (Addr × Obj)} (F : Fr h₀ L h' m') (N : News h₀ L h' (a :: (I, it) :: r)) (ha : @LT.lt Nat _ I a.1) (hl : ∀ p ∈ r, p.1 ≠ I) (hr : rest m' (a :: r)) : UnrEnd h₀ L s₁ I it rest { s₁ with heap := h', toks := tk } :=
  UnrEnd.intro F N (a :: r) (fun p h => by
    rcases List.mem_cons.mp h with rfl | h
    · exact .tail _ (.head _)
    rcases List.mem_cons.mp h with rfl | h
    · exact .head _
    · exact .tail _ (.tail _ h)) (fun p h => by
    rcases List.mem_cons.mp h with rfl | h
    · exact Nat.ne_of_gt ha
    · exact hl p h) hr
theorem lt_ne {d a : Addr} {l : List (Addr × Obj)} (h : ∀ p ∈ l, p.1 < d) (hd : @LE.le Nat _ d a) : ∀ p ∈ l, p.1 ≠ a := fun p hp => Nat.ne_of_lt (Nat.lt_of_lt_of_le (h p hp) hd)
theorem lt_lt {d a : Addr} {l : List (Addr × Obj)} (h : ∀ p ∈ l, p.1 < d) (hd : @LE.le Nat _ d a) : ∀ p ∈ l, p.1 < a := fun p hp => Nat.lt_of_lt_of_le (h p hp) hd
theorem strs0 {t : Tok} : PyProof.Rows.StrsAre [.str (Str.ofString "") t] (rowsN 0) := .cons _ _ .nil

set_option maxRecDepth 100000 in
set_option maxHeartbeats 8000000 in
theorem law_rows0 {w : World} {p : Program} {loose : List Str} {mean : ExcName → Option Value} {mg mb : Str → Option Value}
  (dp un : Nat) (gd : Option (List Code)) (cn : Str) (cs : Scope) (a : Addr) (ccd : Value) (cl : List (Str × Addr)) (outer : List Env) (A₀ : Around) (base h₀ : Heap) (L : Addr) (m : Str → Option Value) (s : Shared) (Q : Value → Shared → Prop) (E : Value → Shared → Prop) (news : List (Addr × Obj))
  (B : Below A₀ base outer h₀) (F : Fr h₀ L s.heap m) (X : (hd.heap_39 w.params).In h₀) (N : News h₀ L s.heap news) (T : Top p loose mean mg mb h₀) (hk : cs.kind = .function) (hd : dp < 500) (hu : un < 400) (t1 : Tok)
  (hret : ∀ q kk (ys : List Value) h' tk', Fr h₀ L h' m → News h₀ L h' ((q, listOf ys.toArray kk) :: news) → PyProof.Rows.StrsAre ys (rowsN 0) → (∀ p ∈ news, p.1 < q) → Q (.ref q) { s with heap := h', toks := tk' }) :
  wpAny (model PySem.Challenge.rw_gl0007_01.row.prog w) (ktrTop dp un gd cn cs L a ccd cl outer) (call (.ref 82) [.int 0 t1]) Q E s := by
  k_with_none
  w_top off
  revert X; k_fill; intro X
  refine wpAny_call ?_
  k_dflt cell_enter
  k_with "exec Assign cons ListComp" => (k_dflt (refine rows_K (by rfl) (by k_asm) (by k_asm) (by rfl) (by exact List.mem_cons_of_mem _ List.mem_cons_self) (by first | assumption | exact strs0) (by decide) (by rfl) (by rfl) (by decide +kernel) (by rfl) (by decide) (by rfl) (by decide +kernel) (by decide +kernel) (by rfl) (by rfl) (by decide +kernel) (by decide +kernel) (by rfl) (by rfl) (by rfl) ?_); intro D' h' tk' ys' k' F' N' hS' l1; (try k_lt l1))
  k_with "UnrEnd" => (k_dflt (refine unrEndP (by k_asm) (by k_asm) (by omega) (by (repeat (refine List.forall_mem_cons.mpr ⟨(by first | exact Nat.ne_of_lt (by omega) | exact Nat.ne_of_gt (by omega)), ?_⟩)); exact lt_ne (by assumption) (by omega)) ?_))
  k_steps
  all_goals (have kN := ‹News h₀ L _ _›; exact hret _ _ _ _ _ (by assumption) (cb_drop kN (List.forall_mem_cons.mpr ⟨List.mem_cons_self, by intro p hp; repeat (first | exact hp | apply List.mem_cons_of_mem)⟩)) (by first | assumption | exact strs0) (lt_lt (by assumption) (by omega)))


set_option maxRecDepth 100000 in
set_option maxHeartbeats 8000000 in
theorem law_rows1 {w : World} {p : Program} {loose : List Str} {mean : ExcName → Option Value} {mg mb : Str → Option Value}
  (dp un : Nat) (gd : Option (List Code)) (cn : Str) (cs : Scope) (a : Addr) (ccd : Value) (cl : List (Str × Addr)) (outer : List Env) (A₀ : Around) (base h₀ : Heap) (L : Addr) (m : Str → Option Value) (s : Shared) (Q : Value → Shared → Prop) (E : Value → Shared → Prop) (news : List (Addr × Obj))
  (B : Below A₀ base outer h₀) (F : Fr h₀ L s.heap m) (X : (hd.heap_39 w.params).In h₀) (N : News h₀ L s.heap news) (T : Top p loose mean mg mb h₀) (hk : cs.kind = .function) (hd : dp < 500) (hu : un < 400) (t1 : Tok)
  (hret : ∀ q kk (ys : List Value) h' tk', Fr h₀ L h' m → News h₀ L h' ((q, listOf ys.toArray kk) :: news) → PyProof.Rows.StrsAre ys (rowsN 1) → (∀ p ∈ news, p.1 < q) → Q (.ref q) { s with heap := h', toks := tk' }) :
  wpAny (model PySem.Challenge.rw_gl0007_01.row.prog w) (ktrTop dp un gd cn cs L a ccd cl outer) (call (.ref 82) [.int 1 t1]) Q E s := by
  k_with_none
  w_top off
  revert X; k_fill; intro X
  refine wpAny_call ?_
  k_dflt cell_enter
  k_with "exec Assign cons ListComp" => (k_dflt (refine rows_K (by rfl) (by k_asm) (by k_asm) (by rfl) (by exact List.mem_cons_of_mem _ List.mem_cons_self) (by first | assumption | exact strs0) (by decide) (by rfl) (by rfl) (by decide +kernel) (by rfl) (by decide) (by rfl) (by decide +kernel) (by decide +kernel) (by rfl) (by rfl) (by decide +kernel) (by decide +kernel) (by rfl) (by rfl) (by rfl) ?_); intro D' h' tk' ys' k' F' N' hS' l1; (try k_lt l1))
  k_with "UnrEnd" => (k_dflt (refine unrEndP (by k_asm) (by k_asm) (by omega) (by (repeat (refine List.forall_mem_cons.mpr ⟨(by first | exact Nat.ne_of_lt (by omega) | exact Nat.ne_of_gt (by omega)), ?_⟩)); exact lt_ne (by assumption) (by omega)) ?_))
  k_steps
  all_goals (have kN := ‹News h₀ L _ _›; exact hret _ _ _ _ _ (by assumption) (cb_drop kN (List.forall_mem_cons.mpr ⟨List.mem_cons_self, by intro p hp; repeat (first | exact hp | apply List.mem_cons_of_mem)⟩)) (by first | assumption | exact strs0) (lt_lt (by assumption) (by omega)))


set_option maxRecDepth 100000 in
set_option maxHeartbeats 8000000 in
theorem law_rows2 {w : World} {p : Program} {loose : List Str} {mean : ExcName → Option Value} {mg mb : Str → Option Value}
  (dp un : Nat) (gd : Option (List Code)) (cn : Str) (cs : Scope) (a : Addr) (ccd : Value) (cl : List (Str × Addr)) (outer : List Env) (A₀ : Around) (base h₀ : Heap) (L : Addr) (m : Str → Option Value) (s : Shared) (Q : Value → Shared → Prop) (E : Value → Shared → Prop) (news : List (Addr × Obj))
  (B : Below A₀ base outer h₀) (F : Fr h₀ L s.heap m) (X : (hd.heap_39 w.params).In h₀) (N : News h₀ L s.heap news) (T : Top p loose mean mg mb h₀) (hk : cs.kind = .function) (hd : dp < 500) (hu : un < 400) (t1 : Tok)
  (hret : ∀ q kk (ys : List Value) h' tk', Fr h₀ L h' m → News h₀ L h' ((q, listOf ys.toArray kk) :: news) → PyProof.Rows.StrsAre ys (rowsN 2) → (∀ p ∈ news, p.1 < q) → Q (.ref q) { s with heap := h', toks := tk' }) :
  wpAny (model PySem.Challenge.rw_gl0007_01.row.prog w) (ktrTop dp un gd cn cs L a ccd cl outer) (call (.ref 82) [.int 2 t1]) Q E s := by
  k_with_none
  w_top off
  revert X; k_fill; intro X
  refine wpAny_call ?_
  k_dflt cell_enter
  k_with "exec Assign cons ListComp" => (k_dflt (refine rows_K (by rfl) (by k_asm) (by k_asm) (by rfl) (by exact List.mem_cons_of_mem _ List.mem_cons_self) (by first | assumption | exact strs0) (by decide) (by rfl) (by rfl) (by decide +kernel) (by rfl) (by decide) (by rfl) (by decide +kernel) (by decide +kernel) (by rfl) (by rfl) (by decide +kernel) (by decide +kernel) (by rfl) (by rfl) (by rfl) ?_); intro D' h' tk' ys' k' F' N' hS' l1; (try k_lt l1))
  k_with "UnrEnd" => (k_dflt (refine unrEndP (by k_asm) (by k_asm) (by omega) (by (repeat (refine List.forall_mem_cons.mpr ⟨(by first | exact Nat.ne_of_lt (by omega) | exact Nat.ne_of_gt (by omega)), ?_⟩)); exact lt_ne (by assumption) (by omega)) ?_))
  k_steps
  all_goals (have kN := ‹News h₀ L _ _›; exact hret _ _ _ _ _ (by assumption) (cb_drop kN (List.forall_mem_cons.mpr ⟨List.mem_cons_self, by intro p hp; repeat (first | exact hp | apply List.mem_cons_of_mem)⟩)) (by first | assumption | exact strs0) (lt_lt (by assumption) (by omega)))


set_option maxRecDepth 100000 in
set_option maxHeartbeats 8000000 in
theorem law_rows3 {w : World} {p : Program} {loose : List Str} {mean : ExcName → Option Value} {mg mb : Str → Option Value}
  (dp un : Nat) (gd : Option (List Code)) (cn : Str) (cs : Scope) (a : Addr) (ccd : Value) (cl : List (Str × Addr)) (outer : List Env) (A₀ : Around) (base h₀ : Heap) (L : Addr) (m : Str → Option Value) (s : Shared) (Q : Value → Shared → Prop) (E : Value → Shared → Prop) (news : List (Addr × Obj))
  (B : Below A₀ base outer h₀) (F : Fr h₀ L s.heap m) (X : (hd.heap_39 w.params).In h₀) (N : News h₀ L s.heap news) (T : Top p loose mean mg mb h₀) (hk : cs.kind = .function) (hd : dp < 500) (hu : un < 400) (t1 : Tok)
  (hret : ∀ q kk (ys : List Value) h' tk', Fr h₀ L h' m → News h₀ L h' ((q, listOf ys.toArray kk) :: news) → PyProof.Rows.StrsAre ys (rowsN 3) → (∀ p ∈ news, p.1 < q) → Q (.ref q) { s with heap := h', toks := tk' }) :
  wpAny (model PySem.Challenge.rw_gl0007_01.row.prog w) (ktrTop dp un gd cn cs L a ccd cl outer) (call (.ref 82) [.int 3 t1]) Q E s := by
  k_with_none
  w_top off
  revert X; k_fill; intro X
  refine wpAny_call ?_
  k_dflt cell_enter
  k_with "exec Assign cons ListComp" => (k_dflt (refine rows_K (by rfl) (by k_asm) (by k_asm) (by rfl) (by exact List.mem_cons_of_mem _ List.mem_cons_self) (by first | assumption | exact strs0) (by decide) (by rfl) (by rfl) (by decide +kernel) (by rfl) (by decide) (by rfl) (by decide +kernel) (by decide +kernel) (by rfl) (by rfl) (by decide +kernel) (by decide +kernel) (by rfl) (by rfl) (by rfl) ?_); intro D' h' tk' ys' k' F' N' hS' l1; (try k_lt l1))
  k_with "UnrEnd" => (k_dflt (refine unrEndP (by k_asm) (by k_asm) (by omega) (by (repeat (refine List.forall_mem_cons.mpr ⟨(by first | exact Nat.ne_of_lt (by omega) | exact Nat.ne_of_gt (by omega)), ?_⟩)); exact lt_ne (by assumption) (by omega)) ?_))
  k_steps
  all_goals (have kN := ‹News h₀ L _ _›; exact hret _ _ _ _ _ (by assumption) (cb_drop kN (List.forall_mem_cons.mpr ⟨List.mem_cons_self, by intro p hp; repeat (first | exact hp | apply List.mem_cons_of_mem)⟩)) (by first | assumption | exact strs0) (lt_lt (by assumption) (by omega)))


set_option maxRecDepth 100000 in
set_option maxHeartbeats 8000000 in
theorem law_rows4 {w : World} {p : Program} {loose : List Str} {mean : ExcName → Option Value} {mg mb : Str → Option Value}
  (dp un : Nat) (gd : Option (List Code)) (cn : Str) (cs : Scope) (a : Addr) (ccd : Value) (cl : List (Str × Addr)) (outer : List Env) (A₀ : Around) (base h₀ : Heap) (L : Addr) (m : Str → Option Value) (s : Shared) (Q : Value → Shared → Prop) (E : Value → Shared → Prop) (news : List (Addr × Obj))
  (B : Below A₀ base outer h₀) (F : Fr h₀ L s.heap m) (X : (hd.heap_39 w.params).In h₀) (N : News h₀ L s.heap news) (T : Top p loose mean mg mb h₀) (hk : cs.kind = .function) (hd : dp < 500) (hu : un < 400) (t1 : Tok)
  (hret : ∀ q kk (ys : List Value) h' tk', Fr h₀ L h' m → News h₀ L h' ((q, listOf ys.toArray kk) :: news) → PyProof.Rows.StrsAre ys (rowsN 4) → (∀ p ∈ news, p.1 < q) → Q (.ref q) { s with heap := h', toks := tk' }) :
  wpAny (model PySem.Challenge.rw_gl0007_01.row.prog w) (ktrTop dp un gd cn cs L a ccd cl outer) (call (.ref 82) [.int 4 t1]) Q E s := by
  k_with_none
  w_top off
  revert X; k_fill; intro X
  refine wpAny_call ?_
  k_dflt cell_enter
  k_with "exec Assign cons ListComp" => (k_dflt (refine rows_K (by rfl) (by k_asm) (by k_asm) (by rfl) (by exact List.mem_cons_of_mem _ List.mem_cons_self) (by first | assumption | exact strs0) (by decide) (by rfl) (by rfl) (by decide +kernel) (by rfl) (by decide) (by rfl) (by decide +kernel) (by decide +kernel) (by rfl) (by rfl) (by decide +kernel) (by decide +kernel) (by rfl) (by rfl) (by rfl) ?_); intro D' h' tk' ys' k' F' N' hS' l1; (try k_lt l1))
  k_with "UnrEnd" => (k_dflt (refine unrEndP (by k_asm) (by k_asm) (by omega) (by (repeat (refine List.forall_mem_cons.mpr ⟨(by first | exact Nat.ne_of_lt (by omega) | exact Nat.ne_of_gt (by omega)), ?_⟩)); exact lt_ne (by assumption) (by omega)) ?_))
  k_steps
  all_goals (have kN := ‹News h₀ L _ _›; exact hret _ _ _ _ _ (by assumption) (cb_drop kN (List.forall_mem_cons.mpr ⟨List.mem_cons_self, by intro p hp; repeat (first | exact hp | apply List.mem_cons_of_mem)⟩)) (by first | assumption | exact strs0) (lt_lt (by assumption) (by omega)))


set_option maxRecDepth 100000 in
set_option maxHeartbeats 8000000 in
theorem law_rows5 {w : World} {p : Program} {loose : List Str} {mean : ExcName → Option Value} {mg mb : Str → Option Value}
  (dp un : Nat) (gd : Option (List Code)) (cn : Str) (cs : Scope) (a : Addr) (ccd : Value) (cl : List (Str × Addr)) (outer : List Env) (A₀ : Around) (base h₀ : Heap) (L : Addr) (m : Str → Option Value) (s : Shared) (Q : Value → Shared → Prop) (E : Value → Shared → Prop) (news : List (Addr × Obj))
  (B : Below A₀ base outer h₀) (F : Fr h₀ L s.heap m) (X : (hd.heap_39 w.params).In h₀) (N : News h₀ L s.heap news) (T : Top p loose mean mg mb h₀) (hk : cs.kind = .function) (hd : dp < 500) (hu : un < 400) (t1 : Tok)
  (hret : ∀ q kk (ys : List Value) h' tk', Fr h₀ L h' m → News h₀ L h' ((q, listOf ys.toArray kk) :: news) → PyProof.Rows.StrsAre ys (rowsN 5) → (∀ p ∈ news, p.1 < q) → Q (.ref q) { s with heap := h', toks := tk' }) :
  wpAny (model PySem.Challenge.rw_gl0007_01.row.prog w) (ktrTop dp un gd cn cs L a ccd cl outer) (call (.ref 82) [.int 5 t1]) Q E s := by
  k_with_none
  w_top off
  revert X; k_fill; intro X
  refine wpAny_call ?_
  k_dflt cell_enter
  k_with "exec Assign cons ListComp" => (k_dflt (refine rows_K (by rfl) (by k_asm) (by k_asm) (by rfl) (by exact List.mem_cons_of_mem _ List.mem_cons_self) (by first | assumption | exact strs0) (by decide) (by rfl) (by rfl) (by decide +kernel) (by rfl) (by decide) (by rfl) (by decide +kernel) (by decide +kernel) (by rfl) (by rfl) (by decide +kernel) (by decide +kernel) (by rfl) (by rfl) (by rfl) ?_); intro D' h' tk' ys' k' F' N' hS' l1; (try k_lt l1))
  k_with "UnrEnd" => (k_dflt (refine unrEndP (by k_asm) (by k_asm) (by omega) (by (repeat (refine List.forall_mem_cons.mpr ⟨(by first | exact Nat.ne_of_lt (by omega) | exact Nat.ne_of_gt (by omega)), ?_⟩)); exact lt_ne (by assumption) (by omega)) ?_))
  k_steps
  all_goals (have kN := ‹News h₀ L _ _›; exact hret _ _ _ _ _ (by assumption) (cb_drop kN (List.forall_mem_cons.mpr ⟨List.mem_cons_self, by intro p hp; repeat (first | exact hp | apply List.mem_cons_of_mem)⟩)) (by first | assumption | exact strs0) (lt_lt (by assumption) (by omega)))
end
section
theorem name_global {M : Model} {A : Around} {E : Value → Shared → Prop} {s : Shared} {K : Frag} {h₀ : Heap} {L : Addr} {m mg mb : Str → Option Value} {p : Program} {loose : List Str} {mean : ExcName → Option Value} {x : Str} {pos : Pos} {v : Value} {Q : Value → Shared → Prop} {env : Env}
    (hk : env.scope.kind = .function) (hx : env.kindOf x = some .globalImplicit) (hg : env.globals = mainGlobals) (F : Fr h₀ L s.heap m) (X : K.In h₀) (T : Top p loose mean mg mb h₀) (e : nsIn K mainGlobals x = some (some v)) (h : Q v s) (hd : (x == ("__debug__" : Str)) = false := by decide +kernel) :
    wpAny M A (eval (.Name x pos) env) Q E s := Name_function_global hk hx (loadGlobal_global (hg ▸ T.g.keeps F.keep) (mg_of X T.g e) h) hd
theorem test_closes {w : World} {p : Program} {loose : List Str} {mean : ExcName → Option Value} {mg mb : Str → Option Value}
  (dp un : Nat) (gd : Option (List Code)) (cn : Str) (cs : Scope) (a : Addr) (ccd : Value) (cl : List (Str × Addr)) (outer : List Env) (A₀ : Around) (base h₀ : Heap) (L : Addr) (m : Str → Option Value) (s : Shared) (E : Value → Shared → Prop) (news : List (Addr × Obj))
  (B : Below A₀ base outer h₀) (F : Fr h₀ L s.heap m) (X : (hd.heap_39 w.params).In h₀) (N : News h₀ L s.heap news) (T : Top p loose mean mg mb h₀) (hk : cs.kind = .function) (hd : dp < 500) (hu : un < 500) (hb : AllBare s.gens)
  {scope : Scope} {cl' : List (Str × Addr)} {C : Addr} {y : Str} {t : Tok} {p1 p2 p3 : Pos} {m₃ : Str → Option Value} (hn : s.heap.Ns C m₃) (hv : m₃ (Str.ofString "row") = some (.str y t))
  (hks : scope.kind = .function) (hx : (compEnvC scope cl' C (envX cn cs L a ccd cl)).kindOf (Str.ofString "_law_closes") = some .globalImplicit) (hyl : y.length ≤ 1000) (hrow : scope.names.lookup (Str.ofString "row") = some .local) :
  wpAny (model PySem.Challenge.rw_gl0007_01.row.prog w) (ktrTop dp un gd cn cs L a ccd cl outer)
    (isTrue (.Call (.Name (Str.ofString "_law_closes") p1) [.Name (Str.ofString "row") p2] [] p3) (compEnvC scope cl' C (envX cn cs L a ccd cl)) (eval (.Call (.Name (Str.ofString "_law_closes") p1) [.Name (Str.ofString "row") p2] [] p3) (compEnvC scope cl' C (envX cn cs L a ccd cl))))
    (fun ok s₄ => ok = closes y ∧ Stands h₀ L m news s s₄) E s := by
  have fn : FnAt 96 s.heap := by
    exact ⟨_, _, _, _, F.keep _ _ (X 96 _ rfl)⟩
  refine wpAny_isTrue_value (Call_ (name_global hks hx rfl F X T (v := .ref 96) (by kernel_rfl) (callWith_F fn (spliced_more (wpAny_Name (wpAny_loadName_local hks (lookup_relabel_local hrow) hn hv (spliced_none ⟨fn, ?_⟩)) (by decide +kernel)))))) rfl
  refine closes_call dp un gd cn cs a ccd cl outer A₀ base h₀ L m s _ E news B F X N T hk hd hu y t hyl ?_
  intro h' tk' F' N'
  exact wpAny_truthy_bool ⟨rfl, _, _, _, rfl, F', N', hb⟩
end
section
theorem test_check {w : World} {p : Program} {loose : List Str} {mean : ExcName → Option Value} {mg mb : Str → Option Value}
  (dp un : Nat) (gd : Option (List Code)) (cn : Str) (cs : Scope) (a : Addr) (ccd : Value) (cl : List (Str × Addr)) (outer : List Env) (A₀ : Around) (base h₀ : Heap) (L : Addr) (m : Str → Option Value) (s : Shared) (E : Value → Shared → Prop) (news : List (Addr × Obj))
  (B : Below A₀ base outer h₀) (F : Fr h₀ L s.heap m) (X : (hd.heap_39 w.params).In h₀) (N : News h₀ L s.heap news) (T : Top p loose mean mg mb h₀) (hk : cs.kind = .function) (hd : dp < 500) (hu : un < 500) (hb : AllBare s.gens)
  {scope : Scope} {cl' : List (Str × Addr)} {C : Addr} {y : Str} {t : Tok} {p1 p2 p3 : Pos} {m₃ : Str → Option Value} (hn : s.heap.Ns C m₃) (hv : m₃ (Str.ofString "row") = some (.str y t))
  (hks : scope.kind = .function) (hx : (compEnvC scope cl' C (envX cn cs L a ccd cl)).kindOf (Str.ofString "_check_parenthesis") = some .globalImplicit) (hyc : ∀ (i n : Nat), y.cps[i]? = some n → n ≠ 92 ∧ n ≠ 34 ∧ n < 128) (hrow : scope.names.lookup (Str.ofString "row") = some .local) :
  wpAny (model PySem.Challenge.rw_gl0007_01.row.prog w) (ktrTop dp un gd cn cs L a ccd cl outer)
    (isTrue (.Call (.Name (Str.ofString "_check_parenthesis") p1) [.Name (Str.ofString "row") p2] [] p3) (compEnvC scope cl' C (envX cn cs L a ccd cl)) (eval (.Call (.Name (Str.ofString "_check_parenthesis") p1) [.Name (Str.ofString "row") p2] [] p3) (compEnvC scope cl' C (envX cn cs L a ccd cl))))
    (fun ok s₄ => ok = closes y ∧ Stands h₀ L m news s s₄) E s := by
  have fn : FnAt 35 s.heap := by
    exact ⟨_, _, _, _, F.keep _ _ (X 35 _ rfl)⟩
  refine wpAny_isTrue_value (Call_ (name_global hks hx rfl F X T (v := .ref 35) (by kernel_rfl) (callWith_F fn (spliced_more (wpAny_Name (wpAny_loadName_local hks (lookup_relabel_local hrow) hn hv (spliced_none ⟨fn, ?_⟩)) (by decide +kernel)))))) rfl
  refine check_call dp un gd cn cs a ccd cl outer A₀ base h₀ L m s _ E news B F X N T hk hd hu y t hyc hb ?_
  intro h' tk' G' F' N' hb'
  exact wpAny_truthy_bool ⟨rfl, _, _, _, rfl, F', N', hb'⟩
theorem test_not_check {w : World} {p : Program} {loose : List Str} {mean : ExcName → Option Value} {mg mb : Str → Option Value}
  (dp un : Nat) (gd : Option (List Code)) (cn : Str) (cs : Scope) (a : Addr) (ccd : Value) (cl : List (Str × Addr)) (outer : List Env) (A₀ : Around) (base h₀ : Heap) (L : Addr) (m : Str → Option Value) (s : Shared) (E : Value → Shared → Prop) (news : List (Addr × Obj))
  (B : Below A₀ base outer h₀) (F : Fr h₀ L s.heap m) (X : (hd.heap_39 w.params).In h₀) (N : News h₀ L s.heap news) (T : Top p loose mean mg mb h₀) (hk : cs.kind = .function) (hd : dp < 500) (hu : un < 500) (hb : AllBare s.gens)
  {scope : Scope} {cl' : List (Str × Addr)} {C : Addr} {y : Str} {t : Tok} {p1 p2 p3 p4 : Pos} {m₃ : Str → Option Value} (hn : s.heap.Ns C m₃) (hv : m₃ (Str.ofString "row") = some (.str y t))
  (hks : scope.kind = .function) (hx : (compEnvC scope cl' C (envX cn cs L a ccd cl)).kindOf (Str.ofString "_check_parenthesis") = some .globalImplicit) (hyc : ∀ (i n : Nat), y.cps[i]? = some n → n ≠ 92 ∧ n ≠ 34 ∧ n < 128) (hrow : scope.names.lookup (Str.ofString "row") = some .local) :
  wpAny (model PySem.Challenge.rw_gl0007_01.row.prog w) (ktrTop dp un gd cn cs L a ccd cl outer)
    (isTrue (.UnaryOp .Not (.Call (.Name (Str.ofString "_check_parenthesis") p1) [.Name (Str.ofString "row") p2] [] p3) p4) (compEnvC scope cl' C (envX cn cs L a ccd cl)) (eval (.UnaryOp .Not (.Call (.Name (Str.ofString "_check_parenthesis") p1) [.Name (Str.ofString "row") p2] [] p3) p4) (compEnvC scope cl' C (envX cn cs L a ccd cl))))
    (fun ok s₄ => ok = !closes y ∧ Stands h₀ L m news s s₄) E s := by
  refine wpAny_isTrue_Not (wpAny_mono (test_check dp un gd cn cs a ccd cl outer A₀ base h₀ L m s E news B F X N T hk hd hu hb hn hv hks hx hyc hrow) (fun b s₁ h => ?_) fun _ _ e => e)
  exact ⟨by rw [h.1], h.2⟩
end
section
theorem test_differ {w : World} {p : Program} {loose : List Str} {mean : ExcName → Option Value} {mg mb : Str → Option Value}
  (dp un : Nat) (gd : Option (List Code)) (cn : Str) (cs : Scope) (a : Addr) (ccd : Value) (cl : List (Str × Addr)) (outer : List Env) (A₀ : Around) (base h₀ : Heap) (L : Addr) (m : Str → Option Value) (s : Shared) (E : Value → Shared → Prop) (news : List (Addr × Obj))
  (B : Below A₀ base outer h₀) (F : Fr h₀ L s.heap m) (X : (hd.heap_39 w.params).In h₀) (N : News h₀ L s.heap news) (T : Top p loose mean mg mb h₀) (hk : cs.kind = .function) (hd : dp < 500) (hu : un < 500) (hb : AllBare s.gens)
  {scope : Scope} {cl' : List (Str × Addr)} {C : Addr} {y : Str} {t : Tok} {p1 p2 p3 p4 p5 p6 p7 : Pos} {m₃ : Str → Option Value} (hn : s.heap.Ns C m₃) (hv : m₃ (Str.ofString "row") = some (.str y t))
  (hks : scope.kind = .function) (hx : (compEnvC scope cl' C (envX cn cs L a ccd cl)).kindOf (Str.ofString "_law_closes") = some .globalImplicit) (hyl : y.length ≤ 1000) (hyc : ∀ (i n : Nat), y.cps[i]? = some n → n ≠ 92 ∧ n ≠ 34 ∧ n < 128) (hC : ∀ o, s.heap.get? C = some o → (C, o) ∈ news) (hx2 : (compEnvC scope cl' C (envX cn cs L a ccd cl)).kindOf (Str.ofString "_check_parenthesis") = some .globalImplicit) (hrow : scope.names.lookup (Str.ofString "row") = some .local) :
  wpAny (model PySem.Challenge.rw_gl0007_01.row.prog w) (ktrTop dp un gd cn cs L a ccd cl outer)
    (isTrue (.Compare (.Call (.Name (Str.ofString "_check_parenthesis") p1) [.Name (Str.ofString "row") p2] [] p3) [.NotEq] [.Call (.Name (Str.ofString "_law_closes") p4) [.Name (Str.ofString "row") p5] [] p6] p7) (compEnvC scope cl' C (envX cn cs L a ccd cl)) (eval (.Compare (.Call (.Name (Str.ofString "_check_parenthesis") p1) [.Name (Str.ofString "row") p2] [] p3) [.NotEq] [.Call (.Name (Str.ofString "_law_closes") p4) [.Name (Str.ofString "row") p5] [] p6] p7) (compEnvC scope cl' C (envX cn cs L a ccd cl))))
    (fun ok s₄ => ok = false ∧ Stands h₀ L m news s s₄) E s := by
  have fn1 : FnAt 35 s.heap := ⟨_, _, _, _, F.keep _ _ (X 35 _ rfl)⟩
  refine wpAny_isTrue_Compare1 (Call_ (name_global hks hx2 rfl F X T (v := .ref 35) (by kernel_rfl) (callWith_F fn1 (spliced_more (wpAny_Name (wpAny_loadName_local hks (lookup_relabel_local hrow) hn hv (spliced_none ⟨fn1, ?_⟩)) (by decide +kernel)))))) rfl
  refine check_call dp un gd cn cs a ccd cl outer A₀ base h₀ L m s _ E news B F X N T hk hd hu y t hyc hb ?_
  intro h' tk' G' F' N' hb'
  have fn2 : FnAt 96 h' := ⟨_, _, _, _, F'.keep _ _ (X 96 _ rfl)⟩
  have hn' : h'.Ns C m₃ := hn.at' fun o e => (N' _ (hC o e)).1
  refine Call_ (name_global hks hx rfl F' X T (v := .ref 96) (by kernel_rfl) (callWith_F fn2 (spliced_more (wpAny_Name (wpAny_loadName_local hks (lookup_relabel_local hrow) hn' hv (spliced_none ⟨fn2, ?_⟩)) (by decide +kernel)))))
  refine closes_call dp un gd cn cs a ccd cl outer A₀ base h₀ L m _ _ E news B F' X N' T hk hd hu y t hyl ?_
  intro h'' tk'' F'' N''
  refine ne_bool (wpAny_truthy_bool ⟨by simp, _, _, _, rfl, F'', N'', hb'⟩)
end
section
section
variable {prog : Program} {w : World} {A : Around} {E : Value → Shared → Prop} {s : Shared}
/-- a loop over a list of texts whose target is a cell; the body stores one local at most -/
theorem for_cell {Q : Flow → Shared → Prop} {h₀ : Heap} {env : Env} {x loc : PySem.Str} {px : Pos} {body : List Stmt} {ax cc : Addr} {vs : List Value} {xs : List PySem.Str} {k : Nat} {m : PySem.Str → Option Value} {oc : Obj} {v0 : Option Value} {news : List (Addr × Obj)}
    (hh : A.handled = none) (hkf : env.scope.kind = .function) (hx : env.kindOf x = some .cell) (hcc : env.cells.lookup x = some cc)
    (F : Fr h₀ env.locals s.heap m) (N : News h₀ env.locals s.heap ((cc, oc) :: news)) (hoc : oc.data = .cell v0) (hcn : ∀ p ∈ news, p.1 ≠ cc) (hm : (ax, listOf vs.toArray k) ∈ news) (hS : PyProof.Rows.StrsAre vs xs) (hb : AllBare s.gens)
    (turn : ∀ y ∈ xs, ∀ (I : Addr) it o' t u h tk G' E', AllBare G' → (∀ p ∈ (cc, o') :: news, p.1 < I) → o'.data = .cell (some (.str y t)) → Fr h₀ env.locals h (fun z => if z = loc then u else m z) → News h₀ env.locals h ((I, it) :: (cc, o') :: news) →
      wpAny (model prog w) A (execs body env) (fun f s' => Stop (f = .next ∧ ∃ h' tk' G'' u', s' = { s with heap := h', toks := tk', gens := G'' } ∧ AllBare G'' ∧ Fr h₀ env.locals h' (fun z => if z = loc then u' else m z) ∧ News h₀ env.locals h' ((I, it) :: (cc, o') :: news))) E' { s with heap := h, toks := tk, gens := G' })
    (done : ∀ o' u h tk G' v, AllBare G' → o'.data = .cell v → Fr h₀ env.locals h (fun z => if z = loc then u else m z) → News h₀ env.locals h ((cc, o') :: news) → Q .next { s with heap := h, toks := tk, gens := G' }) :
    wpAny (model prog w) A (pyIter (.ref ax)) (fun it s₂ => codeAny (model prog w) A (.forLoop (.Name x px) it body [] env) (fun r s' => match r with | .ok f => Q f s' | .error e => cameBackBy (model prog w) A env E e s') s₂) E s := by
  have hL : s.heap.IsList ax vs.toArray := ⟨_, (N _ (.tail _ hm)).1, rfl, k, rfl⟩
  refine wpAny_pyIter_list hL ?_
  have hlt0 : ∀ p ∈ (cc, oc) :: news, p.1 < s.heap.objs.size := fun p hp => Heap.lt_size (N p hp).1
  generalize hI : s.heap.objs.size = I at hlt0
  have hI0 : h₀.get? I = none := by
    cases e : h₀.get? I with
    | none => rfl
    | some o => exact absurd (hI ▸ Heap.lt_size (F.keep _ _ e)) (Nat.lt_irrefl _)
  have hIL : I ≠ env.locals := fun e => by
    obtain ⟨o, _, _, ho, _⟩ := F.ns
    exact Nat.lt_irrefl _ (hI ▸ e ▸ Heap.lt_size ho)
  have hcI : cc ≠ I := Nat.ne_of_lt (hlt0 _ (.head _))
  have haI : ax ≠ I := Nat.ne_of_lt (hlt0 _ (.tail _ hm))
  have hac : ax ≠ cc := hcn _ hm
  have hcL : cc ≠ env.locals := (N _ (.head _)).2.1
  have hc0 : h₀.get? cc = none := (N _ (.head _)).2.2
  have hit0 : (s.heap.push { cls := .type "list_iterator", data := .fields #[.ref ax, .int 0 0] }).IsListIter I ax 0 := by
    rw [← hI]; exact ⟨_, Heap.get?_push_size _ rfl, rfl, rfl⟩
  have emap : (fun z => if z = loc then m loc else m z) = m := by
    funext z
    by_cases e : z = loc
    · rw [if_pos e, e]
    · rw [if_neg e]
  refine codeAny_forLoop_any (fun n s' => ∃ i o' v u h tk G', s' = { s with heap := h, toks := tk, gens := G' } ∧ i ≤ xs.length ∧ n = xs.length + 1 - i ∧ AllBare G' ∧ o'.data = .cell v ∧ h.IsListIter I ax i ∧ Fr h₀ env.locals h (fun z => if z = loc then u else m z) ∧ News h₀ env.locals h ((cc, o') :: news)) ?_ (xs.length + 1)
    ⟨0, oc, v0, m loc, _, s.toks, s.gens, rfl, Nat.zero_le _, rfl, hb, hoc, hit0, by rw [emap]; exact F.push _, fun p hp => ⟨Heap.get?_push_of_some _ (N p hp).1, (N p hp).2⟩⟩
  rintro n s' ⟨i, o', v, u, h, tk, G', rfl, hi, rfl, hbG, hod, hit, F', N'⟩
  have hvl := strs_length hS
  have hL' : h.IsList ax vs.toArray := ⟨_, (N' _ (.tail _ hm)).1, rfl, k, rfl⟩
  by_cases hlt : i < xs.length
  · obtain ⟨r, tr, hvr, hxr⟩ := strs_at hS (List.getElem?_eq_getElem (by omega : i < vs.length))
    have hv : vs.toArray[i]? = some (.str r tr) := by
      simp only [List.getElem?_toArray]; rw [List.getElem?_eq_getElem (by omega : i < vs.length), hvr]
    refine wpAny_pyNext_list_item hit hL' hv fun h₂ hit₂ hs₂ => ?_
    replace hs₂ : Heap.SameBut I h h₂ := hs₂
    refine wpAny_of_eq (rfl : letOwnedTupleGo (.Name x px) (.ref I) (.str r tr) = pure ()) ?_
    have hcell₂ : h₂.IsCell cc v := ⟨o', hs₂.extBut _ _ hcI (N' _ (.head _)).1, hod⟩
    refine wpAny_assign_Name (wpAny_storeName_cell hkf hx hcc hcell₂ fun h₃ hc₃ hs₃ => ?_)
    replace hs₃ : Heap.SameBut cc h₂ h₃ := hs₃
    obtain ⟨o₃, ho₃, hd₃⟩ := hc₃
    obtain ⟨oi, hoi, hi1, hi2⟩ := hit₂.extBut hs₃.extBut (Ne.symm hcI)
    have F₃ : Fr h₀ env.locals h₃ (fun z => if z = loc then u else m z) := ⟨F'.ns.at' fun o e => hs₃.extBut _ o (Ne.symm hcL) (hs₂.extBut _ o (Ne.symm hIL) e),
      fun b o e => hs₃.extBut b o (fun q => by rw [q, hc0] at e; cases e) (hs₂.extBut b o (fun q => by rw [q, hI0] at e; cases e) (F'.keep b o e)), F'.above⟩
    have N₃ : News h₀ env.locals h₃ ((I, oi) :: (cc, o₃) :: news) := fun p hp => by
      rcases List.mem_cons.mp hp with rfl | hp
      · exact ⟨hoi, hIL, hI0⟩
      rcases List.mem_cons.mp hp with rfl | hp
      · exact ⟨ho₃, hcL, hc0⟩
      · have z := N' p (.tail _ hp)
        exact ⟨hs₃.extBut _ _ (hcn p hp) (hs₂.extBut _ _ (Nat.ne_of_lt (hlt0 p (.tail _ hp))) z.1), z.2⟩
    have hltI : ∀ p ∈ (cc, o₃) :: news, p.1 < I := fun p hp => by
      rcases List.mem_cons.mp hp with rfl | hp
      · exact hlt0 (cc, oc) (.head _)
      · exact hlt0 p (.tail _ hp)
    refine wpAny_mono (turn r (List.mem_of_getElem? hxr) I oi o₃ tr u h₃ _ G' _ hbG hltI hd₃ F₃ N₃) (fun f s₂ q => ?_) fun _ _ e => e
    obtain ⟨rfl, h', tk', G'', u', rfl, hbG', F₄, N₄⟩ := q
    exact ⟨xs.length + 1 - (i + 1), by omega, i + 1, o₃, _, u', h', tk', G'', rfl, hlt, rfl, hbG', hd₃, ⟨oi, (N₄ _ (.head _)).1, hi1, hi2⟩, F₄, fun p hp => N₄ p (.tail _ hp)⟩
  · have hin : i = xs.length := by omega
    subst hin
    refine wpAny_pyNext_list_end hh hit hL' (by simp [hvl]) fun h₂ he₂ => ?_
    replace he₂ : Heap.ExtBut I h h₂ := he₂
    refine wpAny_execs_nil ?_
    exact done o' u h₂ tk G' v hbG hod ⟨F'.ns.at' fun o e => he₂ _ o (Ne.symm hIL) e, fun b o e => he₂ b o (fun q => by rw [q, hI0] at e; cases e) (F'.keep b o e), F'.above⟩
      fun p hp => ⟨he₂ _ _ (by
        rcases List.mem_cons.mp hp with rfl | hp
        · exact hcI
        · exact Nat.ne_of_lt (hlt0 p (.tail _ hp))) (N' p hp).1, (N' p hp).2⟩
end
end
section
theorem law_rows_any {w : World} {p : Program} {loose : List Str} {mean : ExcName → Option Value} {mg mb : Str → Option Value}
  (dp un : Nat) (gd : Option (List Code)) (cn : Str) (cs : Scope) (a : Addr) (ccd : Value) (cl : List (Str × Addr)) (outer : List Env) (A₀ : Around) (base h₀ : Heap) (L : Addr) (m : Str → Option Value) (s : Shared) (Q : Value → Shared → Prop) (E : Value → Shared → Prop) (news : List (Addr × Obj))
  (B : Below A₀ base outer h₀) (F : Fr h₀ L s.heap m) (X : (hd.heap_39 w.params).In h₀) (N : News h₀ L s.heap news) (T : Top p loose mean mg mb h₀) (hk : cs.kind = .function) (hd : dp < 500) (hu : un < 400) (M : Nat) (hM : M ≤ 5) (xi : Int) (ex : xi = (M : Int)) (t1 : Tok)
  (hret : ∀ q kk (ys : List Value) h' tk', Fr h₀ L h' m → News h₀ L h' ((q, listOf ys.toArray kk) :: news) → PyProof.Rows.StrsAre ys (rowsN M) → (∀ p ∈ news, p.1 < q) → Q (.ref q) { s with heap := h', toks := tk' }) :
  wpAny (model PySem.Challenge.rw_gl0007_01.row.prog w) (ktrTop dp un gd cn cs L a ccd cl outer) (call (.ref 82) [.int xi t1]) Q E s := by
  subst ex
  rcases (by omega : M = 0 ∨ M = 1 ∨ M = 2 ∨ M = 3 ∨ M = 4 ∨ M = 5) with rfl | rfl | rfl | rfl | rfl | rfl
  · exact law_rows0 dp un gd cn cs a ccd cl outer A₀ base h₀ L m s Q E news B F X N T hk hd hu t1 hret
  · exact law_rows1 dp un gd cn cs a ccd cl outer A₀ base h₀ L m s Q E news B F X N T hk hd hu t1 hret
  · exact law_rows2 dp un gd cn cs a ccd cl outer A₀ base h₀ L m s Q E news B F X N T hk hd hu t1 hret
  · exact law_rows3 dp un gd cn cs a ccd cl outer A₀ base h₀ L m s Q E news B F X N T hk hd hu t1 hret
  · exact law_rows4 dp un gd cn cs a ccd cl outer A₀ base h₀ L m s Q E news B F X N T hk hd hu t1 hret
  · exact law_rows5 dp un gd cn cs a ccd cl outer A₀ base h₀ L m s Q E news B F X N T hk hd hu t1 hret
theorem rowsN_codes (n : Nat) (r : PySem.Str) (h : r ∈ rowsN n) : ∀ (i c : Nat), r.cps[i]? = some c → c ≠ 92 ∧ c ≠ 34 ∧ c < 128 := fun i c e => by
  have z := (rowsN_each n r h).2 c (by
    have : r.cps.toList[i]? = some c := by simpa using e
    exact List.mem_of_getElem? this)
  simp at z
  omega
theorem rowsN_short (n : Nat) (hn : n ≤ 5) (r : PySem.Str) (h : r ∈ rowsN n) : r.length ≤ 1000 := by
  show r.cps.size ≤ 1000
  rw [(rowsN_each n r h).1]; omega
theorem held_assign {w : World} {p : Program} {loose : List Str} {mean : ExcName → Option Value} {mg mb : Str → Option Value}
  (dp un : Nat) (gd : Option (List Code)) (cn : Str) (cs : Scope) (a : Addr) (ccd : Value) (cl : List (Str × Addr)) (outer : List Env) (A₀ : Around) (base h₀ : Heap) (L : Addr) (m : Str → Option Value) (s : Shared) (Q : Value → Shared → Prop) (E : Value → Shared → Prop) (news : List (Addr × Obj))
  (B : Below A₀ base outer h₀) (F : Fr h₀ L s.heap m) (X : (hd.heap_39 w.params).In h₀) (N : News h₀ L s.heap news) (T : Top p loose mean mg mb h₀) (hk : cs.kind = .function) (hd : dp < 490) (hu : un < 390) (hb : AllBare s.gens) (M : Nat) (hM : M ≤ 5) (xi : Int) (ex : xi = (M : Int)) (tm : Tok) (hmany : m (Str.ofString "many") = some (.int xi tm))
  {scope : Scope} {cl' : List (Str × Addr)} {pe px p1 p2 p3 q1 q2 q3 py pos spos : Pos}
  (hsw : swapsWith (.ListComp (.Name (Str.ofString "row") pe) [⟨.Name (Str.ofString "row") px, .Call (.Name (Str.ofString "_law_rows") q1) [.Name (Str.ofString "many") q2] [] q3, [.Call (.Name (Str.ofString "_law_closes") p1) [.Name (Str.ofString "row") p2] [] p3], 0⟩] scope pos) (some (.Name (Str.ofString "held") py)) spos.line (envX cn cs L a ccd cl) = pure true)
  (hy' : (envX cn cs L a ccd cl).kindOf (Str.ofString "held") = some .local) (hkm : (envX cn cs L a ccd cl).kindOf (Str.ofString "many") = some .local) (hkr : (envX cn cs L a ccd cl).kindOf (Str.ofString "_law_rows") = some .globalImplicit)
  (hclos : closureFor scope (envX cn cs L a ccd cl) = pure cl') (hcell : ∀ y ∈ scope.names, y.2 ≠ .cell) (hkind : scope.kind = .function)
  (hnames : ∀ y ∈ scope.names, y.2 = .local → scope.names.lookup y.1 = some .local) (hx : scope.names.lookup (Str.ofString "row") = some .local)
  (hcx : ∀ C, (compEnvC scope cl' C (envX cn cs L a ccd cl)).kindOf (Str.ofString "_law_closes") = some .globalImplicit)
  (hfs : ∀ x, foldedSetIterable (.Call (.Name (Str.ofString "_law_rows") q1) [.Name (Str.ofString "many") q2] [] q3) (envX cn cs L a ccd cl) x = pure x)
  (Q' : Flow → Shared → Prop)
  (hret : ∀ D h' tk G (ys : List Value) k', Fr h₀ L h' (fun z => if z = Str.ofString "held" then some (.ref D) else m z) → News h₀ L h' ((D, listOf ys.toArray k') :: news) → PyProof.Rows.StrsAre ys ((rowsN M).filter closes) → AllBare G → (∀ p ∈ news, p.1 < D) → Q' .next { s with heap := h', toks := tk, gens := G }) :
  wpAny (model PySem.Challenge.rw_gl0007_01.row.prog w) (ktrTop dp un gd cn cs L a ccd cl outer) (exec (.Assign [.Name (Str.ofString "held") py] (.ListComp (.Name (Str.ofString "row") pe) [⟨.Name (Str.ofString "row") px, .Call (.Name (Str.ofString "_law_rows") q1) [.Name (Str.ofString "many") q2] [] q3, [.Call (.Name (Str.ofString "_law_closes") p1) [.Name (Str.ofString "row") p2] [] p3], 0⟩] scope pos) spos) (envX cn cs L a ccd cl)) Q' E s := by
  have fn : FnAt 82 s.heap := ⟨_, _, _, _, F.keep _ _ (X 82 _ rfl)⟩
  refine comp_textsA (h₀ := h₀) (L := L) (m := m) hsw hy' (by show (cs.kind == .class || (cs.kind == .module && L != mainGlobals)) = false; rw [hk]; rfl) rfl closes rfl hclos hcell hkind hnames hx (by decide +kernel) ?_ hfs
  refine Call_ (name_global hk hkr rfl F X T (v := .ref 82) (by kernel_rfl) (callWith_F fn (spliced_more (wpAny_Name (wpAny_loadName_local hk hkm F.ns hmany (spliced_none ⟨fn, ?_⟩)) (by decide +kernel)))))
  refine law_rows_any dp un gd cn cs a ccd cl outer A₀ base h₀ L m s _ E news B F X N T hk (by omega) (by omega) M hM xi ex tm ?_
  intro q kk ys h' tk' F' N' hS' hlt
  refine ⟨q, ys, rowsN M, kk, _, rfl, F', N', hb, List.mem_cons_self, hS', ?_, ?_, ?_⟩
  · rw [rowsN_length]
    have : 3 ^ M ≤ 3 ^ 5 := Nat.pow_le_pow_right (by decide) hM
    have : (3 : Nat) ^ 5 ≤ sizeLine := by decide
    omega
  · intro C y t s₃ own m₃ E' hy hb₃ F₃ N₃ hn₃ hv₃ _
    exact test_closes dp un gd cn cs a ccd cl outer A₀ base h₀ L m s₃ E' _ B F₃ X N₃ T hk (by omega) (by omega) hb₃ hn₃ hv₃ hkind (hcx C) (rowsN_short M hM y hy) hx
  · intro D h'' tk'' G ys' k' F₄ N₄ hS₄ hb₄ hlt₄
    exact hret D h'' tk'' G ys' k' F₄ (cb_drop N₄ (List.forall_mem_cons.mpr ⟨List.mem_cons_self, fun p hp => List.mem_cons_of_mem _ (List.mem_cons_of_mem _ hp)⟩)) hS₄ hb₄ fun p hp => hlt₄ p (List.mem_cons_of_mem _ hp)
end
section
theorem strs_nil {ys : List Value} (h : PyProof.Rows.StrsAre ys []) : ys = [] := by cases h; rfl
theorem held_bad {w : World} {p : Program} {loose : List Str} {mean : ExcName → Option Value} {mg mb : Str → Option Value}
  (dp un : Nat) (gd : Option (List Code)) (cn : Str) (cs : Scope) (a : Addr) (ccd : Value) (cl : List (Str × Addr)) (outer : List Env) (A₀ : Around) (base h₀ : Heap) (L : Addr) (m : Str → Option Value) (s : Shared) (Q : Value → Shared → Prop) (E : Value → Shared → Prop) (news : List (Addr × Obj))
  (B : Below A₀ base outer h₀) (F : Fr h₀ L s.heap m) (X : (hd.heap_39 w.params).In h₀) (N : News h₀ L s.heap news) (T : Top p loose mean mg mb h₀) (hk : cs.kind = .function) (hd : dp < 490) (hu : un < 390) (hb : AllBare s.gens) (ax : Addr) (vs : List Value) (k : Nat) (xs : List Str) (hm : (ax, listOf vs.toArray k) ∈ news) (hS : PyProof.Rows.StrsAre vs xs) (hlen : xs.length ≤ sizeLine)
  (hc : ∀ r ∈ xs, closes r = true) (hcodes : ∀ r ∈ xs, ∀ (i c : Nat), r.cps[i]? = some c → c ≠ 92 ∧ c ≠ 34 ∧ c < 128) (hheld : m (Str.ofString "held") = some (.ref ax))
  {scope : Scope} {cl' : List (Str × Addr)} {pe px p1 p2 p3 p4 q1 pos : Pos}
  (hkm : (envX cn cs L a ccd cl).kindOf (Str.ofString "held") = some .local)
  (hclos : closureFor scope (envX cn cs L a ccd cl) = pure cl') (hcell : ∀ y ∈ scope.names, y.2 ≠ .cell) (hkind : scope.kind = .function)
  (hnames : ∀ y ∈ scope.names, y.2 = .local → scope.names.lookup y.1 = some .local) (hx : scope.names.lookup (Str.ofString "row") = some .local)
  (hcx : ∀ C, (compEnvC scope cl' C (envX cn cs L a ccd cl)).kindOf (Str.ofString "_check_parenthesis") = some .globalImplicit)
  (hret : ∀ D h' tk G k', Fr h₀ L h' m → News h₀ L h' ((D, listOf #[] k') :: news) → AllBare G → (∀ p ∈ news, p.1 < D) → Q (.ref D) { s with heap := h', toks := tk, gens := G }) :
  wpAny (model PySem.Challenge.rw_gl0007_01.row.prog w) (ktrTop dp un gd cn cs L a ccd cl outer) (eval (.ListComp (.Name (Str.ofString "row") pe) [⟨.Name (Str.ofString "row") px, .Name (Str.ofString "held") q1, [.UnaryOp .Not (.Call (.Name (Str.ofString "_check_parenthesis") p1) [.Name (Str.ofString "row") p2] [] p3) p4], 0⟩] scope pos) (envX cn cs L a ccd cl)) Q E s := by
  refine comp_texts (h₀ := h₀) (L := L) (m := m) (fun y => !closes y) rfl hclos hcell hkind hnames hx (by decide +kernel) ?_ (fun _ => rfl)
  refine wpAny_Name (wpAny_loadName_local hk hkm F.ns hheld ?_) (by decide +kernel)
  refine ⟨ax, vs, xs, k, _, rfl, F, N, hb, hm, hS, hlen, ?_, ?_⟩
  · intro C y t s₃ own m₃ E' hy hb₃ F₃ N₃ hn₃ hv₃ _
    exact test_not_check dp un gd cn cs a ccd cl outer A₀ base h₀ L m s₃ E' _ B F₃ X N₃ T hk (by omega) (by omega) hb₃ hn₃ hv₃ hkind (hcx C) (hcodes y hy) hx
  · intro D h'' tk'' G ys' k' F₄ N₄ hS₄ hb₄ hlt₄
    have e : xs.filter (fun y => !closes y) = [] := List.filter_eq_nil_iff.mpr fun y hy => by simp [hc y hy]
    rw [e] at hS₄
    cases strs_nil hS₄
    exact hret D h'' tk'' G k' F₄ N₄ hb₄ hlt₄
/-- the last comp: rows where the two checks differ -/
theorem rows_differ {w : World} {p : Program} {loose : List Str} {mean : ExcName → Option Value} {mg mb : Str → Option Value}
  (dp un : Nat) (gd : Option (List Code)) (cn : Str) (cs : Scope) (a : Addr) (ccd : Value) (cl : List (Str × Addr)) (outer : List Env) (A₀ : Around) (base h₀ : Heap) (L : Addr) (m : Str → Option Value) (s : Shared) (Q : Value → Shared → Prop) (E : Value → Shared → Prop) (news : List (Addr × Obj))
  (B : Below A₀ base outer h₀) (F : Fr h₀ L s.heap m) (X : (hd.heap_39 w.params).In h₀) (N : News h₀ L s.heap news) (T : Top p loose mean mg mb h₀) (hk : cs.kind = .function) (hd : dp < 490) (hu : un < 390) (hb : AllBare s.gens) (M : Nat) (hM : M ≤ 5) (i1 : PySem.Expr)
  {scope : Scope} {cl' : List (Str × Addr)} {pe px p1 p2 p3 p4 p5 p6 p7 pos : Pos}
  (hclos : closureFor scope (envX cn cs L a ccd cl) = pure cl') (hcell : ∀ y ∈ scope.names, y.2 ≠ .cell) (hkind : scope.kind = .function)
  (hnames : ∀ y ∈ scope.names, y.2 = .local → scope.names.lookup y.1 = some .local) (hx : scope.names.lookup (Str.ofString "row") = some .local)
  (hcx : ∀ C, (compEnvC scope cl' C (envX cn cs L a ccd cl)).kindOf (Str.ofString "_law_closes") = some .globalImplicit) (hcx2 : ∀ C, (compEnvC scope cl' C (envX cn cs L a ccd cl)).kindOf (Str.ofString "_check_parenthesis") = some .globalImplicit)
  (hfs : ∀ x, foldedSetIterable i1 (envX cn cs L a ccd cl) x = pure x)
  (hi : ∀ (Q' : Value → Shared → Prop), (∀ q kk (ys : List Value) h' tk', Fr h₀ L h' m → News h₀ L h' ((q, listOf ys.toArray kk) :: news) → PyProof.Rows.StrsAre ys (rowsN M) → (∀ p ∈ news, p.1 < q) → Q' (.ref q) { s with heap := h', toks := tk' }) → wpAny (model PySem.Challenge.rw_gl0007_01.row.prog w) (ktrTop dp un gd cn cs L a ccd cl outer) (eval i1 (envX cn cs L a ccd cl)) Q' E s)
  (hret : ∀ D h' tk G k', Fr h₀ L h' m → News h₀ L h' ((D, listOf #[] k') :: news) → AllBare G → (∀ p ∈ news, p.1 < D) → Q (.ref D) { s with heap := h', toks := tk, gens := G }) :
  wpAny (model PySem.Challenge.rw_gl0007_01.row.prog w) (ktrTop dp un gd cn cs L a ccd cl outer) (eval (.ListComp (.Name (Str.ofString "row") pe) [⟨.Name (Str.ofString "row") px, i1, [.Compare (.Call (.Name (Str.ofString "_check_parenthesis") p1) [.Name (Str.ofString "row") p2] [] p3) [.NotEq] [.Call (.Name (Str.ofString "_law_closes") p4) [.Name (Str.ofString "row") p5] [] p6] p7], 0⟩] scope pos) (envX cn cs L a ccd cl)) Q E s := by
  refine comp_texts (h₀ := h₀) (L := L) (m := m) (fun _ => false) rfl hclos hcell hkind hnames hx (by decide +kernel) ?_ hfs
  refine hi _ ?_
  intro q kk ys h' tk' F' N' hS' hlt
  refine ⟨q, ys, rowsN M, kk, _, rfl, F', N', hb, List.mem_cons_self, hS', ?_, ?_, ?_⟩
  · rw [rowsN_length]
    have : 3 ^ M ≤ 3 ^ 5 := Nat.pow_le_pow_right (by decide) hM
    have : (3 : Nat) ^ 5 ≤ sizeLine := by decide
    omega
  · intro C y t s₃ own m₃ E' hy hb₃ F₃ N₃ hn₃ hv₃ hC
    exact test_differ dp un gd cn cs a ccd cl outer A₀ base h₀ L m s₃ E' _ B F₃ X N₃ T hk (by omega) (by omega) hb₃ hn₃ hv₃ hkind (hcx C) (rowsN_short M hM y hy) (rowsN_codes M y hy) hC (hcx2 C) hx
  · intro D h'' tk'' G ys' k' F₄ N₄ hS₄ hb₄ hlt₄
    rw [show (rowsN M).filter (fun _ => false) = [] from List.filter_eq_nil_iff.mpr fun _ _ => by simp] at hS₄
    cases strs_nil hS₄
    exact hret D h'' tk'' G k' F₄ (cb_drop N₄ (List.forall_mem_cons.mpr ⟨List.mem_cons_self, fun p hp => List.mem_cons_of_mem _ (List.mem_cons_of_mem _ hp)⟩)) hb₄ fun p hp => hlt₄ p (List.mem_cons_of_mem _ hp)
end
section
def intTest (q : Int → Bool) : Value → Bool
  | .int k _ => q k
  | _ => false
theorem ints_of {vs : List Value} {f : Nat → Int} (h : ∀ (j : Nat) (v : Value), vs[j]? = some v → ∃ t, v = Value.int (f j) t) : IntsAre vs ((List.range vs.length).map f) := by
  induction vs generalizing f with
  | nil => exact .nil
  | cons v vs ih =>
    obtain ⟨t, e⟩ := h 0 v (by simp)
    subst e
    rw [List.length_cons, List.range_succ_eq_map, List.map_cons, List.map_map]
    exact .cons _ _ (ih (f := f ∘ Nat.succ) fun j v e => h (j + 1) v (by simpa using e))
theorem ints_filter {vs : List Value} {ns : List Int} (q : Int → Bool) (h : IntsAre vs ns) : IntsAre (vs.filter (intTest q)) (ns.filter q) := by
  induction h with
  | nil => exact .nil
  | cons y t _ ih =>
    simp only [List.filter_cons]
    show IntsAre (if q y = true then _ else _) _
    split
    · exact .cons y t ih
    · exact ih
section
variable {prog : Program} {w : World} {A : Around} {E : Value → Shared → Prop} {env : Env} {s : Shared}
theorem walks_range {prog : Program} {w : World} {A : Around} (hh : A.handled = none) (I : Addr) (a c : Int) (n : Nat) :
    Walks prog w A I [I] [I] n (fun i v => i < n ∧ ∃ t, v = .int (a + i * c) t) (fun i h => IsRangeIter h I (a + (i : Nat) * c) ((n : Int) - (i : Nat)) c) where
  sub := (Walks.range (prog := prog) (w := w) hh I a c n).sub
  frame := (Walks.range (prog := prog) (w := w) hh I a c n).frame
  item := fun i s Q E hi st hQ => (Walks.range (prog := prog) (w := w) hh I a c n).item i s Q E hi st fun v h' tk hP => hQ v h' tk ⟨hi, hP⟩
  done := (Walks.range (prog := prog) (w := w) hh I a c n).done
  self := (Walks.range (prog := prog) (w := w) hh I a c n).self
/-- [x for x in range(1, n + 1) if c] -/
theorem comp_ints {iter c : PySem.Expr} {x : PySem.Str} {px pe : Pos} {scope : Scope} {cl : List (PySem.Str × Addr)} {pos : Pos} {h₀ : Heap} {L : Addr} {m : PySem.Str → Option Value} {Q : Value → Shared → Prop}
    (F9₀ : Fr h₀ L s.heap m) (q : Int → Bool) (hh : A.handled = none)
    (hclos : closureFor scope env = pure cl) (hcell : ∀ y ∈ scope.names, y.2 ≠ .cell) (hkind : scope.kind = .function)
    (hnames : ∀ y ∈ scope.names, y.2 = .local → scope.names.lookup y.1 = some .local) (hx : scope.names.lookup x = some .local) (hdb : (x == ("__debug__" : PySem.Str)) = false)
    (h : wpAny (model prog w) A (eval iter env) (fun xv s₁ => Stop (∃ (r : Addr) (n : Nat) (b : Int) (t u v : Tok) (news : List (Addr × Obj)), xv = .ref r ∧ b = (n : Int) + 1 ∧ IsRange s₁.heap r 1 b 1 t u v ∧ n ≤ 1000 ∧ Fr h₀ L s₁.heap m ∧ News h₀ L s₁.heap news ∧ AllBare s₁.gens ∧
      (∀ C (i : Nat) t s₃ own m₃ E', i < n → AllBare s₃.gens → Fr h₀ L s₃.heap m → News h₀ L s₃.heap (news ++ own) → s₃.heap.Ns C m₃ → m₃ x = some (Value.int (1 + (i : Int)) t) → (∀ o, s₃.heap.get? C = some o → (C, o) ∈ news ++ own) →
        wpAny (model prog w) A (isTrue c (compEnvC scope cl C env) (eval c (compEnvC scope cl C env))) (fun ok s₄ => ok = q (1 + (i : Int)) ∧ Stands h₀ L m (news ++ own) s₃ s₄) E' s₃) ∧
      (∀ D h' tk G (ys : List Value) k', Fr h₀ L h' m → News h₀ L h' ((D, listOf ys.toArray k') :: news) → IntsAre ys (((List.range n).map fun i : Nat => 1 + (i : Int)).filter q) → AllBare G → (∀ p ∈ news, p.1 < D) → Q (.ref D) { s₁ with heap := h', toks := tk, gens := G }))) E s)
    (hs : ∀ x, foldedSetIterable iter env x = pure x) :
    wpAny (model prog w) A (eval (.ListComp (.Name x pe) [⟨.Name x px, iter, [c], 0⟩] scope pos) env) Q E s := by
  refine comp_G (h₀ := h₀) (L := L) (m := m) (intTest q) (fun v y => y = v) hclos hcell hkind hnames hx (wpAny_mono h (fun xv s₁ h₁ => ?_) fun _ _ e => e) hs
  obtain ⟨r, n, b, t, u, v, news, rfl, rfl, hr, hn, F₁, N₁, hb, ht, hQ⟩ := h₁
  have hsz : Builtin.Range.rangeSize 1 ((n : Int) + 1) 1 = n := by rw [rangeSize_one]; split <;> omega
  refine wpAny_pyIter_range hr (small_one (by omega) (by omega) (by omega) (by omega)) ?_
  have W := walks_range (prog := prog) (w := w) hh s₁.heap.objs.size 1 1 n
  refine ⟨s₁.heap.objs.size, _, _, _, _, _, news, rfl, W, ?_, ?_, ?_, ?_, ?_, ?_, F₁.push _, (fun p hp => ⟨Heap.get?_push_of_some _ (N₁ p hp).1, (N₁ p hp).2⟩), hb, ?_, ?_, ?_⟩
  · have : (1000 : Nat) ≤ sizeLine := by decide
    omega
  · rw [hsz]
    exact Heap.get?_push_size _ (by rfl)
  · intro b hb
    rw [Heap.size_push]
    rw [List.mem_singleton.mp hb]; exact Nat.lt_succ_self _
  · intro hq
    exact absurd F₁.ns.lt (List.mem_singleton.mp hq ▸ Nat.lt_irrefl _)
  · intro b hb
    rw [List.mem_singleton.mp hb]
    cases e : h₀.get? s₁.heap.objs.size with
    | none => rfl
    | some o => exact absurd (Heap.lt_size (F₁.keep _ o e)) (Nat.lt_irrefl _)
  · intro p hp hq
    exact absurd (Heap.lt_size (N₁ p hp).1) (List.mem_singleton.mp hq ▸ Nat.lt_irrefl _)
  · intro C i v s₃ own m₃ E' hP hb' F' N' hn hv hC
    obtain ⟨hi, t, rfl⟩ := hP
    rw [Int.mul_one] at hv
    have e : intTest q (.int (1 + (i : Int) * 1) t) = q (1 + (i : Int)) := by rw [Int.mul_one]; rfl
    rw [e]
    exact wpAny_tests_one (ht C i t s₃ own m₃ E' hi hb' F' N' hn hv hC)
  · intro C i v s₃ own m₃ E' hP _ hb' F' N' hn hv hC
    exact wpAny_Name (wpAny_loadName_local hkind (lookup_relabel_local hx) hn hv ⟨rfl, _, _, _, rfl, F', N', hb'⟩) hdb
  · intro D h' tk G ys vs' hpl hlen' hP hF F' N' hb' hD0 hDL hlt
    obtain ⟨k', hk'⟩ := hpl
    have e2 := paired_eq hF
    have e3 : IntsAre vs' ((List.range n).map fun i : Nat => 1 + (i : Int)) := by
      rw [← hlen']
      exact ints_of fun j v e => by obtain ⟨_, t, ht⟩ := hP j v e; exact ⟨t, by rw [ht, Int.mul_one]⟩
    refine hQ D h' tk G ys.toList k' F' (fun p hp => ?_) (e2 ▸ ints_filter q e3) hb' hlt
    rcases List.mem_cons.mp hp with rfl | hp
    · exact ⟨by simpa using hk', hDL, hD0⟩
    · exact N' p hp
end
end
section
/-- the ends that the law looks for in a row -/
def endsOf (y : PySem.Str) (n : Nat) : List Int := ((List.range n).map fun i : Nat => 1 + (i : Int)).filter fun k => closes (Txt.slice y none (some (k + 1)))
def tame (y : PySem.Str) : Bool := y.cps.toList.all fun c => c != 92 && c != 34 && decide (c < 128)
theorem tame_of {y : PySem.Str} (h : tame y = true) : ∀ (i c : Nat), y.cps[i]? = some c → c ≠ 92 ∧ c ≠ 34 ∧ c < 128 := fun i c e => by
  have m : c ∈ y.cps.toList := List.mem_of_getElem? (by simpa using e : y.cps.toList[i]? = some c)
  have z := List.all_eq_true.mp h c m
  simpa [and_assoc] using z
def rowOk (n : Nat) (y : PySem.Str) : Bool :=
  if (Txt.slice y none (some 1) == Str.ofString "(") = true then
    match n, endsOf y (n - 1) with
    | n' + 1, e :: _ => decide (0 ≤ e) && decide (e ≤ 1000) && closes (Txt.slice y (some 1) (some e)) && tame (Txt.slice y (some 1) (some e)) && closes (Txt.slice y (some (e + 1)) none) && tame (Txt.slice y (some (e + 1)) none)
    | _, _ => false
  else !(Txt.slice y none (some 1) == Str.ofString ")") && closes (Txt.slice y (some 1) none) && tame (Txt.slice y (some 1) none)
theorem rows_ok : (∀ y ∈ (rowsN 0).filter closes, rowOk 0 y = true) ∧ (∀ y ∈ (rowsN 1).filter closes, rowOk 1 y = true) ∧ (∀ y ∈ (rowsN 2).filter closes, rowOk 2 y = true) ∧ (∀ y ∈ (rowsN 3).filter closes, rowOk 3 y = true) := by decide +kernel
theorem rows_ok4 : (∀ y ∈ (rowsN 4).filter closes, rowOk 4 y = true) := by decide +kernel
theorem rows_ok5 : (∀ y ∈ (rowsN 5).filter closes, rowOk 5 y = true) := by decide +kernel
theorem rows_okN (M : Nat) (hM : M ≤ 5) : ∀ y ∈ (rowsN M).filter closes, rowOk M y = true := by
  rcases (by omega : M = 0 ∨ M = 1 ∨ M = 2 ∨ M = 3 ∨ M = 4 ∨ M = 5) with rfl | rfl | rfl | rfl | rfl | rfl
  · exact rows_ok.1
  · exact rows_ok.2.1
  · exact rows_ok.2.2.1
  · exact rows_ok.2.2.2
  · exact rows_ok4
  · exact rows_ok5
theorem rowOk_open {n : Nat} {y : PySem.Str} (h : rowOk n y = true) (g : (Txt.slice y none (some 1) == Str.ofString "(") = true) :
    ∃ n' e r, n = n' + 1 ∧ endsOf y n' = e :: r ∧ 0 ≤ e ∧ e ≤ 1000 ∧ closes (Txt.slice y (some 1) (some e)) = true ∧ tame (Txt.slice y (some 1) (some e)) = true ∧ closes (Txt.slice y (some (e + 1)) none) = true ∧ tame (Txt.slice y (some (e + 1)) none) = true := by
  unfold rowOk at h
  rw [if_pos g] at h
  split at h
  · rename_i e' r' e
    simp only [Bool.and_eq_true, decide_eq_true_eq] at h
    exact ⟨_, _, _, rfl, by simpa using e, by simp_all⟩
  · cases h
theorem rowOk_other {n : Nat} {y : PySem.Str} (h : rowOk n y = true) (g : (Txt.slice y none (some 1) == Str.ofString "(") = false) :
    (Txt.slice y none (some 1) == Str.ofString ")") = false ∧ closes (Txt.slice y (some 1) none) = true ∧ tame (Txt.slice y (some 1) none) = true := by
  unfold rowOk at h
  rw [if_neg (by rw [g]; decide)] at h
  simp only [Bool.and_eq_true, Bool.not_eq_true'] at h
  exact ⟨h.1.1, h.1.2, h.2⟩
theorem run_strike : ∀ (l : List Nat) (d : Int), 0 ≤ d → run d ((l.filter (· != 46)).map fun c : Nat => (c : Int)) = run d (l.map fun c : Nat => (c : Int))
  | [], _, _ => rfl
  | c :: r, d, hd => by
    by_cases h : c = 46
    · subst h
      rw [List.filter_cons_of_neg (by decide), List.map_cons, run_strike r d hd]
      simp only [run]
      rw [if_neg (by decide : ¬ ((46 : Nat) : Int) = 40), if_neg (by decide : ¬ ((46 : Nat) : Int) = 41), Int.add_zero, if_neg (by omega)]
    · rw [List.filter_cons_of_pos (by simpa using h), List.map_cons, List.map_cons]
      simp only [run]
      generalize d + (if (c : Int) = 40 then 1 else if (c : Int) = 41 then -1 else 0) = e
      by_cases he : e < 0
      · rw [if_pos he, if_pos he]
      · rw [if_neg he, if_neg he, run_strike r e (by omega)]
theorem closes_strike (x : PySem.Str) : closes (Txt.replace x (Str.ofString ".") (Str.ofString "")) = closes x := by
  unfold closes closesL KStt.codes
  rw [show Str.ofString "." = ⟨#[46]⟩ from by decide +kernel, show Str.ofString "" = ⟨#[]⟩ from by decide +kernel, replace_strikes, run_strike _ _ (by decide)]
theorem tame_strike {x : PySem.Str} (h : tame x = true) : tame (Txt.replace x (Str.ofString ".") (Str.ofString "")) = true := by
  unfold tame at *
  rw [show Str.ofString "." = ⟨#[46]⟩ from by decide +kernel, show Str.ofString "" = ⟨#[]⟩ from by decide +kernel, replace_strikes]
  exact List.all_eq_true.mpr fun c hc => List.all_eq_true.mp h c (List.mem_filter.mp hc).1
end
section
/-- no run gives a token back -/
theorem runs_toks {M : Model} {Γ : PySem.Ctx} {p : Pos} {t : Sem Fin} {fs : List Frame} {s s' : Shared} {e : End} (h : Runs M Γ p t fs s e s') : s.toks ≤ s'.toks := by
  induction h <;> (try simp only [Shared.setGen] at *) <;> first | exact Nat.le_refl _ | assumption | omega
theorem wakes_toks {M : Model} {Γ : PySem.Ctx} {p : Pos} {g : Nat} {r : Resume} {s s' : Shared} {res : GenResult} (h : Wakes M Γ p g r s res s') : s.toks ≤ s'.toks := by
  unfold Wakes at h
  split at h
  · exact h.elim
  · split at h
    · obtain ⟨e₁, s₁, hr, _, _, rfl⟩ := h
      have z := runs_toks hr
      exact z
    · exact h.2 ▸ Nat.le_refl _
    · exact h.2 ▸ Nat.le_refl _
  · obtain ⟨e₁, s₁, hr, _, _, rfl⟩ := h
    have z := runs_toks hr
    exact z
  · exact h.2 ▸ Nat.le_refl _
  · exact h.2 ▸ Nat.le_refl _
theorem wp_toks {α : Type} {M : Model} {Γ : PySem.Ctx} (t : Sem α) : ∀ (Q : α → Pos → Shared → Prop) (E : Value → Pos → Shared → Prop) (p : Pos) (s : Shared), Sem.wp M Γ t Q E p s → Sem.wp M Γ t (fun a p' s' => Q a p' s' ∧ s.toks ≤ s'.toks) E p s := by
  induction t with
  | pure a => intro Q E p s h; simp only [Sem.wp] at h ⊢; exact ⟨h, Nat.le_refl _⟩
  | load a part k ih => intro Q E p s h; simp only [Sem.wp] at h ⊢; obtain ⟨o, e, h⟩ := h; exact ⟨o, e, ih _ _ _ _ _ h⟩
  | update a part f k ih => intro Q E p s h; simp only [Sem.wp] at h ⊢; exact ⟨h.1, ih _ _ _ _ _ h.2⟩
  | choose src n k ih => intro Q E p s h; simp only [Sem.wp] at h ⊢; exact ⟨h.1, ih _ _ _ _ _ h.2⟩
  | genState g k ih => intro Q E p s h; simp only [Sem.wp] at h ⊢; obtain ⟨st, e, h⟩ := h; exact ⟨st, e, ih _ _ _ _ _ h⟩
  | fresh k ih => intro Q E p s h; simp only [Sem.wp] at h ⊢; exact Sem.wp_mono M Γ _ (fun a p' s' z => ⟨z.1, Nat.le_of_succ_le z.2⟩) (fun _ _ _ z => z) _ _ (ih _ _ _ _ _ h)
  | call c hh g l k ih =>
    intro Q E p s h; simp only [Sem.wp] at h ⊢
    obtain ⟨r, s₁, hr, h⟩ := h
    exact ⟨r, s₁, hr, Sem.wp_mono M Γ _ (fun a p' s' z => ⟨z.1, Nat.le_trans (runs_toks hr) z.2⟩) (fun _ _ _ z => z) _ _ (ih _ _ _ _ _ h)⟩
  | resume g r l k ih =>
    intro Q E p s h; simp only [Sem.wp] at h ⊢
    obtain ⟨res, s₁, hr, h⟩ := h
    exact ⟨res, s₁, hr, Sem.wp_mono M Γ _ (fun a p' s' z => ⟨z.1, Nat.le_trans (wakes_toks hr) z.2⟩) (fun _ _ _ z => z) _ _ (ih _ _ _ _ _ h)⟩
  | _ => 
    intro Q E p s h
    first
      | (simp only [Sem.wp] at h; done)
      | (simp only [Sem.wp] at h ⊢; exact h)
      | (rename_i ih; simp only [Sem.wp] at h ⊢; exact ih _ _ _ _ _ h)
theorem wpAny_toks {α : Type} {M : Model} {A : Around} {t : Sem α} {Q : α → Shared → Prop} {E : Value → Shared → Prop} {s : Shared} (h : wpAny M A t Q E s) : wpAny M A t (fun a s' => Q a s' ∧ s.toks ≤ s'.toks) E s :=
  fun Γ p hΓ => wp_toks t _ _ _ _ (h Γ p hΓ)
end
section
/-- _law_closes(row[:k + 1]) in the comp of the ends -/
theorem test_cut {w : World} {p : Program} {loose : List Str} {mean : ExcName → Option Value} {mg mb : Str → Option Value}
  (dp un : Nat) (gd : Option (List Code)) (cn : Str) (cs : Scope) (a : Addr) (ccd : Value) (cl : List (Str × Addr)) (outer : List Env) (A₀ : Around) (base h₀ : Heap) (L : Addr) (m : Str → Option Value) (s : Shared) (E : Value → Shared → Prop) (news : List (Addr × Obj))
  (B : Below A₀ base outer h₀) (F : Fr h₀ L s.heap m) (X : (hd.heap_39 w.params).In h₀) (N : News h₀ L s.heap news) (T : Top p loose mean mg mb h₀) (hk : cs.kind = .function) (hd : dp < 500) (hu : un < 500) (hb : AllBare s.gens)
  {scope : Scope} {cl' : List (Str × Addr)} {C : Addr} {y : Str} {t tk : Tok} {j : Int} {p1 p2 p3 p4 p5 p6 p7 p8 : Pos} {n1 : Nat} {m₃ : Str → Option Value} {c : Addr} {o : Obj} (hn : s.heap.Ns C m₃) (hv : m₃ (Str.ofString "k") = some (.int j tk))
  (hks : scope.kind = .function) (hx : (compEnvC scope cl' C (envX cn cs L a ccd cl)).kindOf (Str.ofString "_law_closes") = some .globalImplicit) (hyl : y.length ≤ 1000) (hkk : scope.names.lookup (Str.ofString "k") = some .local)
  (hr : (compEnvC scope cl' C (envX cn cs L a ccd cl)).kindOf (Str.ofString "row") = some .cell) (hc : cl'.lookup (Str.ofString "row") = some c) (hm : (c, o) ∈ news) (hod : o.data = .cell (some (.str y t))) :
  wpAny (model PySem.Challenge.rw_gl0007_01.row.prog w) (ktrTop dp un gd cn cs L a ccd cl outer)
    (isTrue (.Call (.Name (Str.ofString "_law_closes") p1) [.Subscript (.Name (Str.ofString "row") p2) (.Slice none (some (.BinOp (.Name (Str.ofString "k") p4) .Add (.Constant (.int 1) n1 p5) p6)) none p7) p8] [] p3) (compEnvC scope cl' C (envX cn cs L a ccd cl)) (eval (.Call (.Name (Str.ofString "_law_closes") p1) [.Subscript (.Name (Str.ofString "row") p2) (.Slice none (some (.BinOp (.Name (Str.ofString "k") p4) .Add (.Constant (.int 1) n1 p5) p6)) none p7) p8] [] p3) (compEnvC scope cl' C (envX cn cs L a ccd cl))))
    (fun ok s₄ => ok = closes (Txt.slice y none (some (j + 1))) ∧ Stands h₀ L m news s s₄) E s := by
  have fn : ∀ h', Fr h₀ L h' m → FnAt 96 h' := fun h' F => ⟨_, _, _, _, F.keep _ _ (X 96 _ rfl)⟩
  have hsz : y.length ≤ sizeLine := Nat.le_trans hyl (by decide)
  refine wpAny_isTrue_value (Call_ (name_global hks hx rfl F X T (v := .ref 96) (by kernel_rfl) (callWith_F (fn _ F) (spliced_more ?_)))) rfl
  refine Subscript_Slice (lcf_cell N hc hm hod ?_ hks hr) (by intro _ _; rfl)
  refine wpAny_Slice (evalPart_none_step (evalPart_some_step (wpAny_BinOp (wpAny_Name (wpAny_loadName_local hks (lookup_relabel_local hkk) hn hv ?_) (by decide +kernel)))))
  refine wpAny_Constant_int (wpAny_add_int (evalPart_none_step ?_))
  refine SBH.sliceItem_ns (s := ⟨_, _, _, _, _⟩) keptFrN ⟨F, N⟩ (fun h' t' k' FN => ?_) hsz
  obtain ⟨F', N'⟩ := FN
  refine spliced_none ⟨fn _ F', ?_⟩
  refine closes_call dp un gd cn cs a ccd cl outer A₀ base h₀ L m _ _ E news B F' X N' T hk hd hu (Txt.slice y none (some (j + 1))) t' (Nat.le_trans (PyProof.Txt.length_slice_le y _ _) hyl) ?_
  intro h'' tk'' F'' N''
  exact wpAny_truthy_bool ⟨rfl, _, _, _, rfl, F'', N'', hb⟩
end
section
/-- a value that holds one of the three signs -/
def IsSign (_ v : Value) : Prop := ∃ (t : Tok) (c : Nat), v = .str ⟨#[c]⟩ t ∧ (c = 40 ∨ c = 41 ∨ c = 46)
theorem paired_signs {l₁ l₂ : List Value} (h : Paired IsSign l₁ l₂) : ∃ cs : List Nat, PyProof.Rows.StrsAre l₂ (cs.map fun c => (⟨#[c]⟩ : Str)) ∧ cs.length = l₁.length ∧ ∀ c ∈ cs, c = 40 ∨ c = 41 ∨ c = 46 := by
  induction h with
  | nil => exact ⟨[], .nil, rfl, fun _ h => nomatch h⟩
  | cons e _ ih =>
    obtain ⟨cs, h1, h2, h3⟩ := ih
    obtain ⟨t, c, rfl, hc⟩ := e
    refine ⟨c :: cs, .cons _ _ h1, by simp [h2], fun d hd => ?_⟩
    rcases List.mem_cons.mp hd with rfl | hd
    · exact hc
    · exact h3 d hd
theorem sign_at (n : Int) : ∃ c : Nat, Txt.item (Str.ofString "().") (n.fmod 3) = ⟨#[c]⟩ ∧ (c = 40 ∨ c = 41 ∨ c = 46) := by
  have h0 := Int.fmod_nonneg_of_pos n (b := 3) (by decide)
  have h1 := Int.fmod_lt_of_pos n (b := 3) (by decide)
  generalize n.fmod 3 = k at *
  rcases (by omega : k = 0 ∨ k = 1 ∨ k = 2) with rfl | rfl | rfl
  · exact ⟨40, by decide +kernel, by decide⟩
  · exact ⟨41, by decide +kernel, by decide⟩
  · exact ⟨46, by decide +kernel, by decide⟩
theorem ints_at {vs : List Value} {ns : List Int} (h : IntsAre vs ns) : ∀ {i : Nat} {v : Value}, vs[i]? = some v → ∃ n t, v = Value.int n t := by
  induction h with
  | nil => intro i v e; simp at e
  | cons n t _ ih =>
    intro i v e
    cases i with
    | zero => simp at e; exact ⟨n, t, e.symm⟩
    | succ i => exact ih (by simpa using e)
section
variable {prog : Program} {w : World} {A : Around} {E : Value → Shared → Prop} {env : Env} {s : Shared}
/-- ['().'[x % 3] for x in a list of ints of nine or fewer] -/
theorem comp_drawn {iter : PySem.Expr} {x : PySem.Str} {px pe pc pt pb ps : Pos} {n1 n2 : Nat} {scope : Scope} {cl : List (PySem.Str × Addr)} {pos : Pos} {h₀ : Heap} {L : Addr} {m : PySem.Str → Option Value} {Q : Value → Shared → Prop}
    (F9₀ : Fr h₀ L s.heap m) (hh : A.handled = none)
    (hclos : closureFor scope env = pure cl) (hcell : ∀ y ∈ scope.names, y.2 ≠ .cell) (hkind : scope.kind = .function)
    (hnames : ∀ y ∈ scope.names, y.2 = .local → scope.names.lookup y.1 = some .local) (hx : scope.names.lookup x = some .local) (hdb : (x == ("__debug__" : PySem.Str)) = false)
    (h : wpAny (model prog w) A (eval iter env) (fun xv s₁ => Stop (∃ (ax : Addr) (vs : List Value) (ns : List Int) (k : Nat) (news : List (Addr × Obj)), xv = .ref ax ∧ Fr h₀ L s₁.heap m ∧ News h₀ L s₁.heap news ∧ AllBare s₁.gens ∧ (ax, listOf vs.toArray k) ∈ news ∧ IntsAre vs ns ∧ vs.length ≤ 1000 ∧
      (∀ D h' tk G (ys : List Value) k' (cs : List Nat), Fr h₀ L h' m → News h₀ L h' ((D, listOf ys.toArray k') :: news) → PyProof.Rows.StrsAre ys (cs.map fun c => (⟨#[c]⟩ : Str)) → cs.length = vs.length → (∀ c ∈ cs, c = 40 ∨ c = 41 ∨ c = 46) → AllBare G → (∀ p ∈ news, p.1 < D) → Q (.ref D) { s₁ with heap := h', toks := tk, gens := G }))) E s)
    (hs : ∀ x, foldedSetIterable iter env x = pure x) :
    wpAny (model prog w) A (eval (.ListComp (.Subscript (.Constant (.str (Str.ofString "().")) n1 pc) (.BinOp (.Name x pe) .Mod (.Constant (.int 3) n2 pt) pb) ps) [⟨.Name x px, iter, [], 0⟩] scope pos) env) Q E s := by
  refine comp_G (h₀ := h₀) (L := L) (m := m) (fun _ => true) IsSign hclos hcell hkind hnames hx (wpAny_mono h (fun xv s₁ h₁ => ?_) fun _ _ e => e) hs
  obtain ⟨ax, vs, ns, k, news, rfl, F₁, N₁, hb, hm, hS, hlen, hQ⟩ := h₁
  have hget := (N₁ _ hm).1
  have hL : s₁.heap.IsList ax vs.toArray := ⟨_, hget, rfl, k, rfl⟩
  have hax : ax < s₁.heap.objs.size := Heap.lt_size hget
  have hne : ax ≠ s₁.heap.objs.size := Nat.ne_of_lt hax
  refine wpAny_pyIter_list hL ?_
  have W := Walks.list (prog := prog) (w := w) hh s₁.heap.objs.size ax hne vs.toArray
  refine ⟨s₁.heap.objs.size, _, _, _, _, _, news, rfl, W, ?_, ⟨⟨_, Heap.get?_push_size _ rfl, rfl, rfl⟩, hL.at fun o e => Heap.get?_push_of_some _ e⟩, ?_, ?_, ?_, ?_, F₁.push _, (fun p hp => ⟨Heap.get?_push_of_some _ (N₁ p hp).1, (N₁ p hp).2⟩), hb, ?_, ?_, ?_⟩
  · rw [List.size_toArray]
    have : (1000 : Nat) ≤ sizeLine := by decide
    omega
  · intro b hb
    rw [Heap.size_push]
    rcases List.mem_cons.mp hb with rfl | hb
    · exact Nat.lt_succ_self _
    · rw [List.mem_singleton.mp hb]; exact Nat.lt_succ_of_lt hax
  · intro hq
    rcases List.mem_cons.mp hq with e | hq
    · exact absurd F₁.ns.lt (e ▸ Nat.lt_irrefl _)
    · exact (N₁ _ hm).2.1 (List.mem_singleton.mp hq).symm
  · intro b hb
    rw [List.mem_singleton.mp hb]
    cases e : h₀.get? s₁.heap.objs.size with
    | none => rfl
    | some o => exact absurd (Heap.lt_size (F₁.keep _ o e)) (Nat.lt_irrefl _)
  · intro p hp hq
    exact absurd (Heap.lt_size (N₁ p hp).1) (List.mem_singleton.mp hq ▸ Nat.lt_irrefl _)
  · intro C i v s₃ own m₃ E' hP hb' F' N' hn hv hC
    exact wpAny_pure ⟨rfl, _, _, _, rfl, F', N', hb'⟩
  · intro C i v s₃ own m₃ E' hP _ hb' F' N' hn hv hC
    obtain ⟨n, t, rfl⟩ := ints_at hS (by simpa using hP)
    have h0 := Int.fmod_nonneg_of_pos n (b := 3) (by decide)
    have h1 := Int.fmod_lt_of_pos n (b := 3) (by decide)
    obtain ⟨c, ec, hc⟩ := sign_at n
    refine Subscript_ (Calls.Constant_str (wpAny_BinOp (wpAny_Name (wpAny_loadName_local hkind (lookup_relabel_local hx) hn hv (wpAny_Constant_int (mod_int (by decide) ?_))) hdb)))
    refine KXi.item (n := 3) (by decide +kernel) (by omega) (by omega) (by decide) fun _ => ?_
    rw [ec]
    exact ⟨⟨_, c, rfl, hc⟩, _, _, _, rfl, F', N', hb'⟩
  · intro D h' tk G ys vs' hpl hlen' hP hF F' N' hb' hD0 hDL hlt
    obtain ⟨k', hk'⟩ := hpl
    obtain ⟨cs, c1, c2, c3⟩ := paired_signs hF
    refine hQ D h' tk G ys.toList k' cs F' (fun p hp => ?_) c1 ?_ c3 hb' hlt
    · rcases List.mem_cons.mp hp with rfl | hp
      · exact ⟨by simpa using hk', hDL, hD0⟩
      · exact N' p hp
    · rw [c2, List.filter_eq_self.mpr fun _ _ => rfl, hlen', List.size_toArray]
theorem join_drawn {D : Addr} {ys : List Value} {k : Nat} {cs : List Nat} {t : Tok} {Q : Value → Shared → Prop} {h₀ : Heap} {L : Addr} {news : List (Addr × Obj)} (N : News h₀ L s.heap news) (hm : (D, listOf ys.toArray k) ∈ news) (hS : PyProof.Rows.StrsAre ys (cs.map fun c => (⟨#[c]⟩ : Str))) (hlen : cs.length ≤ 1000)
    (h : ∀ t' k', Q (.str ⟨cs.toArray⟩ t') { s with toks := k' }) : wpAny (model prog w) A (call (.builtin "str.join") [.str (Str.ofString "") t, .ref D]) Q E s := by
  have e0 : Str.ofString "" = ⟨#[]⟩ := by decide +kernel
  have e1 : ∀ cs : List Nat, ((cs.map fun c => (⟨#[c]⟩ : Str)).map (·.length)).sum = cs.length := by
    intro cs
    induction cs with
    | nil => rfl
    | cons c r ih => simp only [List.map_cons, List.sum_cons, List.length_cons, ih]; show 1 + _ = _; omega
  have e2 : Txt.join (Str.ofString "") (cs.map fun c => (⟨#[c]⟩ : Str)) = ⟨cs.toArray⟩ := by
    rw [e0]
    exact (StrLaws.glued_eq_join _ _).trans (join_ones cs)
  refine join_list (items := ys.toArray) (ys := cs.map fun c => (⟨#[c]⟩ : Str)) ⟨_, (N _ hm).1, rfl, k, rfl⟩ (by simpa using hS) ?_ fun t' k' => ?_
  · rw [e1, e0, List.length_map]
    show cs.length + cs.length * 0 ≤ _
    omega
  · rw [e2]; exact h t' k'
end
theorem tame_drawn {cs : List Nat} (h : ∀ c ∈ cs, c = 40 ∨ c = 41 ∨ c = 46) : tame ⟨cs.toArray⟩ = true := by
  refine List.all_eq_true.mpr fun c hc => ?_
  rcases h c (by simpa using hc) with rfl | rfl | rfl <;> decide
end
section
theorem execs_app (l₁ l₂ : List Stmt) (env : Env) : execs (l₁ ++ l₂) env = (do
    let f ← execs l₁ env
    match f with
    | .next => execs l₂ env
    | f => pure f) := by
  induction l₁ with
  | nil => show _ = (pure Flow.next >>= _); rw [pure_bind]; rfl
  | cons st r ih =>
    show (do match ← exec st env with | .next => execs (r ++ l₂) env | f => pure f) = _
    show _ = ((do match ← exec st env with | .next => execs r env | f => pure f) >>= _)
    rw [bind_assoc]
    congr 1
    funext f
    cases f with
    | next => exact ih
    | brk => simp
    | cont => simp
    | ret v => simp
theorem execs_split {M : Model} {A : Around} {E : Value → Shared → Prop} {s : Shared} {Q : Flow → Shared → Prop} {env : Env} (k : Nat) (P : Shared → Prop) {l : List Stmt} (h₂ : ∀ s', P s' → wpAny M A (execs (l.drop k) env) Q E s')
    (h₁ : wpAny M A (execs (l.take k) env) (fun f s' => f = .next ∧ P s') E s) : wpAny M A (execs l env) Q E s := by
  have e : execs l env = (do
      let f ← execs (l.take k) env
      match f with
      | .next => execs (l.drop k) env
      | f => pure f) := by rw [← execs_app, List.take_append_drop]
  rw [e]
  exact wpAny_bind (wpAny_mono h₁ (fun f s' h => by obtain ⟨rfl, h⟩ := h; exact h₂ s' h) fun _ _ e => e)
theorem rot3 {h₀ h : Heap} {L : Addr} {a b c : Addr × Obj} (N : News h₀ L h [a, b, c]) : News h₀ L h [b, c, a] := by
  intro p hp
  refine N p ?_
  simp only [List.mem_cons, List.not_mem_nil, or_false] at hp ⊢
  rcases hp with h | h | h <;> simp [h]
/-- after the first statement: many stands in 0..5 -/
def AfterSum (h₀ : Heap) (L : Addr) (m : PySem.Str → Option Value) (news : List (Addr × Obj)) (s s' : Shared) : Prop :=
  ∃ (M : Int) (t : Tok) (h' : Heap) (tk : Nat), (0 ≤ M ∧ M ≤ 5) ∧ s' = { s with heap := h', toks := tk } ∧ Fr h₀ L h' (fun y => if y = Str.ofString "many" then some (.int M t) else m y) ∧ News h₀ L h' news
theorem afterSum_of {h₀ h' : Heap} {L : Addr} {m : PySem.Str → Option Value} {news : List (Addr × Obj)} {s : Shared} {x : Int} {t : Tok} {tk : Nat}
    (F : Fr h₀ L h' (fun y => if y = Str.ofString "many" then some (.int (x.fmod 6) t) else m y)) (N : News h₀ L h' news) : AfterSum h₀ L m news s { s with heap := h', toks := tk } := by
  have h0 := Int.fmod_nonneg_of_pos x (b := 6) (by decide)
  have h1 := Int.fmod_lt_of_pos x (b := 6) (by decide)
  exact ⟨x.fmod 6, t, h', tk, by omega, rfl, F, N⟩
theorem after_sum {M : Model} {A : Around} {E : Value → Shared → Prop} {s : Shared} {Q : Flow → Shared → Prop} {env : Env} {l : List Stmt} {h₀ : Heap} {L : Addr} {m : PySem.Str → Option Value} {news : List (Addr × Obj)} (F : Fr h₀ L s.heap m) (N : News h₀ L s.heap news)
    (h₁ : wpAny M A (execs (l.take 1) env) (fun f s' => f = .next ∧ AfterSum h₀ L m news s s') E s)
    (h₂ : ∀ (k : Int) (t : Tok) (h' : Heap) (tk : Nat), 0 ≤ k ∧ k ≤ 5 → Fr h₀ L h' (fun y => if y = Str.ofString "many" then some (.int k t) else m y) → News h₀ L h' news → wpAny M A (execs (l.drop 1) env) Q E { s with heap := h', toks := tk }) : wpAny M A (execs l env) Q E s :=
  execs_split 1 (AfterSum h₀ L m news s) (fun s' ⟨k, t, h', tk, hk, e, F', N'⟩ => e ▸ h₂ k t h' tk hk F' N') h₁
/-- what stands before the loop over held -/
def Mid (h₀ : Heap) (L rc : Addr) (os : OsState) (s' : Shared) : Prop :=
  ∃ (M : Nat) (xi : Int) (tm : Tok) (D : Addr) (ys : List Value) (k : Nat) (ro : Obj) (v0 : Option Value) (ps qs : Array Value) (m' : PySem.Str → Option Value) (S : Addr) (vs : List Value) (ns : List Int), M ≤ 5 ∧ xi = (M : Int) ∧ m' (Str.ofString "many") = some (.int xi tm) ∧ m' (Str.ofString "held") = some (.ref D) ∧ m' (Str.ofString "script") = some (.ref S) ∧
    h₀.IsList S vs.toArray ∧ IntsAre vs ns ∧ vs.length ≤ 1000 ∧ PyProof.Rows.StrsAre ys ((rowsN M).filter closes) ∧ ro.data = .cell v0 ∧ @LT.lt Nat _ rc D ∧ Fr h₀ L s'.heap m' ∧ News h₀ L s'.heap [(rc, ro), (D, listOf ys.toArray k), (58, tabObj ps), (51, tabObj qs)] ∧ AllBare s'.gens ∧ s'.os = os

theorem news4 {h₀ h : Heap} {L : Addr} {a b c d : Addr × Obj} {l : List (Addr × Obj)} (N : News h₀ L h l) (ha : a ∈ l) (hb : b ∈ l) (hc : c ∈ l) (hd : d ∈ l) : News h₀ L h [a, b, c, d] := fun p hp => by
  rcases List.mem_cons.mp hp with rfl | hp
  · exact N _ ha
  rcases List.mem_cons.mp hp with rfl | hp
  · exact N _ hb
  rcases List.mem_cons.mp hp with rfl | hp
  · exact N _ hc
  rcases List.mem_cons.mp hp with rfl | hp
  · exact N _ hd
  · cases hp
theorem Mid.of {h₀ : Heap} {L rc D S : Addr} {os : OsState} {s' : Shared} (M : Nat) (hM : M ≤ 5) (tm : Tok) {ys : List Value} {k : Nat} {ro : Obj} {v0 : Option Value} {ps qs : Array Value} {m' : PySem.Str → Option Value} {vs : List Value} {ns : List Int} (F : Fr h₀ L s'.heap m') (hS : PyProof.Rows.StrsAre ys ((rowsN M).filter closes)) (hL : h₀.IsList S vs.toArray) (hI : IntsAre vs ns)
    (e1 : m' (Str.ofString "many") = some (.int (M : Int) tm)) (e2 : m' (Str.ofString "held") = some (.ref D)) (e3 : m' (Str.ofString "script") = some (.ref S)) (hl : vs.length ≤ 1000) (hro : ro.data = .cell v0) (hD : @LT.lt Nat _ rc D)
    (N : News h₀ L s'.heap [(rc, ro), (D, listOf ys.toArray k), (58, tabObj ps), (51, tabObj qs)]) (hb : AllBare s'.gens) (hos : s'.os = os) : Mid h₀ L rc os s' :=
  ⟨M, _, tm, D, ys, k, ro, v0, ps, qs, m', S, vs, ns, hM, rfl, e1, e2, e3, hL, hI, hl, hS, hro, hD, F, N, hb, hos⟩
theorem ints_short {vs : List Value} {ns : List Int} (h : IntsAre vs ns) (hl : ns.length ≤ 1000) : vs.length ≤ 1000 := by rw [h.length]; exact hl
theorem check_true {w : World} {p : Program} {loose : List Str} {mean : ExcName → Option Value} {mg mb : Str → Option Value}
  (dp un : Nat) (gd : Option (List Code)) (cn : Str) (cs : Scope) (a : Addr) (ccd : Value) (cl : List (Str × Addr)) (outer : List Env) (A₀ : Around) (base h₀ : Heap) (L : Addr) (m : Str → Option Value) (s : Shared) (Q : Value → Shared → Prop) (E : Value → Shared → Prop) (news : List (Addr × Obj))
  (B : Below A₀ base outer h₀) (F : Fr h₀ L s.heap m) (X : (hd.heap_39 w.params).In h₀) (N : News h₀ L s.heap news) (T : Top p loose mean mg mb h₀) (hk : cs.kind = .function)
  (hd : dp < 500) (hu : un < 500) (x : Str) (t : Tok) (hc : closes x = true) (hx : tame x = true) (hb : AllBare s.gens)
  (hret : ∀ h' tk' G', Fr h₀ L h' m → News h₀ L h' news → AllBare G' → Q (.bool true) { s with heap := h', toks := tk', gens := G' }) :
  wpAny (model PySem.Challenge.rw_gl0007_01.row.prog w) (ktrTop dp un gd cn cs L a ccd cl outer) (call (.ref 35) [.str x t]) Q E s :=
  check_call dp un gd cn cs a ccd cl outer A₀ base h₀ L m s Q E news B F X N T hk hd hu x t (tame_of hx) hb fun h' tk' G' F' N' hb' => hc ▸ hret h' tk' G' F' N' hb'
theorem check_is {w : World} {p : Program} {loose : List Str} {mean : ExcName → Option Value} {mg mb : Str → Option Value}
  (dp un : Nat) (gd : Option (List Code)) (cn : Str) (cs : Scope) (a : Addr) (ccd : Value) (cl : List (Str × Addr)) (outer : List Env) (A₀ : Around) (base h₀ : Heap) (L : Addr) (m : Str → Option Value) (s : Shared) (Q : Value → Shared → Prop) (E : Value → Shared → Prop) (news : List (Addr × Obj))
  (B : Below A₀ base outer h₀) (F : Fr h₀ L s.heap m) (X : (hd.heap_39 w.params).In h₀) (N : News h₀ L s.heap news) (T : Top p loose mean mg mb h₀) (hk : cs.kind = .function)
  (hd : dp < 500) (hu : un < 500) (x : Str) (t : Tok) (b : Bool) (hc : closes x = b) (hx : tame x = true) (hb : AllBare s.gens)
  (hret : ∀ h' tk' G', Fr h₀ L h' m → News h₀ L h' news → AllBare G' → Q (.bool b) { s with heap := h', toks := tk', gens := G' }) :
  wpAny (model PySem.Challenge.rw_gl0007_01.row.prog w) (ktrTop dp un gd cn cs L a ccd cl outer) (call (.ref 35) [.str x t]) Q E s :=
  check_call dp un gd cn cs a ccd cl outer A₀ base h₀ L m s Q E news B F X N T hk hd hu x t (tame_of hx) hb fun h' tk' G' F' N' hb' => hc ▸ hret h' tk' G' F' N' hb'
theorem check_tok {w : World} {p : Program} {loose : List Str} {mean : ExcName → Option Value} {mg mb : Str → Option Value}
  (dp un : Nat) (gd : Option (List Code)) (cn : Str) (cs : Scope) (a : Addr) (ccd : Value) (cl : List (Str × Addr)) (outer : List Env) (A₀ : Around) (base h₀ : Heap) (L : Addr) (m : Str → Option Value) (s : Shared) (Q : Value → Shared → Prop) (E : Value → Shared → Prop) (news : List (Addr × Obj))
  (B : Below A₀ base outer h₀) (F : Fr h₀ L s.heap m) (X : (hd.heap_39 w.params).In h₀) (N : News h₀ L s.heap news) (T : Top p loose mean mg mb h₀) (hk : cs.kind = .function)
  (hd : dp < 500) (hu : un < 500) (x : Str) (t : Tok) (b : Bool) (hc : closes x = b) (hx : tame x = true) (hb : AllBare s.gens)
  (hret : ∀ h' tk' G', s.toks ≤ tk' → Fr h₀ L h' m → News h₀ L h' news → AllBare G' → Q (.bool b) { s with heap := h', toks := tk', gens := G' }) :
  wpAny (model PySem.Challenge.rw_gl0007_01.row.prog w) (ktrTop dp un gd cn cs L a ccd cl outer) (call (.ref 35) [.str x t]) Q E s :=
  wpAny_mono (wpAny_toks (check_call dp un gd cn cs a ccd cl outer A₀ base h₀ L m s (fun v s' => ∃ h' tk' G', v = .bool b ∧ s' = { s with heap := h', toks := tk', gens := G' } ∧ Fr h₀ L h' m ∧ News h₀ L h' news ∧ AllBare G') E news B F X N T hk hd hu x t (tame_of hx) hb fun h' tk' G' F' N' hb' => ⟨h', tk', G', by rw [hc], rfl, F', N', hb'⟩))
    (fun v s' h => by
      obtain ⟨⟨h', tk', G', rfl, rfl, F', N', hb'⟩, hle⟩ := h
      exact hret h' tk' G' hle F' N' hb') fun _ _ e => e
theorem closes_is {w : World} {p : Program} {loose : List Str} {mean : ExcName → Option Value} {mg mb : Str → Option Value}
  (dp un : Nat) (gd : Option (List Code)) (cn : Str) (cs : Scope) (a : Addr) (ccd : Value) (cl : List (Str × Addr)) (outer : List Env) (A₀ : Around) (base h₀ : Heap) (L : Addr) (m : Str → Option Value) (s : Shared) (Q : Value → Shared → Prop) (E : Value → Shared → Prop) (news : List (Addr × Obj))
  (B : Below A₀ base outer h₀) (F : Fr h₀ L s.heap m) (X : (hd.heap_39 w.params).In h₀) (N : News h₀ L s.heap news) (T : Top p loose mean mg mb h₀) (hk : cs.kind = .function)
  (hd : dp < 500) (hu : un < 500) (x : Str) (t : Tok) (b : Bool) (hc : closes x = b) (hx : x.length ≤ 1000)
  (hret : ∀ h' tk', Fr h₀ L h' m → News h₀ L h' news → Q (.bool b) { s with heap := h', toks := tk' }) :
  wpAny (model PySem.Challenge.rw_gl0007_01.row.prog w) (ktrTop dp un gd cn cs L a ccd cl outer) (call (.ref 96) [.str x t]) Q E s :=
  closes_call dp un gd cn cs a ccd cl outer A₀ base h₀ L m s Q E news B F X N T hk hd hu x t hx fun h' tk' F' N' => hc ▸ hret h' tk' F' N'
theorem Fr.twice {h₀ h : Heap} {L : Addr} {m : Str → Option Value} {x : Str} {u v : Option Value} (F : Fr h₀ L h (fun z => if z = x then v else if z = x then u else m z)) : Fr h₀ L h (fun z => if z = x then v else m z) := by
  have : (fun z => if z = x then v else if z = x then u else m z) = (fun z => if z = x then v else m z) := by
    funext z
    by_cases q : z = x
    · rw [if_pos q, if_pos q]
    · rw [if_neg q, if_neg q, if_neg q]
  rw [this] at F; exact F
theorem ints_cons {ys : List Value} {e : Int} {r : List Int} (h : IntsAre ys (e :: r)) : ∃ t ys', ys = .int e t :: ys' := by cases h; exact ⟨_, _, rfl⟩
end
section
def mz (n : Nat) : Int := motz6.getD n 0
theorem mz_small (n : Nat) : 0 ≤ mz n ∧ mz n ≤ 21 := by
  rcases (by omega : n = 0 ∨ n = 1 ∨ n = 2 ∨ n = 3 ∨ n = 4 ∨ n = 5 ∨ 6 ≤ n) with rfl | rfl | rfl | rfl | rfl | rfl | h
  iterate 6 decide
  · show 0 ≤ ((motz6[n]?).getD 0) ∧ ((motz6[n]?).getD 0) ≤ 21
    rw [List.getElem?_eq_none (by exact h)]; decide
theorem mz_at1 (i : Nat) (hi : 1 ≤ i ∧ i ≤ 3) : (motz6.take (i + 2))[(motz6.take (i + 2)).length - 1]? = some (mz (i + 1)) := by
  rcases (by omega : i = 1 ∨ i = 2 ∨ i = 3) with rfl | rfl | rfl <;> rfl
theorem mz_at2 (i : Nat) (hi : 1 ≤ i ∧ i ≤ 3) : (motz6.take (i + 2))[(motz6.take (i + 2)).length - 2]? = some (mz i) := by
  rcases (by omega : i = 1 ∨ i = 2 ∨ i = 3) with rfl | rfl | rfl <;> rfl
theorem take_mz (i : Nat) (hi : 1 ≤ i ∧ i ≤ 3) : motz6.take (i + 1 + 2) = motz6.take (i + 2) ++ [mz (i + 2)] := by
  rcases (by omega : i = 1 ∨ i = 2 ∨ i = 3) with rfl | rfl | rfl <;> rfl
theorem item_back {prog : Program} {w : World} {A : Around} {E : Value → Shared → Prop} {s : Shared} {h₀ : Heap} {L : Addr} {news : List (Addr × Obj)} {value slice : PySem.Expr} {l : Addr} {vs : List Value} {ns : List Int} {kk : Nat} {k x : Int} {u : Tok} {j : Nat} {Q : Value → Shared → Prop}
    (N : News h₀ L s.heap news) (hm : (l, listOf vs.toArray kk) ∈ news) (hi : IntsAre vs ns) (hj : 0 < j ∧ j ≤ ns.length) (e : k = -(j : Int)) (hl : ns.length ≤ 1000) (hx : ns[ns.length - j]? = some x) (h : ∀ t, Q (.int x t) s)
    (hs : subscripted slice false (.ref l) (.int k u) = operate [.ref l, .int k u] (getItem (.ref l) (.int k u))) :
    wpAny (model prog w) A (subscriptTail value slice (.ref l) (.int k u)) Q E s := by
  obtain ⟨t, ht⟩ := hi.get _ _ hx
  have hL := News.isList N hm
  have hz := hi.length
  subst e
  have e2 : (-(j : Int) + (vs.toArray.size : Int)).toNat = ns.length - j := by rw [List.size_toArray, hz]; omega
  exact tail_any hL.typeIs slot_list_getitem.lookup (wpAny_getItem_list_neg (x := .int x t) hL (by omega) (by rw [List.size_toArray, hz]; omega) (by omega) (by rw [e2]; simpa using ht) (h t)) hs
theorem dmn_any {w : World} {p : Program} {loose : List Str} {mean : ExcName → Option Value} {mg mb : Str → Option Value}
  (dp un : Nat) (gd : Option (List Code)) (cn : Str) (cs : Scope) (a : Addr) (ccd : Value) (cl : List (Str × Addr)) (outer : List Env) (A₀ : Around) (base h₀ : Heap) (L : Addr) (m : Str → Option Value) (s : Shared) (Q : Value → Shared → Prop) (E : Value → Shared → Prop) (news : List (Addr × Obj))
  (B : Below A₀ base outer h₀) (F : Fr h₀ L s.heap m) (X : (hd.heap_39 w.params).In h₀) (N : News h₀ L s.heap news) (R : Ready news) (T : Top p loose mean mg mb h₀) (hk : cs.kind = .function) (hd : dp < 500) (hu : un < 300) (i : Nat) (hi : 1 ≤ i ∧ i ≤ 3) (k xi yi : Int) (ek : k = 2 + (i : Int)) (ex : xi = (2 * k + 1) * mz (i + 1) + 3 * (k - 1) * mz i) (ey : yi = k + 2) (t1 t2 : Tok)
  (hret : ∀ c h' tk' u1 u2, Fr h₀ L h' m → News h₀ L h' ((c, { cls := .type "tuple", data := .seq #[.int (mz (i + 2)) u1, .int 0 u2] }) :: news) → (∀ p ∈ news, p.1 < c) → Q (.ref c) { s with heap := h', toks := tk' }) :
  wpAny (model PySem.Challenge.rw_gl0007_01.row.prog w) (ktrTop dp un gd cn cs L a ccd cl outer) (call (.ref 77) [.int xi t1, .int yi t2]) Q E s := by
  obtain ⟨c1, c2, o1, o2, v1, v2, g1, g2, a1, a2, a3, a4, a5, a6, a7, a8⟩ := R
  subst ek
  rcases (by omega : i = 1 ∨ i = 2 ∨ i = 3) with rfl | rfl | rfl
  · exact dmc_20_5 dp un gd cn cs a ccd cl outer A₀ base h₀ L m s Q E news B F X N c1 c2 o1 o2 v1 v2 g1 g2 a1 a2 a3 a4 a5 a6 a7 a8 T hk hd hu xi yi (ex.trans (by decide)) (ey.trans (by decide)) t1 t2 hret
  · exact dmc_54_6 dp un gd cn cs a ccd cl outer A₀ base h₀ L m s Q E news B F X N c1 c2 o1 o2 v1 v2 g1 g2 a1 a2 a3 a4 a5 a6 a7 a8 T hk hd hu xi yi (ex.trans (by decide)) (ey.trans (by decide)) t1 t2 hret
  · exact dmc_147_7 dp un gd cn cs a ccd cl outer A₀ base h₀ L m s Q E news B F X N c1 c2 o1 o2 v1 v2 g1 g2 a1 a2 a3 a4 a5 a6 a7 a8 T hk hd hu xi yi (ex.trans (by decide)) (ey.trans (by decide)) t1 t2 hret
set_option maxRecDepth 100000 in
set_option maxHeartbeats 8000000 in
theorem numbers_many {w : World} {p : Program} {loose : List Str} {mean : ExcName → Option Value} {mg mb : Str → Option Value}
  (dp un : Nat) (gd : Option (List Code)) (cn : Str) (cs : Scope) (a : Addr) (ccd : Value) (cl : List (Str × Addr)) (outer : List Env) (A₀ : Around) (base h₀ : Heap) (L : Addr) (m : Str → Option Value) (s : Shared) (Q : Value → Shared → Prop) (E : Value → Shared → Prop)
  (B : Below A₀ base outer h₀) (F : Fr h₀ L s.heap m) (X : (hd.heap_39 w.params).In h₀) (rc : Addr) (ro : Obj) (N : News h₀ L s.heap [(58, tabObj #[]), (51, tabObj #[]), (rc, ro)]) (hrc : @LT.lt Nat _ 58 rc) (T : Top p loose mean mg mb h₀) (hk : cs.kind = .function) (hd : dp < 400) (hu : un < 200) (M : Nat) (hM0 : 2 ≤ M ∧ M ≤ 5) (t1 : Tok)
  (hret : ∀ q kk (vs : List Value) h' tk' (nw : List (Addr × Obj)), Fr h₀ L h' m → News h₀ L h' ((q, listOf vs.toArray kk) :: nw) → IntsAre vs (motz6.take (M + 1)) → Ready nw → (rc, ro) ∈ nw → Q (.ref q) { s with heap := h', toks := tk' }) :
  wpAny (model PySem.Challenge.rw_gl0007_01.row.prog w) (ktrTop dp un gd cn cs L a ccd cl outer) (call (.ref 89) [.int (M : Int) t1]) Q E s := by
  have hM : Stop (2 ≤ M ∧ M ≤ 5) := hM0
  have hM1 : M ≤ 1000 := by omega
  clear hM0
  k_with_none
  w_top off
  k_with "all" => first | assumption | exact allLt_ne (by assumption) (by omega)
  revert X; k_fill; intro X
  refine wpAny_call ?_
  k_dflt cell_enter
  k_with "pyIter ref" => (k_here; (with_reducible show wpAny _ _ (pyIter (Value.ref _)) (fun it s₂ => LoopAtV _ _ _ _ _ _ _ _ _ it s₂) _ _); refine Stop.go ?_)
  k_steps
  refine Stop.on ?_
  with_reducible rename News _ _ _ _ => Nq
  with_reducible rename Fr _ _ _ _ => Fq
  obtain ⟨m₀, l, k0, u0, u1, F0, N0, ef, hl58, hlr⟩ := nums_start Nq Fq (by rfl) (by omega) (by omega)
  have hR := ‹IsRange _ _ _ _ _ _ _ _›
  clear Nq Fq
  have hM2 : 2 ≤ M ∧ M ≤ 5 := hM
  refine for_rangeN (by rfl) 2 (M - 1) (NumsInv m₀ l rc ro) (by rfl) hR rfl (by omega) (by omega) F0 N0 ⟨Same.refl, [.int 1 u0, .int 1 u1], k0, _, rfl, .cons _ _ (.cons _ _ .nil), off_low hl58 hlr, .inl ⟨rfl, rfl⟩⟩ ?turn ?done
  case turn =>
    intro I hlt i hi m' news t h tk it ⟨hS, vs, kk, nw, en, hI, hoff, hcase⟩ hoI F N
    subst en
    have hlI : @LT.lt Nat _ l I := hlt _ List.mem_cons_self
    clear F0 N0 hlt
    have ef' := hS.get (by decide +kernel) ef
    replace F := Fr.put F ((if_neg (by decide +kernel)).trans ef')
    rcases (by omega : i = 0 ∨ (1 ≤ i ∧ i ≤ 3)) with rfl | hi1
    · have hI0 : IntsAre vs [1, 1] := hI
      obtain ⟨v0, vs0, e0, hI1⟩ := ints_cons2 hI0; subst e0
      obtain ⟨v1, vs1, e1, hI2⟩ := ints_cons2 hI1; subst e1
      have hz := ints_nil hI2; subst hz
      clear hI hI0 hI1 hI2
      rcases hcase with ⟨_, e⟩ | ⟨h1, _⟩; rotate_left
      · omega
      subst e
      k_with "call ref" => (k_here; (with_reducible show wpAny _ _ (call (Value.ref 77) _) _ _ _); (k_dflt (refine dmc_8_4 _ _ _ _ _ _ _ _ _ _ _ _ _ _ _ _ _ _ (by k_asm) (by k_asm) (by k_asm) (perm2 (by k_asm)) (by ((repeat (refine List.forall_mem_cons.mpr ⟨Nat.ne_of_gt (by omega), ?_⟩)); exact fun _ h => nomatch h)) (by ((repeat (refine List.forall_mem_cons.mpr ⟨Nat.ne_of_gt (by omega), ?_⟩)); exact fun _ h => nomatch h)) (by k_asm) (by rfl) (by ((try dsimp only [ktrTop]); omega)) (by ((try dsimp only [ktrTop]); omega)) _ _ (by decide) (by decide) _ _ ?_)); intro c' h' tk' w1' w2' c1' c2' oc1' oc2' vc1' vc2' tq1' tq2' F' N' fc1 fc2 gc1 gc2 l1 l2 l3 l4 l5 l6 l7; (try k_lt l1); (try k_lt l7))
      k_with "ite" => first | (with_reducible refine ite_neg (by decide) ?_) | (with_reducible refine ite_pos (by decide) ?_)
      have kMark := kstMark
      k_steps
      refine TurnEnd.of ((l, listOf [.int 1 v0, .int 1 v1, .int 2 w1'].toArray (kk + 1)) :: [(c2', oc2'), (58, tabObj #[rawInt ((90 : Nat) : Int), rawInt ((4 : Nat) : Int), .ref c2']), (51, tabObj #[rawInt ((75 : Nat) : Int), rawInt ((4 : Nat) : Int), .ref c1']), (c1', oc1'), (rc, ro)]) (by k_asm) (cb_drop (by k_asm) (List.forall_mem_cons.mpr ⟨(by (repeat (first | exact List.mem_cons_self | refine List.mem_cons_of_mem _ ?_))), List.forall_mem_cons.mpr ⟨(by (repeat (first | exact List.mem_cons_self | refine List.mem_cons_of_mem _ ?_))), List.forall_mem_cons.mpr ⟨(by (repeat (first | exact List.mem_cons_self | refine List.mem_cons_of_mem _ ?_))), List.forall_mem_cons.mpr ⟨(by (repeat (first | exact List.mem_cons_self | refine List.mem_cons_of_mem _ ?_))), List.forall_mem_cons.mpr ⟨(by (repeat (first | exact List.mem_cons_self | refine List.mem_cons_of_mem _ ?_))), List.forall_mem_cons.mpr ⟨(by (repeat (first | exact List.mem_cons_self | refine List.mem_cons_of_mem _ ?_))), List.forall_mem_cons.mpr ⟨(by (repeat (first | exact List.mem_cons_self | refine List.mem_cons_of_mem _ ?_))), fun _ h => nomatch h⟩⟩⟩⟩⟩⟩⟩)) (List.forall_mem_cons.mpr ⟨Nat.ne_of_lt hlI, (List.forall_mem_cons.mpr ⟨neN (by dsimp only; omega), List.forall_mem_cons.mpr ⟨neN (by dsimp only; omega), List.forall_mem_cons.mpr ⟨neN (by dsimp only; omega), List.forall_mem_cons.mpr ⟨neN (by dsimp only; omega), List.forall_mem_cons.mpr ⟨neN (by dsimp only; omega), fun _ h => nomatch h⟩⟩⟩⟩⟩)⟩) ⟨?same0, [.int 1 v0, .int 1 v1, .int 2 w1'], _, _, rfl, .cons _ _ (.cons _ _ (.cons _ _ (.nil))), (List.forall_mem_cons.mpr ⟨neN (by dsimp only; omega), List.forall_mem_cons.mpr ⟨neN (by dsimp only; omega), List.forall_mem_cons.mpr ⟨neN (by dsimp only; omega), List.forall_mem_cons.mpr ⟨neN (by dsimp only; omega), List.forall_mem_cons.mpr ⟨neN (by dsimp only; omega), fun _ h => nomatch h⟩⟩⟩⟩⟩), .inr ⟨by omega, ⟨c1', c2', oc1', oc2', vc1', vc2', tq1', tq2', (by (repeat (first | exact List.mem_cons_self | refine List.mem_cons_of_mem _ ?_))), (by (repeat (first | exact List.mem_cons_self | refine List.mem_cons_of_mem _ ?_))), fc1, fc2, (by (repeat (first | exact List.mem_cons_self | refine List.mem_cons_of_mem _ ?_))), (by (repeat (first | exact List.mem_cons_self | refine List.mem_cons_of_mem _ ?_))), gc1, gc2⟩, (by (repeat (first | exact List.mem_cons_self | refine List.mem_cons_of_mem _ ?_)))⟩⟩
      exact (by (repeat (first | exact hS | refine Same.put (by decide +kernel) ?_ | refine Same.keep (by assumption) ?_)))
    · have hi3 : 1 ≤ i ∧ i ≤ 3 := by omega
      rcases hcase with ⟨h0, _⟩ | ⟨_, hRd, hrcm⟩
      · omega
      have hb1 := mz_small (i + 1)
      have hb2 := mz_small i
      have hlen : (motz6.take (i + 2)).length = i + 2 := by rw [List.length_take]; exact Nat.min_eq_left (Nat.le_trans (by omega : i + 2 ≤ 5) (by decide))
      have hus : vs.toArray.size ≤ sizeLine := by
        rw [List.size_toArray, hI.length, hlen]; exact Nat.le_trans (by omega : i + 2 ≤ 5) (by decide)
      k_with "call ref" => (k_here; (with_reducible show wpAny _ _ (call (Value.ref 77) _) _ _ _); (k_dflt (refine dmn_any _ _ _ _ _ _ _ _ _ _ _ _ _ _ _ _ _ _ (by k_asm) (by k_asm) (by k_asm) (by k_asm) (hRd.more (fun p hp => by (repeat (first | exact hp | refine List.mem_cons_of_mem _ ?_)))) (by k_asm) (by rfl) (by ((try dsimp only [ktrTop]); omega)) (by ((try dsimp only [ktrTop]); omega)) i hi3 _ _ _ (by rfl) (by rfl) (by rfl) _ _ ?_)); intro c' h' tk' w1' w2' F' N' l1; (try k_lt l1))
      k_with "subscriptTail Name UnaryOp ref int" => first | (k_here; (with_reducible show wpAny _ _ (subscriptTail _ _ (Value.ref _) (Value.int _ _)) _ _ _); (k_dflt (refine item_back (vs := vs) (kk := kk) (j := 1) (by k_asm) (by k_mem) hI (by omega) (by rfl) (by omega) (mz_at1 i hi3) ?_ (by with_unfolding_all rfl))); intro tz') | (k_here; (with_reducible show wpAny _ _ (subscriptTail _ _ (Value.ref _) (Value.int _ _)) _ _ _); (k_dflt (refine item_back (vs := vs) (kk := kk) (j := 2) (by k_asm) (by k_mem) hI (by omega) (by rfl) (by omega) (mz_at2 i hi3) ?_ (by with_unfolding_all rfl))); intro tz')
      k_with "call builtin:list.append" => (k_here; (k_dflt (refine append_K (its := vs.toArray) (n := kk) (D := l) (by k_asm) (by k_asm) (by k_upd) ?_ hus)); intro h' F' N'; rw [List.push_toArray] at N')
      k_with "ite" => first | (with_reducible refine ite_neg (by decide) ?_) | (with_reducible refine ite_pos (by decide) ?_)
      have kMark := kstMark
      k_steps
      refine TurnEnd.of ((l, listOf (vs ++ [_]).toArray (kk + 1)) :: nw) (by k_asm) (cb_drop (by k_asm) (fun p hp => List.mem_cons_of_mem _ hp)) (List.forall_mem_cons.mpr ⟨Nat.ne_of_lt hlI, fun p hp => hoI p (.tail _ hp)⟩) ⟨?same1, _, _, _, rfl, ?hintz, hoff, .inr ⟨by omega, hRd, hrcm⟩⟩
      case same1 => exact (by (repeat (first | exact hS | refine Same.put (by decide +kernel) ?_ | refine Same.keep (by assumption) ?_)))
      case hintz => rw [take_mz i hi3]; exact ints_append hI (.cons _ _ .nil)
  case done =>
    intro m' news h tk ⟨hS, vs, kk, nw, en, hI, hoff, hcase⟩ F N
    subst en
    clear F0 N0
    obtain ⟨hR3, hrc3⟩ : Ready nw ∧ (rc, ro) ∈ nw := by
      rcases hcase with ⟨h0, _⟩ | ⟨_, h1, h2⟩
      · omega
      · exact ⟨h1, h2⟩
    have e1 : M - 1 + 2 = M + 1 := by omega
    rw [e1] at hI
    replace F := Fr.put F (hS.get (by decide +kernel) ef)
    have kMark := kstMark
    k_steps
    all_goals exact hret l kk vs _ _ nw (by assumption) (by k_asm) hI hR3 hrc3
end
section
def touched : List PySem.Str := [Str.ofString "pairs", Str.ofString "often", Str.ofString "k", Str.ofString "rest", Str.ofString "whole"]
def touchedI : List PySem.Str := [Str.ofString "k", Str.ofString "often", Str.ofString "rest"]
theorem touchedI_sub : ∀ z ∈ touchedI, z ∈ touched := by decide +kernel
def bin : Nat → Nat → Nat
  | _, 0 => 1
  | 0, _ + 1 => 0
  | n + 1, k + 1 => bin n k + bin n (k + 1)
theorem bin_zero (M : Nat) : bin M 0 = 1 := by cases M <;> rfl
def waysL (p : Nat) : Nat := [1, 1, 2, 5].getD p 0
def wsum (M : Nat) : Nat → Nat
  | 0 => 0
  | i + 1 => wsum M i + bin M (2 * i) * waysL i
def motzL (M : Nat) : List Int := ([1, 1, 2, 4, 9, 21] : List Int).take (max 2 (M + 1))
def motzAt (M : Nat) : Nat := ([1, 1, 2, 4, 9, 21] : List Nat).getD M 0
theorem wsum_all (M : Nat) (hM : M ≤ 5) : wsum M (M / 2 + 1) = motzAt M := by
  rcases (by omega : M = 0 ∨ M = 1 ∨ M = 2 ∨ M = 3 ∨ M = 4 ∨ M = 5) with rfl | rfl | rfl | rfl | rfl | rfl <;> decide
theorem motz_at (M : Nat) (hM : M ≤ 5) : (motzL M)[M]? = some (motzAt M : Int) := by
  rcases (by omega : M = 0 ∨ M = 1 ∨ M = 2 ∨ M = 3 ∨ M = 4 ∨ M = 5) with rfl | rfl | rfl | rfl | rfl | rfl <;> decide
theorem motz_len (M : Nat) (hM : M ≤ 5) : M < (motzL M).length := by
  rcases (by omega : M = 0 ∨ M = 1 ∨ M = 2 ∨ M = 3 ∨ M = 4 ∨ M = 5) with rfl | rfl | rfl | rfl | rfl | rfl <;> decide
theorem held_len (M : Nat) (hM : M ≤ 5) : ((rowsN M).filter closes).length = motzAt M := by
  rcases (by omega : M = 0 ∨ M = 1 ∨ M = 2 ∨ M = 3 ∨ M = 4 ∨ M = 5) with rfl | rfl | rfl | rfl | rfl | rfl <;> decide +kernel
theorem motz_small (M : Nat) (hM : M ≤ 5) : motzAt M ≤ 21 := by
  rcases (by omega : M = 0 ∨ M = 1 ∨ M = 2 ∨ M = 3 ∨ M = 4 ∨ M = 5) with rfl | rfl | rfl | rfl | rfl | rfl <;> decide
theorem held_short (M : Nat) (hM : M ≤ 5) : ((rowsN M).filter closes).length ≤ sizeLine := by
  rw [held_len M hM]; exact Nat.le_trans (motz_small M hM) (by decide)
theorem ways_small (i : Nat) : waysL i ≤ 5 := by
  rcases (by omega : i = 0 ∨ i = 1 ∨ i = 2 ∨ i = 3 ∨ 4 ≤ i) with rfl | rfl | rfl | rfl | h
  · decide
  · decide
  · decide
  · decide
  · show (([1, 1, 2, 5] : List Nat)[i]?).getD 0 ≤ 5
    rw [List.getElem?_eq_none (by simpa using h)]; decide
theorem wsum_small (M i : Nat) (hM : M ≤ 5) (hi : i ≤ 3) : wsum M i ≤ 1000 := by
  rcases (by omega : M = 0 ∨ M = 1 ∨ M = 2 ∨ M = 3 ∨ M = 4 ∨ M = 5) with rfl | rfl | rfl | rfl | rfl | rfl <;>
    rcases (by omega : i = 0 ∨ i = 1 ∨ i = 2 ∨ i = 3) with rfl | rfl | rfl | rfl <;> decide
theorem bin_small (M k : Nat) (hM : M ≤ 5) (hk : k ≤ 4) : bin M k ≤ 10 := by
  rcases (by omega : M = 0 ∨ M = 1 ∨ M = 2 ∨ M = 3 ∨ M = 4 ∨ M = 5) with rfl | rfl | rfl | rfl | rfl | rfl <;>
    rcases (by omega : k = 0 ∨ k = 1 ∨ k = 2 ∨ k = 3 ∨ k = 4) with rfl | rfl | rfl | rfl | rfl <;> decide
section
variable {prog : Program} {w : World} {A : Around} {E : Value → Shared → Prop} {s : Shared} {h₀ : Heap} {L : Addr} {news : List (Addr × Obj)}
theorem motz_get (M : Nat) (hM : M ≤ 5) : (motzL M).getD ((M : Int).toNat) 0 = (motzAt M : Int) := by
  rcases (by omega : M = 0 ∨ M = 1 ∨ M = 2 ∨ M = 3 ∨ M = 4 ∨ M = 5) with rfl | rfl | rfl | rfl | rfl | rfl <;> decide
theorem item_motz {value slice : PySem.Expr} {q : Addr} {vs : List Value} {kk : Nat} {k : Int} {u : Tok} {M : Nat} {Q : Value → Shared → Prop} (N : News h₀ L s.heap news) (hm : (q, listOf vs.toArray kk) ∈ news) (hi : IntsAre vs (motzL M)) (hM : M ≤ 5) (e : k = (M : Int))
    (h : ∀ t, Q (.int (motzAt M : Int) t) s)
    (hs : subscripted slice false (.ref q) (.int k u) = operate [.ref q, .int k u] (getItem (.ref q) (.int k u)) := by with_unfolding_all rfl) (hg : ∀ r, letTemporaryGo value (.ref q) r = pure () := by intro _; with_unfolding_all rfl) :
    wpAny (model prog w) A (subscriptTail value slice (.ref q) (.int k u)) Q E s := by
  subst e
  have h1 := motz_len M hM
  exact item_list_ints (News.isList N hm) hi (by omega) (by omega) (by omega) (fun t => by rw [motz_get M hM]; exact h t) hs hg
theorem item_ways {value slice : PySem.Expr} {l : Addr} {kk : Nat} {a b c d : Tok} {k : Int} {u : Tok} {i : Nat} {Q : Value → Shared → Prop} (N : News h₀ L s.heap news) (hm : (l, listOf #[.int 1 a, .int 1 b, .int 2 c, .int 5 d] kk) ∈ news) (hi : i ≤ 2) (e : k = (i : Int))
    (h : ∀ t, Q (.int (waysL i : Int) t) s)
    (hs : subscripted slice false (.ref l) (.int k u) = operate [.ref l, .int k u] (getItem (.ref l) (.int k u)) := by with_unfolding_all rfl) (hg : ∀ r, letTemporaryGo value (.ref l) r = pure () := by intro _; with_unfolding_all rfl) :
    wpAny (model prog w) A (subscriptTail value slice (.ref l) (.int k u)) Q E s := by
  subst e
  have hI : IntsAre [Value.int 1 a, .int 1 b, .int 2 c, .int 5 d] [1, 1, 2, 5] := .cons _ _ (.cons _ _ (.cons _ _ (.cons _ _ .nil)))
  have e2 : ([1, 1, 2, 5] : List Int).getD ((i : Int).toNat) 0 = (waysL i : Int) := by
    rcases (by omega : i = 0 ∨ i = 1 ∨ i = 2) with rfl | rfl | rfl <;> rfl
  exact item_list_ints (vs := [Value.int 1 a, .int 1 b, .int 2 c, .int 5 d]) (News.isList N hm) hI (by omega) (by show (i : Int) < ((4 : Nat) : Int); omega) (by omega) (fun t => by rw [e2]; exact h t) hs hg
end
/-- ahead of the ways loop: the map and the ledger, what is of need alone -/
theorem loop_start {h₀ h : Heap} {L : Addr} {all nw : List (Addr × Obj)} {m : PySem.Str → Option Value} {l D q S : Addr} {dl ql : Obj} {k : Nat} {a b c d tw tm : Tok} {M : Int} (N : News h₀ L h all) (F : Fr h₀ L h m)
    (hl : (l, listOf #[.int 1 a, .int 1 b, .int 2 c, .int 5 d] k) ∈ all) (hD : (D, dl) ∈ all) (hq : (q, ql) ∈ all) (hn : ∀ p ∈ nw, p ∈ all)
    (e1 : m (Str.ofString "ways") = some (.ref l)) (e2 : m (Str.ofString "whole") = some (.int 0 tw)) (e3 : m (Str.ofString "many") = some (.int M tm)) (e4 : m (Str.ofString "numbers") = some (.ref q)) (e5 : m (Str.ofString "held") = some (.ref D)) (e6 : m (Str.ofString "script") = some (.ref S)) :
    ∃ (m₀ : PySem.Str → Option Value) (l : Addr) (k : Nat) (a b c d tw : Tok), Fr h₀ L h m₀ ∧ News h₀ L h ((l, listOf #[.int 1 a, .int 1 b, .int 2 c, .int 5 d] k) :: (D, dl) :: (q, ql) :: nw) ∧ m₀ (Str.ofString "ways") = some (.ref l) ∧ m₀ (Str.ofString "whole") = some (.int 0 tw) ∧
      m₀ (Str.ofString "many") = some (.int M tm) ∧ m₀ (Str.ofString "numbers") = some (.ref q) ∧ m₀ (Str.ofString "held") = some (.ref D) ∧ m₀ (Str.ofString "script") = some (.ref S) :=
  ⟨m, l, k, a, b, c, d, tw, F, cb_drop N (List.forall_mem_cons.mpr ⟨hl, List.forall_mem_cons.mpr ⟨hD, List.forall_mem_cons.mpr ⟨hq, hn⟩⟩⟩), e1, e2, e3, e4, e5, e6⟩
/-- ahead of the inner loop -/
theorem inner_start {h₀ h : Heap} {L l : Addr} {m₀ m : PySem.Str → Option Value} {M i W : Int} {to tm tp tw : Tok} (F : Fr h₀ L h m) (hS : Same m₀ touched m)
    (e1 : m (Str.ofString "ways") = some (.ref l)) (e2 : m (Str.ofString "whole") = some (.int W tw)) (e3 : m (Str.ofString "many") = some (.int M tm)) (e4 : m (Str.ofString "often") = some (.int 1 to)) (e5 : m (Str.ofString "pairs") = some (.int i tp)) :
    ∃ (m₁ : PySem.Str → Option Value) (to : Tok), Fr h₀ L h m₁ ∧ Same m₀ touched m₁ ∧ m₁ (Str.ofString "ways") = some (.ref l) ∧ m₁ (Str.ofString "whole") = some (.int W tw) ∧ m₁ (Str.ofString "many") = some (.int M tm) ∧ m₁ (Str.ofString "often") = some (.int 1 to) ∧ m₁ (Str.ofString "pairs") = some (.int i tp) :=
  ⟨m, to, F, hS, e1, e2, e3, e4, e5⟩
theorem half_eq (M : Nat) : (M : Int).fdiv 2 + 1 = ((M / 2 + 1 : Nat) : Int) := by
  rw [Int.fdiv_eq_ediv_of_nonneg _ (by decide)]; omega
def WaysInv (m₀ : PySem.Str → Option Value) (M i : Nat) (m : PySem.Str → Option Value) : Prop := (∃ tw, m (Str.ofString "whole") = some (.int (wsum M i : Int) tw)) ∧ Same m₀ touched m
def InnerInv (m₀ : PySem.Str → Option Value) (M j : Nat) (m : PySem.Str → Option Value) : Prop := (∃ tv, m (Str.ofString "often") = some (.int (bin M j : Int) tv)) ∧ Same m₀ touchedI m
theorem dmc_any {w : World} {p : Program} {loose : List Str} {mean : ExcName → Option Value} {mg mb : Str → Option Value}
  (dp un : Nat) (gd : Option (List Code)) (cn : Str) (cs : Scope) (a : Addr) (ccd : Value) (cl : List (Str × Addr)) (outer : List Env) (A₀ : Around) (base h₀ : Heap) (L : Addr) (m : Str → Option Value) (s : Shared) (Q : Value → Shared → Prop) (E : Value → Shared → Prop) (news : List (Addr × Obj))
  (B : Below A₀ base outer h₀) (F : Fr h₀ L s.heap m) (X : (hd.heap_39 w.params).In h₀) (N : News h₀ L s.heap news) (R : Ready news) (T : Top p loose mean mg mb h₀) (hk : cs.kind = .function) (hd : dp < 500) (hu : un < 300) (M k : Nat) (hM : M ≤ 5) (hkM : k < 2 * (M / 2)) (xi yi : Int) (ex : xi = (bin M k : Int) * ((M : Int) - (k : Int))) (ey : yi = (k : Int) + 1) (t1 t2 : Tok)
  (hret : ∀ c h' tk' u1 u2, Fr h₀ L h' m → News h₀ L h' ((c, { cls := .type "tuple", data := .seq #[.int ((bin M (k + 1) : Nat) : Int) u1, .int 0 u2] }) :: news) → (∀ p ∈ news, p.1 < c) → Q (.ref c) { s with heap := h', toks := tk' }) :
  wpAny (model PySem.Challenge.rw_gl0007_01.row.prog w) (ktrTop dp un gd cn cs L a ccd cl outer) (call (.ref 77) [.int xi t1, .int yi t2]) Q E s := by
  obtain ⟨c1, c2, o1, o2, v1, v2, g1, g2, a1, a2, a3, a4, a5, a6, a7, a8⟩ := R
  have key : ∀ M : Fin 6, ∀ k : Fin 4, k.val < 2 * (M.val / 2) → (M.val = 2 ∧ k.val = 0) ∨ (M.val = 2 ∧ k.val = 1) ∨ (M.val = 3 ∧ k.val = 0) ∨ (M.val = 3 ∧ k.val = 1) ∨ (M.val = 4 ∧ k.val = 0) ∨ (M.val = 4 ∧ k.val = 1) ∨ (M.val = 4 ∧ k.val = 2) ∨ (M.val = 4 ∧ k.val = 3) ∨ (M.val = 5 ∧ k.val = 0) ∨ (M.val = 5 ∧ k.val = 1) ∨ (M.val = 5 ∧ k.val = 2) ∨ (M.val = 5 ∧ k.val = 3) := by decide +kernel
  have hcase := key ⟨M, by omega⟩ ⟨k, by omega⟩ hkM
  dsimp only at hcase
  rcases hcase with
    ⟨rfl, rfl⟩ | ⟨rfl, rfl⟩ | ⟨rfl, rfl⟩ | ⟨rfl, rfl⟩ | ⟨rfl, rfl⟩ | ⟨rfl, rfl⟩ | ⟨rfl, rfl⟩ | ⟨rfl, rfl⟩ | ⟨rfl, rfl⟩ | ⟨rfl, rfl⟩ | ⟨rfl, rfl⟩ | ⟨rfl, rfl⟩
  · exact dmc_2_1 dp un gd cn cs a ccd cl outer A₀ base h₀ L m s Q E news B F X N c1 c2 o1 o2 v1 v2 g1 g2 a1 a2 a3 a4 a5 a6 a7 a8 T hk hd hu xi yi (ex.trans (by decide)) (ey.trans (by decide)) t1 t2 hret
  · exact dmc_2_2 dp un gd cn cs a ccd cl outer A₀ base h₀ L m s Q E news B F X N c1 c2 o1 o2 v1 v2 g1 g2 a1 a2 a3 a4 a5 a6 a7 a8 T hk hd hu xi yi (ex.trans (by decide)) (ey.trans (by decide)) t1 t2 hret
  · exact dmc_3_1 dp un gd cn cs a ccd cl outer A₀ base h₀ L m s Q E news B F X N c1 c2 o1 o2 v1 v2 g1 g2 a1 a2 a3 a4 a5 a6 a7 a8 T hk hd hu xi yi (ex.trans (by decide)) (ey.trans (by decide)) t1 t2 hret
  · exact dmc_6_2 dp un gd cn cs a ccd cl outer A₀ base h₀ L m s Q E news B F X N c1 c2 o1 o2 v1 v2 g1 g2 a1 a2 a3 a4 a5 a6 a7 a8 T hk hd hu xi yi (ex.trans (by decide)) (ey.trans (by decide)) t1 t2 hret
  · exact dmc_4_1 dp un gd cn cs a ccd cl outer A₀ base h₀ L m s Q E news B F X N c1 c2 o1 o2 v1 v2 g1 g2 a1 a2 a3 a4 a5 a6 a7 a8 T hk hd hu xi yi (ex.trans (by decide)) (ey.trans (by decide)) t1 t2 hret
  · exact dmc_12_2 dp un gd cn cs a ccd cl outer A₀ base h₀ L m s Q E news B F X N c1 c2 o1 o2 v1 v2 g1 g2 a1 a2 a3 a4 a5 a6 a7 a8 T hk hd hu xi yi (ex.trans (by decide)) (ey.trans (by decide)) t1 t2 hret
  · exact dmc_12_3 dp un gd cn cs a ccd cl outer A₀ base h₀ L m s Q E news B F X N c1 c2 o1 o2 v1 v2 g1 g2 a1 a2 a3 a4 a5 a6 a7 a8 T hk hd hu xi yi (ex.trans (by decide)) (ey.trans (by decide)) t1 t2 hret
  · exact dmc_4_4 dp un gd cn cs a ccd cl outer A₀ base h₀ L m s Q E news B F X N c1 c2 o1 o2 v1 v2 g1 g2 a1 a2 a3 a4 a5 a6 a7 a8 T hk hd hu xi yi (ex.trans (by decide)) (ey.trans (by decide)) t1 t2 hret
  · exact dmc_5_1 dp un gd cn cs a ccd cl outer A₀ base h₀ L m s Q E news B F X N c1 c2 o1 o2 v1 v2 g1 g2 a1 a2 a3 a4 a5 a6 a7 a8 T hk hd hu xi yi (ex.trans (by decide)) (ey.trans (by decide)) t1 t2 hret
  · exact dmc_20_2 dp un gd cn cs a ccd cl outer A₀ base h₀ L m s Q E news B F X N c1 c2 o1 o2 v1 v2 g1 g2 a1 a2 a3 a4 a5 a6 a7 a8 T hk hd hu xi yi (ex.trans (by decide)) (ey.trans (by decide)) t1 t2 hret
  · exact dmc_30_3 dp un gd cn cs a ccd cl outer A₀ base h₀ L m s Q E news B F X N c1 c2 o1 o2 v1 v2 g1 g2 a1 a2 a3 a4 a5 a6 a7 a8 T hk hd hu xi yi (ex.trans (by decide)) (ey.trans (by decide)) t1 t2 hret
  · exact dmc_20_4 dp un gd cn cs a ccd cl outer A₀ base h₀ L m s Q E news B F X N c1 c2 o1 o2 v1 v2 g1 g2 a1 a2 a3 a4 a5 a6 a7 a8 T hk hd hu xi yi (ex.trans (by decide)) (ey.trans (by decide)) t1 t2 hret
def tabs0 (rc : Addr) (ro : Obj) : List (Addr × Obj) := [(58, tabObj #[]), (51, tabObj #[]), (rc, ro)]
theorem numbers_any {w : World} {p : Program} {loose : List Str} {mean : ExcName → Option Value} {mg mb : Str → Option Value}
  (dp un : Nat) (gd : Option (List Code)) (cn : Str) (cs : Scope) (a : Addr) (ccd : Value) (cl : List (Str × Addr)) (outer : List Env) (A₀ : Around) (base h₀ : Heap) (L : Addr) (m : Str → Option Value) (s : Shared) (Q : Value → Shared → Prop) (E : Value → Shared → Prop)
  (B : Below A₀ base outer h₀) (F : Fr h₀ L s.heap m) (X : (hd.heap_39 w.params).In h₀) (rc : Addr) (ro : Obj) (N : News h₀ L s.heap [(58, tabObj #[]), (51, tabObj #[]), (rc, ro)]) (hrc : @LT.lt Nat _ 58 rc) (T : Top p loose mean mg mb h₀) (hk : cs.kind = .function) (hd : dp < 400) (hu : un < 200) (M : Nat) (hM : M ≤ 5) (xi : Int) (ex : xi = ((max 1 M : Nat) : Int)) (t1 : Tok)
  (hret : ∀ q kk (vs : List Value) h' tk' (nw : List (Addr × Obj)) ps qs, Fr h₀ L h' m → News h₀ L h' ((q, listOf vs.toArray kk) :: nw) → IntsAre vs (motzL M) → (58, tabObj ps) ∈ nw → (51, tabObj qs) ∈ nw → (rc, ro) ∈ nw → (2 ≤ M → Ready nw) → Q (.ref q) { s with heap := h', toks := tk' }) :
  wpAny (model PySem.Challenge.rw_gl0007_01.row.prog w) (ktrTop dp un gd cn cs L a ccd cl outer) (call (.ref 89) [.int xi t1]) Q E s := by
  by_cases hM1 : M ≤ 1
  · have e : xi = 1 := by omega
    subst e
    refine numbers1 dp un gd cn cs a ccd cl outer A₀ base h₀ L m s Q E B F X rc ro N hrc T hk hd hu t1 fun q kk h' tk' u0 u1 F' N' _ _ =>
      hret q kk [.int 1 u0, .int 1 u1] h' tk' _ _ _ F' N' ?_ (.head _) (.tail _ (.head _)) (.tail _ (.tail _ (.head _))) (fun h => absurd h (by omega))
    have i0 : IntsAre [Value.int 1 u0, .int 1 u1] [1, 1] := .cons _ _ (.cons _ _ .nil)
    rcases (by omega : M = 0 ∨ M = 1) with rfl | rfl <;> exact i0
  · have e : xi = (M : Int) := by omega
    subst e
    refine numbers_many dp un gd cn cs a ccd cl outer A₀ base h₀ L m s Q E B F X rc ro N hrc T hk hd hu M ⟨by omega, hM⟩ t1 fun q kk vs h' tk' nw F' N' hI hR hrm => ?_
    obtain ⟨c1, c2, o1, o2, v1, v2, g1, g2, a1, a2, a3, a4, a5, a6, a7, a8⟩ := id hR
    have em : max 2 (M + 1) = M + 1 := by omega
    exact hret q kk vs h' tk' nw _ _ F' N' (by unfold motzL; rw [em]; exact hI) a5 a1 hrm fun _ => hR
end
section
theorem kn_postG {M : Model} {A : Around} {cd : Code} {s s₁ : Shared} {cw : ClaimW} {cl : Str → Option Addr} {mean : ExcName → Option Value} {args : List WData} {tabs : List (Addr × Addr)} (hT : TabsAt tabs s₁.heap) (hr : ∀ a x, cw.raises a x = false)
    (hp : cw.post args (.bool true) args = true)
    (h : codeAny M A cd (fun r s' => (r = .ok (.ret (.bool true)) ∧ (∀ b o, (ghostOf s₁.heap tabs).get? b = some o → s'.heap.get? b = some o) ∧ s'.os = s₁.os ∧ AllBare s'.gens) ∧ GrownAll tabs s'.heap) s) : codeAny M A cd (GoodWG cw cl mean args s₁) s :=
  codeAny_mono h fun r s' ⟨⟨hc, hk, hos, hg⟩, hgr⟩ => by
    have keep : ∀ b o, b ∉ tabs.map (·.2) → s₁.heap.get? b = some o → s'.heap.get? b = some o := fun b o hb e => hk b o (ghost_ne e hb)
    have grown : ∀ b o, b ∈ tabs.map (·.2) → s₁.heap.get? b = some o → isCodeTable s₁.heap b ∧ o = tabObj #[] ∧ ∃ ps, s'.heap.get? b = some (tabObj ps) := fun b o hb e => by
      obtain ⟨q, hq, rfl⟩ := List.mem_map.mp hb
      have e2 := (hT q hq).2
      rw [e] at e2
      exact ⟨((hT q hq).1.tab (hT q hq).2).isCodeTable, Option.some.inj e2, hgr.get q hq⟩
    refine ⟨.inl ⟨_, .bool true, [], hc, hr args, .bool _, hp, fun _ => ⟨List.nodup_nil, nofun⟩⟩, ⟨fun b o e => ?_, fun b o e => ?_⟩, hos, hg⟩
    · by_cases hb : b ∈ tabs.map (·.2)
      · obtain ⟨ht, rfl, ps, hP⟩ := grown b o hb e
        exact .inr (.inl ⟨ht, rfl, #[], ps, rfl, by rw [Array.empty_append]; exact hP⟩)
      · exact .inl (keep b o hb e)
    · by_cases hb : b ∈ tabs.map (·.2)
      · obtain ⟨_, _, ps, hP⟩ := grown b o hb e
        exact ⟨_, hP⟩
      · exact ⟨o, keep b o hb e⟩
set_option maxRecDepth 100000 in
set_option maxHeartbeats 400000000 in
theorem t1 : PySem.Challenge.rw_gl0007_01.Holds := hd (by
  k_with_none
  k_with "all" => first | assumption | exact allLt_ne (by assumption) (by omega)
  k_fill
  intro w s₀ s₁ mg mb G Y fa o pm cd doc dV kV ho hd hcd hD hmg hg args vals as hpre hlay hrd hwl hlo
  have KX := km_in_of Y
  km_tabs Y
  have X := (Ground.X G).1
  have V := (Ground.X G).2
  refine Ground.open G ?_
  intro T B D TE TW
  try (refine guard_noD D (by decide +kernel) ?_; clear D)
  km_lay T hmg ho hd cd
  clear hmg
  wrow_args hpre hlay hrd hwl hlo
  all_goals (
    first | refine callC_kw (enter_call ?_) | refine enter_call ?_
    w_top on
    refine kn_postG hT9 (fun _ _ => rfl) ?hpost ?_
    case hpost => with_unfolding_all rfl
    w_call any ho hd hcd hD T F
    clear hd
    kn_ghosts F T
    k_drop
    skip)
  (try k_fold)
  (try dsimp only)
  have hF0 := ‹Fr (ghostOf _ _) _ _ _›
  have hN0 := ‹News (ghostOf _ _) _ _ _›
  refine after_sum hF0 hN0 ?_ ?_
  · dsimp only [List.take]
    k_steps
    all_goals exact afterSum_of (by k_asm) (by k_asm)
  · intro k t h' tk hk F' N'
    clear hF0 hN0
    have hl9 := ints_short ‹IntsAre _ _› (by omega)
    dsimp only [List.drop]
    refine execs_split 7 (Mid (ghostOf s₁.heap [(62, 58), (55, 51)]) s₁.heap.objs.size (s₁.heap.objs.size + 1) s₁.os) ?_ ?_
    · k_with_none
      rintro s' ⟨M, xi, tm, D, ys, kk, ro, v0, ps, qs, m', S, vs, ns, hM, exi, hmany, hheld, hscript, hSL, hSI, hvl, hys, hro, hD', F₂, N₂, hb₂, hos₂⟩
      have ll := ‹@LT.lt Nat _ 58 s₁.heap.objs.size ∧ @LT.lt Nat _ 51 s₁.heap.objs.size›
      clear F' N'
      replace F₂ := Fr.put (Fr.put (Fr.put F₂ hmany) ((if_neg (by decide +kernel)).trans hscript)) ((if_neg (by decide +kernel)).trans ((if_neg (by decide +kernel)).trans hheld))
      dsimp only [List.drop]
      refine wpAny_execs_cons ?_
      k_dflt (refine wpAny_For (wpAny_Name (wpAny_loadName_local (by rfl) (by rfl) F₂.ns (by rfl) ?_) (by decide +kernel)) (fun _ => rfl))
      (k_dflt (refine for_cell (loc := Str.ofString "end") (by rfl) (by rfl) (by rfl) (by rfl) F₂ N₂ hro ?hcn (by k_mem) hys hb₂ ?turn ?done))
      case hcn => 
        refine List.forall_mem_cons.mpr ⟨Nat.ne_of_gt hD', List.forall_mem_cons.mpr ⟨Nat.ne_of_lt (Nat.lt_succ_of_lt ll.1), List.forall_mem_cons.mpr ⟨Nat.ne_of_lt (Nat.lt_succ_of_lt ll.2), fun _ h => nomatch h⟩⟩⟩
      case turn =>
        intro y hy I it o' t u h tk G' E' hbG hlt hod F₃ N₃
        replace F₃ : Fr _ s₁.heap.objs.size _ _ := F₃
        replace N₃ : News _ s₁.heap.objs.size _ _ := N₃
        have hok := rows_okN M hM y hy
        have hyM : y.length = M := (rowsN_each M y (List.mem_filter.mp hy).1).1
        have hsz : y.length ≤ sizeLine := (by rw [hyM]; exact Nat.le_trans hM (by decide))
        clear F₂ N₂
        have kMark := kstMark
        k_with "subscriptTail" => (k_here; (with_reducible show wpAny _ _ (subscriptTail _ (Expr.Slice none (some _) none _) (Value.str _ _) _) _ _ _); (k_dflt (refine slice_strN_ns (s := ⟨_, _, _, _, _⟩) (by k_asm) (by k_asm) ?_ (by with_unfolding_all rfl) (by intro _; with_unfolding_all rfl) hsz)); intro h' t' tk' F' N')
        k_with "subscriptTail" => (k_here; (with_reducible show wpAny _ _ (subscriptTail _ (Expr.Slice (some _) none none _) (Value.str _ _) _) _ _ _); (k_dflt (refine slice_strN_sn (s := ⟨_, _, _, _, _⟩) (by k_asm) (by k_asm) ?_ (by with_unfolding_all rfl) (by intro _; with_unfolding_all rfl) hsz)); intro h' t' tk' F' N')
        k_with "subscriptTail" => (k_here; (with_reducible show wpAny _ _ (subscriptTail _ (Expr.Slice (some _) (some _) none _) (Value.str _ _) _) _ _ _); (k_dflt (refine slice_strN_ss (s := ⟨_, _, _, _, _⟩) (by k_asm) (by k_asm) ?_ (by with_unfolding_all rfl) (by intro _; with_unfolding_all rfl) hsz)); intro h' t' tk' F' N')
        k_with "call ref" => (k_here; (with_reducible show wpAny _ _ (call (Value.ref 35) _) _ _ _); (k_dflt (refine check_true _ _ _ _ _ _ _ _ _ _ _ _ _ _ _ _ _ _  (by k_asm) (by k_asm) (by k_asm) (by k_asm) (by k_asm) (by rfl) (by first | decide | omega) (by first | decide | omega) _ _ (by assumption) (by assumption) (by k_asm) ?_)); intro h' tk' G' F' N' hb')
        k_with "ite" => first | (k_dflt (refine ite_pos (by with_reducible assumption) ?_)) | (k_dflt (refine ite_neg (by exact ne_true_of_eq_false (by with_reducible assumption)) ?_))
        cases g : (Txt.slice y none (some 1) == Str.ofString "(")
        case false =>
          obtain ⟨g2, g3, g4⟩ := rowOk_other hok g
          k_steps
          refine Stop.on ⟨rfl, _, _, _, _, rfl, by k_asm, by k_asm, by k_asm⟩
        case true =>
          obtain ⟨n0, e0, r0, en, ee, e1, e2, g3, g4, g5, g6⟩ := rowOk_open hok g
          k_with "eval ListComp" => (k_here; (with_reducible show wpAny _ _ (eval (Expr.ListComp _ [⟨_, _, [_], _⟩] _ _) _) _ _ _); refine Stop.go ?_)
          k_steps
          refine Stop.on ?_
          k_dflt (refine comp_ints (by k_asm) (fun k => closes (Txt.slice y none (some (k + 1)))) (by rfl) (by rfl) (by decide) (by rfl) (by decide +kernel) (by rfl) (by decide +kernel) ?_ (fun _ => rfl))
          k_steps
          refine Stop.on ⟨_, n0, _, _, _, _, _, rfl, ?eb, by k_asm, ?en, by k_asm, by k_asm, by k_asm, ?test, ?ret⟩
          case eb => rw [hyM, en]; rfl
          case en => omega
          case test =>
            intro C i tt s₃ own m₃ E₃ hi hb₃ F₃ N₃ hn₃ hv₃ hC₃
            k_dflt (exact test_cut _ _ _ _ _ _ _ _ _ _ _ _ _ _ _ _ _ (by k_asm) F₃ (by k_asm) N₃ (by k_asm) (by rfl) (by first | decide | omega) (by first | decide | omega) hb₃ hn₃ hv₃ (by rfl) (by rfl) (by omega) (by rfl) (by rfl) (by rfl) (List.mem_append_left _ (List.mem_cons_of_mem _ List.mem_cons_self)) hod)
          case ret =>
            intro D2 h2 tk2 G2 ys2 k2 F2 N2 hI2 hb2 hl2
            have hI3 : IntsAre ys2 (endsOf y n0) := hI2
            rw [ee] at hI3
            obtain ⟨te0, ys0, rfl⟩ := ints_cons hI3
            clear hI2 hI3
            k_with "subscriptTail" => (k_here; (with_reducible show wpAny _ _ (subscriptTail _ (Expr.Constant _ _ _) (Value.ref _) _) _ _ _); (k_dflt (refine item_litK (vs := Value.int e0 te0 :: ys0) (v := Value.int e0 te0) ⟨_, (N2 _ (.head _)).1, rfl, _, rfl⟩ (by decide) (by decide) (by rfl) ?_ (by with_unfolding_all rfl))))
            k_steps
            refine Stop.on ⟨rfl, _, _, _, some (Value.int e0 te0), rfl, by k_asm, Fr.twice (by k_asm), cb_drop (by k_asm) fun p hp => List.mem_cons_of_mem _ hp⟩
      case done =>
        intro o' u h tk G' v hbG hod F₃ N₃
        replace F₃ : Fr _ s₁.heap.objs.size _ _ := F₃
        replace N₃ : News _ s₁.heap.objs.size _ _ := N₃
        clear F₂ N₂
        have kMark := kstMark
        k_with "call ref" => (k_here; (with_reducible show wpAny _ _ (call (Value.ref 82) _) _ _ _); (k_dflt (refine law_rows_any _ _ _ _ _ _ _ _ _ _ _ _ _ _ _ _ _ _  (by k_asm) (by k_asm) (by k_asm) (by k_asm) (by k_asm) (by rfl) (by first | decide | omega) (by first | decide | omega) (min M 3) (by omega) _ (by omega) _ ?_)); intro q' kq' yq' h' tk' F' N' hS' l1; exact hq' _ _ _ _ _ F' N' hS' l1)
        k_with "eval ListComp" => (k_here; (with_reducible show wpAny _ _ (eval (Expr.ListComp _ [⟨_, _, [_], _⟩] _ _) _) _ _ _); refine Stop.go ?_)
        k_steps
        refine Stop.on ?_
        k_dflt (refine rows_differ _ _ _ _ _ _ _ _ _ _ _ _ _ _ _ _ _ _  (by k_asm) (by k_asm) (by k_asm) (by k_asm) (by k_asm) (by rfl) (by first | decide | omega) (by first | decide | omega) (by k_asm) (min M 3) (by omega) _ (by rfl) (by decide) (by rfl) (by decide +kernel) (by rfl) (fun _ => rfl) (fun _ => rfl) (fun _ => rfl) ?hi ?_)
        case hi =>
          intro Q' hq'
          k_steps
        intro D2 h2 tk2 G2 k2 F2 N2 hb2 hl2
        k_with "eval ListComp" => (k_here; (with_reducible show wpAny _ _ (eval (Expr.ListComp _ [⟨_, _, [], _⟩] _ _) _) _ _ _); refine Stop.go ?_)
        k_steps
        refine Stop.on ?_
        k_dflt (refine comp_drawn (by k_asm) (by rfl) (by rfl) (by decide) (by rfl) (by decide +kernel) (by rfl) (by decide +kernel) ?_ (fun _ => rfl))
        k_steps
        have hI3 := ‹IntsAre _ (List.take 9 ns)›
        refine Stop.on ⟨_, _, _, 0, _, rfl, by k_asm, by k_asm, by k_asm, List.mem_cons_self, hI3, ?len, ?ret⟩
        case len => rw [hI3.length, List.length_take]; omega
        intro D4 h4 tk4 G4 ys4 k4 cs F4 N4 hS4 hlen4 hcs hb4 hl4
        have hlen5 : cs.length ≤ 1000 := by rw [hlen4, hI3.length, List.length_take]; omega
        have hsz : (⟨cs.toArray⟩ : Str).length ≤ 1000 := by show cs.toArray.size ≤ 1000; rw [List.size_toArray]; exact hlen5
        have htame := tame_drawn hcs
        have hcl : closes (Txt.replace ⟨cs.toArray⟩ (Str.ofString ".") (Str.ofString "")) = closes ⟨cs.toArray⟩ := closes_strike _
        have htame2 := tame_strike htame
        k_with "call builtin:str.join" => (k_dflt (refine join_drawn N4 List.mem_cons_self hS4 hlen5 ?_))
        k_with "call ref" => (k_here; (with_reducible show wpAny _ _ (call (Value.ref 35) _) _ _ _); (k_dflt (refine check_tok _ _ _ _ _ _ _ _ _ _ _ _ _ _ _ _ _ _  (by k_asm) (by k_asm) (by k_asm) (by k_asm) (by k_asm) (by rfl) (by first | decide | omega) (by first | decide | omega) _ _ _ (by with_reducible assumption) (by assumption) (by k_asm) ?_)); intro h' tk' G' hle F' N' hb'; (try replace hle : 0 < tk' := Nat.lt_of_lt_of_le (Nat.succ_pos _) hle))
        k_with "call ref" => (k_here; (with_reducible show wpAny _ _ (call (Value.ref 96) _) _ _ _); (k_dflt (refine closes_is _ _ _ _ _ _ _ _ _ _ _ _ _ _ _ _ _ _  (by k_asm) (by k_asm) (by k_asm) (by k_asm) (by k_asm) (by rfl) (by first | decide | omega) (by first | decide | omega) _ _ _ (by with_reducible assumption) (by assumption) ?_)); intro h' tk' F' N')
        k_with "call builtin:str.replace" => (k_dflt (refine SC.replaceW (Nat.ne_of_gt (by assumption)) (Nat.succ_ne_zero _) (Nat.ne_of_lt (Nat.lt_succ_self _)) (by decide +kernel) (Nat.le_trans hsz (by decide)) (by decide +kernel) ?_))
        generalize hcd : closes ⟨cs.toArray⟩ = bb at hcl
        cases bb
        all_goals k_steps
        all_goals assumption
    · dsimp only [List.take]
      k_with_none
      k_with "all" => first | assumption | exact allLt_ne (by assumption) (by omega)
      obtain ⟨M, rfl⟩ : ∃ M : Nat, k = (M : Int) := ⟨k.toNat, by omega⟩
      have hM : M ≤ 5 := by omega
      k_with "call ref" => (k_here; (with_reducible show wpAny _ _ (call (Value.ref 89) _) _ _ _); (k_dflt (refine numbers_any _ _ _ _ _ _ _ _ _ _ _ _ _ _ _ _ _ (by k_asm) (by k_asm) (by k_asm) _ _ (rot3 (by k_asm)) (by omega) (by k_asm) (by rfl) (by first | decide | omega) (by first | decide | omega) M hM _ (by omega) _ ?_); intro q1' kk1' nvs' h' tk' nw' ps' qs' F' N' hI' h58' h51' hrc' hR'))
      k_with "exec Assign cons ListComp" => (k_here; (k_dflt (refine held_assign _ _ _ _ _ _ _ _ _ _ _ _ _ _ _ (fun _ _ => True) _ _ (by k_asm) (by k_asm) (by k_asm) (by k_asm) (by k_asm) (by rfl) (by first | decide | omega) (by first | decide | omega) (by first | assumption | exact AllBare.of_eq hg) M hM _ (by rfl) _ (by rfl) (by rfl) (by rfl) (by rfl) (by rfl) (by rfl) (by decide) (by rfl) (by decide +kernel) (by rfl) (fun _ => rfl) (fun _ => rfl) _ ?_); intro DH' h' tk' G' hys' hk' F' N' hS' hb' l1; (have hDlt : @LT.lt Nat _ (s₁.heap.objs.size + 1) DH' := l1 (_, _) (List.mem_cons_of_mem _ hrc')); (try k_lt l1); have hz : hys'.toArray.size = motzAt M := (by rw [List.size_toArray, strs_length hS', held_len M hM])))
      k_with "eval ListComp" => (k_here; (k_dflt (refine held_bad _ _ _ _ _ _ _ _ _ _ _ _ _ _ _ _ _ _ (by k_asm) (by k_asm) (by k_asm) (by k_asm) (by k_asm) (by rfl) (by first | decide | omega) (by first | decide | omega) (by assumption) DH' hys' hk' _ (by k_mem) hS' (held_short M hM) (fun r hr => (List.mem_filter.mp hr).2) (fun r hr => rowsN_codes M r (List.mem_filter.mp hr).1) (by rfl) (by rfl) (by rfl) (by decide) (by rfl) (by decide +kernel) (by rfl) (fun _ => rfl) ?_); intro DB' h' tk' G' kb' F' N' hb' l1; (try k_lt l1)))
      k_with "call builtin:len" => (k_here; (k_dflt (refine KM.len_K (n := motzAt M) (its := hys'.toArray) (c := hk') (by k_asm) (by k_mem) hz (by have := motz_small M hM; omega) ?_)))
      k_with "subscriptTail" => (k_here; (with_reducible show wpAny _ _ (subscriptTail _ _ (Value.ref _) (Value.int _ _)) _ _ _); (k_dflt (refine item_motz (vs := nvs') (kk := kk1') (by k_asm) (by k_mem) (by assumption) hM rfl ?_)); intro tz')
      k_with "ite" => first | (with_reducible refine ite_neg (by decide) ?_) | (with_reducible refine ite_pos (by decide) ?_) | (with_reducible refine ite_neg (by simp) ?_) | (with_reducible refine ite_pos (by simp) ?_)
      k_with "newTuple" => (dsimp only; (with_reducible rename News _ _ _ _ => Nq'); (try dsimp only at Nq'))
      k_with "pyIter ref" => (k_here; (with_reducible show wpAny _ _ (pyIter (Value.ref _)) (fun it s₂ => LoopAtV _ _ _ _ _ _ _ _ _ it s₂) _ _); refine Stop.go ?_)
      k_steps
      refine Stop.on ?_
      with_reducible rename News _ _ _ _ => Nq
      with_reducible rename Fr _ _ _ _ => Fq
      obtain ⟨m₀, lw, kw, wa, wb, wc, wd, tw0, F0, N0, eways, ewhole, emany, enumb, eheld, escript⟩ := loop_start Nq Fq (by k_mem) (by k_mem : (DH', listOf hys'.toArray hk') ∈ _) (by k_mem : (q1', listOf nvs'.toArray kk1') ∈ _) (nw := nw') (fun p hp => by (repeat (first | exact hp | refine List.mem_cons_of_mem _ ?_))) (by rfl) (by rfl) (by rfl) (by rfl) (by rfl) (by rfl)
      have hR := ‹IsRange _ _ _ _ _ _ _ _›
      clear Nq Fq
      refine for_range (by rfl) (M / 2 + 1) (WaysInv m₀ M) (by rfl) hR rfl (half_eq M) (by omega) F0 N0 ⟨⟨_, ewhole⟩, Same.refl⟩ ?turn ?done
      case turn =>
        intro I hlt i hi m' t' h tk it ⟨⟨tw, ew⟩, hS1⟩ F N
        replace F : Fr _ s₁.heap.objs.size _ _ := F
        replace N : News _ s₁.heap.objs.size _ _ := N
        clear F0 N0 hR
        have hi2 : i ≤ 2 := by omega
        replace F := Fr.put (Fr.put (Fr.put F ((if_neg (by decide +kernel)).trans (hS1.get (by decide +kernel) emany))) ((if_neg (by decide +kernel)).trans ((if_neg (by decide +kernel)).trans (hS1.get (by decide +kernel) eways)))) ((if_neg (by decide +kernel)).trans ((if_neg (by decide +kernel)).trans ((if_neg (by decide +kernel)).trans ew)))
        have kMark := kstMark
        k_steps
        refine Stop.on ?_
        with_reducible rename News _ _ _ _ => Ni
        with_reducible rename Fr _ _ _ _ => Fi
        obtain ⟨m₁, to1, F1, hS2, f1, f2, f3, f4, f5⟩ := inner_start (m₀ := m₀) Fi (by (repeat (first | exact hS1 | refine Same.put (by decide +kernel) ?_ | refine Same.keep (by assumption) ?_))) (by rfl) (by rfl) (by rfl) (by rfl) (by rfl)
        have hR2 := ‹IsRange _ _ _ _ _ _ _ _›
        replace hR2 : IsRange _ _ 0 (2 * (i : Int)) 1 _ _ _ := hR2
        refine for_range (by rfl) (2 * i) (InnerInv m₁ M) (by rfl) hR2 rfl (by omega) (by omega) F1 Ni ⟨⟨to1, by rw [bin_zero]; exact f4⟩, Same.refl⟩ ?iturn ?idone
        case iturn =>
          intro J hltJ j hj m2 t2 h2 tk2 itJ ⟨⟨tv, ev⟩, hS3⟩ F2 N2
          replace F2 : Fr _ s₁.heap.objs.size _ _ := F2
          replace N2 : News _ s₁.heap.objs.size _ _ := N2
          clear Fi Ni F1 hR2
          have hb1 := bin_small M j hM (by omega)
          have hb2 : (0 : Int) ≤ (bin M j : Int) ∧ (bin M j : Int) ≤ 10 := by omega
          replace F2 := Fr.put (Fr.put F2 ((if_neg (by decide +kernel)).trans (hS3.get (by decide +kernel) f3))) ((if_neg (by decide +kernel)).trans ((if_neg (by decide +kernel)).trans ev))
          have kMark := kstMark
          k_with "call ref" => (k_here; (with_reducible show wpAny _ _ (call (Value.ref 77) _) _ _ _); (k_dflt (refine dmc_any _ _ _ _ _ _ _ _ _ _ _ _ _ _ _ _ _ _ (by k_asm) (by k_asm) (by k_asm) (by k_asm) ((hR' (by omega)).more (fun p hp => by (repeat (first | exact hp | refine List.mem_cons_of_mem _ ?_)))) (by k_asm) (by rfl) (by first | decide | omega) (by first | decide | omega) M j hM (by omega) _ _ (by rfl) (by rfl) _ _ ?_)); intro c' h' tk' w1' w2' F' N' l1; (try k_lt l1))
          k_steps
          refine TurnEnd1.of (by k_asm) (cb_drop (by k_asm) fun p hp => List.mem_cons_of_mem _ hp) ?inv1
          exact ⟨⟨_, by rfl⟩, by (repeat (first | exact hS3 | refine Same.put (by decide +kernel) ?_ | refine Same.keep (by assumption) ?_))⟩
        case idone =>
          intro m3 h3 tk3 ⟨⟨tv, ev⟩, hS3⟩ F3 N3
          replace F3 : Fr _ s₁.heap.objs.size _ _ := F3
          replace N3 : News _ s₁.heap.objs.size _ _ := N3
          clear Fi Ni F1 hR2
          have hb1 := bin_small M (2 * i) hM (by omega)
          have hb2 : (0 : Int) ≤ (bin M (2 * i) : Int) ∧ (bin M (2 * i) : Int) ≤ 10 := by omega
          have hw1 := ways_small i
          have hw2 : (0 : Int) ≤ (waysL i : Int) ∧ (waysL i : Int) ≤ 5 := by omega
          have hs1 := wsum_small M i hM (by omega)
          have hs2 : (0 : Int) ≤ (wsum M i : Int) ∧ (wsum M i : Int) ≤ 1000 := by omega
          replace F3 := Fr.put (Fr.put (Fr.put (Fr.put F3 ev) ((if_neg (by decide +kernel)).trans (hS3.get (by decide +kernel) f5))) ((if_neg (by decide +kernel)).trans ((if_neg (by decide +kernel)).trans (hS3.get (by decide +kernel) f1)))) ((if_neg (by decide +kernel)).trans ((if_neg (by decide +kernel)).trans ((if_neg (by decide +kernel)).trans (hS3.get (by decide +kernel) f2))))
          have kMark := kstMark
          k_with "subscriptTail Name Name ref int" => (k_here; (with_reducible show wpAny _ _ (subscriptTail _ _ (Value.ref _) (Value.int _ _)) _ _ _); (k_dflt (refine item_ways (a := wa) (b := wb) (c := wc) (d := wd) (kk := kw) (by k_asm) (by k_mem) hi2 rfl ?_)); intro tz')
          k_steps
          refine TurnEnd1.of (by k_asm) (by k_asm) ?inv2
          exact ⟨⟨_, by rfl⟩, by (repeat (first | exact hS2.trans hS3 touchedI_sub | refine Same.put (by decide +kernel) ?_ | refine Same.keep (by first | assumption | exact (hS2 _ (by decide +kernel)).symm.trans (by assumption)) ?_))⟩
      case done =>
        intro m4 h4 tk4 ⟨⟨tw, ew⟩, hS4⟩ F4 N4
        replace F4 : Fr _ s₁.heap.objs.size _ _ := F4
        replace N4 : News _ s₁.heap.objs.size _ _ := N4
        clear F0 N0 hR
        rw [wsum_all M hM] at ew
        replace F4 := Fr.put (Fr.put (Fr.put (Fr.put (Fr.put F4 (hS4.get (by decide +kernel) escript)) ((if_neg (by decide +kernel)).trans (hS4.get (by decide +kernel) eheld))) ((if_neg (by decide +kernel)).trans ((if_neg (by decide +kernel)).trans (hS4.get (by decide +kernel) enumb)))) ((if_neg (by decide +kernel)).trans ((if_neg (by decide +kernel)).trans ((if_neg (by decide +kernel)).trans (hS4.get (by decide +kernel) emany))))) ((if_neg (by decide +kernel)).trans ((if_neg (by decide +kernel)).trans ((if_neg (by decide +kernel)).trans ((if_neg (by decide +kernel)).trans ew))))
        have kMark := kstMark
        k_with_none
        k_with "all" => first | assumption | exact allLt_ne (by assumption) (by omega)
        k_with "subscriptTail" => (k_here; (with_reducible show wpAny _ _ (subscriptTail _ _ (Value.ref _) (Value.int _ _)) _ _ _); (k_dflt (refine item_motz (vs := nvs') (kk := kk1') (by k_asm) (by k_mem) (by assumption) hM rfl ?_)); intro tz')
        k_with "ite" => first | (with_reducible refine ite_neg (by decide) ?_) | (with_reducible refine ite_pos (by decide) ?_) | (with_reducible refine ite_neg (by simp) ?_) | (with_reducible refine ite_pos (by simp) ?_)
        k_steps
        exact Mid.of M hM t (by k_asm) hS' (by assumption) (by assumption) (by kernel_rfl) (by kernel_rfl) (by kernel_rfl) hl9 (by assumption) hDlt (news4 (by k_asm) (by (repeat (first | exact hrc' | refine List.mem_cons_of_mem _ ?_))) (by k_mem) (by (repeat (first | exact h58' | refine List.mem_cons_of_mem _ ?_))) (by (repeat (first | exact h51' | refine List.mem_cons_of_mem _ ?_)))) (by assumption) rfl)
end
end Mine
theorem PySem.Challenge.cw_gl0007_01_holds : PySem.Challenge.rw_gl0007_01.Holds := by
  exact Mine.t1
