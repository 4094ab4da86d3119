import PyProof.Rows.All
import Wide.All
import OpenK.AllK
import Wide.FinOn
import PyProof.ZipIter
import PyProof.CollectWalk
import PyProof.TupleOfGen
import PyProof.EnumMake
import PyProof.EnumStmt
import PyProof.StrLawsChain
import PyProof.StrLawsTight
import PyProof.NeKinds
import KE.KLcPair
import PySem.Challenge.RW_pd0166_01
/-! The law of pd0166-01: joined from parts; each part stands in a section of its own. -/
set_option Elab.async false
/-! part A0 -/
section
/-! many ∃, ∧ opened or shown at once (one step where casesOn/intro chains copy the rest at each depth); printed by gena0.py -/
namespace Mine
theorem E2 {αa : Sort _} {αb : Sort _} {p : αa → αb → Prop} {G : Prop} (q : ∀ a b, p a b → G) : (∃ a b, p a b) → G := fun z => z.elim fun a z => z.elim fun b z => q a b z
theorem I2 {αa : Sort _} {αb : Sort _} {p : αa → αb → Prop} (a : αa) (b : αb) (z : p a b) : ∃ a b, p a b := ⟨a, b, z⟩
theorem E3 {αa : Sort _} {αb : Sort _} {αc : Sort _} {p : αa → αb → αc → Prop} {G : Prop} (q : ∀ a b c, p a b c → G) : (∃ a b c, p a b c) → G := fun z => E2 (fun a b z => z.elim fun c z => q a b c z) z
theorem I3 {αa : Sort _} {αb : Sort _} {αc : Sort _} {p : αa → αb → αc → Prop} (a : αa) (b : αb) (c : αc) (z : p a b c) : ∃ a b c, p a b c := I2 a b ⟨c, z⟩
theorem E4 {αa : Sort _} {αb : Sort _} {αc : Sort _} {αd : Sort _} {p : αa → αb → αc → αd → Prop} {G : Prop} (q : ∀ a b c d, p a b c d → G) : (∃ a b c d, p a b c d) → G := fun z => E3 (fun a b c z => z.elim fun d z => q a b c d z) z
theorem I4 {αa : Sort _} {αb : Sort _} {αc : Sort _} {αd : Sort _} {p : αa → αb → αc → αd → Prop} (a : αa) (b : αb) (c : αc) (d : αd) (z : p a b c d) : ∃ a b c d, p a b c d := I3 a b c ⟨d, z⟩
theorem E5 {αa : Sort _} {αb : Sort _} {αc : Sort _} {αd : Sort _} {αe : Sort _} {p : αa → αb → αc → αd → αe → Prop} {G : Prop} (q : ∀ a b c d e, p a b c d e → G) : (∃ a b c d e, p a b c d e) → G := fun z => E4 (fun a b c d z => z.elim fun e z => q a b c d e z) z
theorem I5 {αa : Sort _} {αb : Sort _} {αc : Sort _} {αd : Sort _} {αe : Sort _} {p : αa → αb → αc → αd → αe → Prop} (a : αa) (b : αb) (c : αc) (d : αd) (e : αe) (z : p a b c d e) : ∃ a b c d e, p a b c d e := I4 a b c d ⟨e, z⟩
theorem E6 {αa : Sort _} {αb : Sort _} {αc : Sort _} {αd : Sort _} {αe : Sort _} {αf : Sort _} {p : αa → αb → αc → αd → αe → αf → Prop} {G : Prop} (q : ∀ a b c d e f, p a b c d e f → G) : (∃ a b c d e f, p a b c d e f) → G := fun z => E5 (fun a b c d e z => z.elim fun f z => q a b c d e f z) z
theorem I6 {αa : Sort _} {αb : Sort _} {αc : Sort _} {αd : Sort _} {αe : Sort _} {αf : Sort _} {p : αa → αb → αc → αd → αe → αf → Prop} (a : αa) (b : αb) (c : αc) (d : αd) (e : αe) (f : αf) (z : p a b c d e f) : ∃ a b c d e f, p a b c d e f := I5 a b c d e ⟨f, z⟩
theorem A3 {Aa Ab Ac G : Prop} (q : Aa → Ab → Ac → G) (z : Aa ∧ Ab ∧ Ac) : G := q z.1 z.2.1 z.2.2
theorem A4 {Aa Ab Ac Ad G : Prop} (q : Aa → Ab → Ac → Ad → G) (z : Aa ∧ Ab ∧ Ac ∧ Ad) : G := q z.1 z.2.1 z.2.2.1 z.2.2.2
theorem A5 {Aa Ab Ac Ad Ae G : Prop} (q : Aa → Ab → Ac → Ad → Ae → G) (z : Aa ∧ Ab ∧ Ac ∧ Ad ∧ Ae) : G := q z.1 z.2.1 z.2.2.1 z.2.2.2.1 z.2.2.2.2
theorem A6 {Aa Ab Ac Ad Ae Af G : Prop} (q : Aa → Ab → Ac → Ad → Ae → Af → G) (z : Aa ∧ Ab ∧ Ac ∧ Ad ∧ Ae ∧ Af) : G := q z.1 z.2.1 z.2.2.1 z.2.2.2.1 z.2.2.2.2.1 z.2.2.2.2.2
theorem A8 {Aa Ab Ac Ad Ae Af Ag Ah G : Prop} (q : Aa → Ab → Ac → Ad → Ae → Af → Ag → Ah → G) (z : Aa ∧ Ab ∧ Ac ∧ Ad ∧ Ae ∧ Af ∧ Ag ∧ Ah) : G := q z.1 z.2.1 z.2.2.1 z.2.2.2.1 z.2.2.2.2.1 z.2.2.2.2.2.1 z.2.2.2.2.2.2.1 z.2.2.2.2.2.2.2
end Mine
end
/-! part L1 -/
section
open PySem PySem.W PyProof.Rows
set_option maxRecDepth 100000
namespace Mine
/-! the statement is well said: in several small checks -/
theorem said_1 : (sreFenced PySem.Challenge.rw_pd0166_01.row.prog.main && ((moduleNames PySem.Challenge.rw_pd0166_01.row.prog.main.body).isEmpty || lookedIntoSs (moduleNames PySem.Challenge.rw_pd0166_01.row.prog.main.body) PySem.Challenge.rw_pd0166_01.row.prog.main.body)) = true := by kernel_rfl
theorem said_2 : namesResolve PySem.Challenge.rw_pd0166_01.row.prog = true := by kernel_rfl
theorem said_3 : PySem.Challenge.rw_pd0166_01.row.prog.boundNames.all (fun n => !worldNames.contains n) = true := by kernel_rfl
theorem said_4 : namesMeet PySem.Challenge.rw_pd0166_01.row.prog PySem.Challenge.rw_pd0166_01.row.prog.main.body (fun _ n => attrL n) = true := by kernel_rfl
theorem said_5 : looksOpen PySem.Challenge.rw_pd0166_01.row.prog = true := by unfold looksOpen; rw [said_1, said_2, said_3, said_4]; kernel_rfl
theorem said_6 : PySem.Challenge.rw_pd0166_01.row.partSaid = true := by unfold OpenRow.partSaid; rw [said_5]; kernel_rfl
theorem said_7 : PySem.Challenge.rw_pd0166_01.row.wellSaid = true := by unfold OpenRow.wellSaid; rw [said_6]; kernel_rfl
theorem law_said : PySem.Challenge.rw_pd0166_01.wellSaid = true := by unfold OpenLaw.wellSaid; rw [said_7]; kernel_rfl
end Mine
end
/-! part W1 -/
section
example : True := by w_top off; trivial
open PySem PySem.W PyProof.Rows
open PySem.Sem (wp)
set_option maxRecDepth 100000
namespace Mine
/-! ### the logic over stacks that hold no decoder: what `bytearray(n)` asks of the stack -/
noncomputable def expF (self : Value) : Code × Pos → Bool
  | (.builtin "bytearray.__contains__" ⟨v :: _, _⟩, _) | (.builtin "bytearray.__mod__" ⟨v :: _, _⟩, _)
  | (.builtin "bytearray.__rmod__" ⟨_ :: v :: _, _⟩, _) | (.builtin "_struct.pack_into.held" ⟨v :: _, _⟩, _) => Builtin.Bytes.sameRef v self
  | (.builtin "bytearray.find.held" ⟨_ :: _ :: held, _⟩, _) => held.any (Builtin.Bytes.sameRef self)
  | (.builtin id ⟨v :: _, _⟩, _) => Builtin.Bytes.sameRef v self && Builtin.Bytes.decodersThatHold.contains id
  | _ => false
noncomputable def okCode (c : Code) : Prop := ∀ v p, expF v (c, p) = false
noncomputable def Clean (l : List (Code × Pos)) : Prop := ∀ x ∈ l, okCode x.1

structure wpC {α : Type} (M : Model) (A : Around) (t : Sem α) (Q : α → Shared → Prop) (E : Value → Shared → Prop) (s : Shared) : Prop where
  run : ∀ Γ p, Γ.In A → okCode Γ.code → Clean Γ.below → wp M Γ t (fun a _ s' => Q a s') (fun e _ s' => E e s') p s
noncomputable def codeC (M : Model) (A : Around) (c : Code) (R : Result → Shared → Prop) (s : Shared) : Prop :=
  ∀ Γ p, Γ.code = c → Γ.Below A → Clean Γ.below → wpCode M Γ R p s

section
variable {α β : Type} {M : Model} {A : Around} {E : Value → Shared → Prop} {s : Shared} {env : Env}
theorem exported_eq (self : Value) : Builtin.Bytes.exported self = (do return (← stack).any (expF self)) := rfl
theorem wpC_exported {self : Value} {Q : Bool → Shared → Prop} (h : Q false s) : wpC M A (Builtin.Bytes.exported self) Q E s := .mk fun Γ p _ hc hb => by
  rw [exported_eq]
  show Q (((Γ.code, p) :: Γ.below).any (expF self)) s
  have : (((Γ.code, p) :: Γ.below).any (expF self)) = false := by
    rw [List.any_eq_false]
    intro x hx
    rcases List.mem_cons.mp hx with rfl | hx
    · simp [hc self p]
    · have := hb x hx self x.2
      simpa using this
  rw [this]; exact h
theorem wpC_of {t : Sem α} {Q : α → Shared → Prop} (h : wpAny M A t Q E s) : wpC M A t Q E s := .mk fun Γ p hΓ _ _ => h Γ p hΓ
theorem wpC_mono {t : Sem α} {Q Q' : α → Shared → Prop} {E' : Value → Shared → Prop} (h : wpC M A t Q E s) (hQ : ∀ a s, Q a s → Q' a s) (hE : ∀ e s, E e s → E' e s) : wpC M A t Q' E' s :=
  .mk fun Γ p hΓ hc hb => Sem.wp_mono M Γ t (fun a _ s => hQ a s) (fun e _ s => hE e s) p s (h.run Γ p hΓ hc hb)
theorem wpC_bind {m : Sem α} {f : α → Sem β} {Q : β → Shared → Prop} (h : wpC M A m (fun a s' => wpC M A (f a) Q E s') E s) : wpC M A (m >>= f) Q E s := .mk fun Γ p hΓ hc hb => by
  rw [Sem.wp_bind']
  exact Sem.wp_mono M Γ m (fun a p' s' h' => h'.run Γ p' hΓ hc hb) (fun _ _ _ h' => h') p s (h.run Γ p hΓ hc hb)
theorem wpC_pure {a : α} {Q : α → Shared → Prop} (h : Q a s) : wpC M A (pure a) Q E s := .mk fun _ _ _ _ _ => h
theorem wpC_holding {vs : List Value} {m : Sem α} {Q : α → Shared → Prop} (h : wpC M A m Q E s) : wpC M A (holding vs m) Q E s :=
  .mk fun Γ p hΓ hc hb => by rw [Sem.wp_holding]; exact h.run Γ p hΓ hc hb
theorem wpC_keep {vs : List Value} {m : Sem α} {Q : α → Shared → Prop} (h : wpC M A m Q E s) : wpC M A (m.keep vs) Q E s :=
  .mk fun Γ p hΓ hc hb => by rw [Sem.wp_keep]; exact h.run Γ p hΓ hc hb
theorem wpC_operating {vs : List Value} {m : Sem Value} {Q : Value → Shared → Prop} (h : wpC M A m Q E s) : wpC M A (operate vs m) Q E s :=
  .mk fun Γ p hΓ hc hb => by rw [Sem.wp_operate]; exact h.run Γ p hΓ hc hb
theorem wpC_standAt {pos : Pos} {Q : Unit → Shared → Prop} (h : Q () s) : wpC M A (standAt pos) Q E s := .mk fun _ _ _ _ _ => h
theorem wpC_onRaise {m : Sem α} {k : Value → Sem Unit} {Q : α → Shared → Prop} (h : wpC M A m Q (fun _ _ => False) s) : wpC M A (m.onRaise k) Q E s := .mk fun Γ p hΓ hc hb => by
  rw [Sem.wp_onRaise]
  exact Sem.wp_mono M Γ m (fun _ _ _ h' => h') (fun e p' s' h' => h'.elim) p s (h.run Γ p hΓ hc hb)
theorem wpC_noRaise {t : Sem α} {Q : α → Shared → Prop} (h : wpC M A t Q (fun _ _ => False) s) : wpC M A t Q E s := wpC_mono h (fun _ _ x => x) fun _ _ x => x.elim

theorem codeC_of {c : Code} {R : Result → Shared → Prop} (h : codeAny M A c R s) : codeC M A c R s := fun Γ p hc hΓ _ => h Γ p hc hΓ
theorem codeC_mono {c : Code} {R R' : Result → Shared → Prop} (h : codeC M A c R s) (hR : ∀ r s, R r s → R' r s) : codeC M A c R' s := fun Γ p hc hΓ hb => wpCode_mono hR (h Γ p hc hΓ hb)
theorem clean_enter {Γ : Ctx} {c : Code} {h : Option Value} {p : Pos} (hc : okCode Γ.code) (hb : Clean Γ.below) : Clean (Γ.enter c h p).below := fun x hx => by
  rcases List.mem_cons.mp hx with rfl | hx
  · exact hc
  · exact hb x hx
theorem wpC_run {c : Code} {h : Option Value} {Q : Flow → Shared → Prop}
    (hc : codeC M (A.mark h) c (fun r s' => match r with | .ok f => Q f s' | .error e => E e s') s) (hnb : h ≠ some byPass := by intro x; cases x) : wpC M A (run c h) Q E s :=
  .mk fun Γ p hΓ ho hb => by rw [Sem.wp_run]; exact hc _ p rfl (hΓ.enter c h p hnb) (clean_enter ho hb)
theorem wpC_call {f : Value} {pos : List Value} {kw : List (Str × Value)} {Q : Value → Shared → Prop}
    (hc : codeC M A (.call f ⟨pos, kw⟩) (fun r s' => match r with | .ok (.ret v) => Q v s' | .ok _ => False | .error e => E e s') s) : wpC M A (call f pos kw) Q E s :=
  .mk fun Γ p hΓ ho hb => by
    show wp M Γ (runValue _) _ _ p s
    rw [Sem.wp_runValue]; exact hc _ p rfl (hΓ.enter _ none p (by intro x; cases x)) (clean_enter ho hb)
theorem codeC_of_tree {c : Code} {R : Result → Shared → Prop} (ok : okCode c)
    (h : wpC M (A.under c) (M.den c) (fun fin s' => match fin with | .done f => R (.ok f) s' | .again c' => c'.quiet = true ∧ codeC M A c' R s')
      (fun e s' => R (.error e) s') s) : codeC M A c R s := fun Γ p hc hΓ hb => by
  rw [wpCode_iff_wp, hc]
  refine Sem.wp_mono M Γ _ (fun fin p' s' h' => ?_) (fun _ _ _ h' => h') p s (h.run Γ p (hc ▸ hΓ.in) (hc ▸ ok) hb)
  cases fin with
  | done f => exact h'
  | again c' => exact ⟨h'.1, h'.2 (Γ.goto c') p' rfl (hΓ.goto c') hb⟩
theorem okCode_call (f : Value) (a : Args) : okCode (.call f a) := fun _ _ => rfl
theorem okCode_func (b : List Stmt) (e : Env) : okCode (.func b e) := fun _ _ => rfl
theorem okCode_while (t : Expr) (b o : List Stmt) (e : Env) : okCode (.whileLoop t b o e) := fun _ _ => rfl
theorem okCode_for (t : Expr) (i : Value) (b o : List Stmt) (e : Env) : okCode (.forLoop t i b o e) := fun _ _ => rfl
theorem okCode_block (b : List Stmt) (e : Env) : okCode (.block b e) := fun _ _ => rfl

/-! statements -/
theorem execsC_cons {st : Stmt} {rest : List Stmt} {Q : Flow → Shared → Prop} (h : wpC M A (exec st env) (fun f s' => match f with | .next => wpC M A (execs rest env) Q E s' | f => Q f s') E s) :
    wpC M A (execs (st :: rest) env) Q E s := .mk fun Γ p hΓ hc hb => by
  rw [execs_cons, Sem.wp_bind']
  refine Sem.wp_mono M Γ _ (fun f p' s' h' => ?_) (fun _ _ _ h' => h') _ _ (h.run Γ p hΓ hc hb)
  cases f <;> first | exact h'.run Γ p' hΓ hc hb | exact h'
theorem AssignC {x : Str} {pos' : Pos} {value : Expr} {pos : Pos} {Q : Flow → Shared → Prop}
    (h : wpC M A (eval value env) (fun v s₁ => wpC M A (storeName env x v) (fun _ => Q .next) E s₁) E s)
    (hs : swapsWith value (some (.Name x pos')) pos.line env = pure false := by rfl) : wpC M A (exec (.Assign [.Name x pos'] value pos) env) Q E s := .mk fun Γ p hΓ hc hb => by
  simp only [exec_Assign_Name env x pos' value pos hs, Sem.wp_bind', Sem.wp_cmd_standAt, Sem.wp_bindName, Sem.wp_pure']
  exact Sem.wp_mono M Γ _ (fun v _ s₁ h₁ => h₁.run Γ _ hΓ hc hb) (fun _ _ _ h' => h') _ _ (h.run Γ _ hΓ hc hb)
theorem ReturnC {e : Expr} {pos : Pos} {Q : Flow → Shared → Prop} (h : wpC M A (eval e env) (fun v => Q (.ret v)) E s) : wpC M A (exec (.Return (some e) pos) env) Q E s := .mk fun Γ p hΓ hc hb => by
  simp only [exec_Return_some, Sem.wp_bind', Sem.wp_cmd_standAt, Sem.wp_pure']; exact h.run Γ _ hΓ hc hb
theorem IfC {test : Expr} {body orelse : List Stmt} {pos : Pos} {Q : Flow → Shared → Prop}
    (h : wpC M A (isTrue test env (eval test env)) (fun b s₂ => if b then wpC M A (execs body env) Q E s₂ else wpC M A (execs orelse env) Q E s₂) E s) :
    wpC M A (exec (.If test body orelse pos) env) Q E s := .mk fun Γ p hΓ hc hb => by
  simp only [exec_If, Sem.wp_bind', Sem.wp_cmd_standAt]
  refine Sem.wp_mono M Γ _ (fun b p₂ s₂ h₂ => ?_) (fun _ _ _ h' => h') _ _ (h.run Γ _ hΓ hc hb)
  cases b <;> exact h₂.run Γ p₂ hΓ hc hb
theorem CompareC {l r : Expr} {op : CmpOp} {pos : Pos} {whole : Sem Value} {Q : Bool → Shared → Prop}
    (h : wpC M A (eval l env) (fun a s₁ => wpC M A (eval r env) (fun b s₂ => wpC M A (compareOp op a b) (fun c s₃ => wpC M A (truthy c) Q E s₃) E s₂) E s₁) E s)
    (hm : behindInMarks op r = false := by with_unfolding_all rfl) : wpC M A (isTrue (.Compare l [op] [r] pos) env whole) Q E s := .mk fun Γ p hΓ hc hb => by
  simp only [isTrue_Compare1, markedBehindIn_of_false hm, Sem.wp_bind', Sem.wp_holding, Sem.wp_cmd_standAt, Sem.wp_operate]
  exact Sem.wp_mono M Γ _ (fun a p₁ s₁ h₁ => Sem.wp_mono M Γ _ (fun b _ s₂ h₂ => Sem.wp_mono M Γ _ (fun c p₃ s₃ h₃ => h₃.run Γ p₃ hΓ hc hb)
    (fun _ _ _ h' => h') _ _ (h₂.run Γ _ hΓ hc hb)) (fun _ _ _ h' => h') _ _ (h₁.run Γ p₁ hΓ hc hb)) (fun _ _ _ h' => h') _ _ (h.run Γ p hΓ hc hb)

/-! a call of a def: the callee and the arguments by the library's walk, the call itself here -/
theorem CallC_eval {func : Expr} {args : List Expr} {pos : Pos} {Q : Value → Shared → Prop}
    (h : wpAny M A (eval func env) (fun f s₁ => wpC M A (callWith pos f [] (backTo pos (starEach args env)) []) Q E s₁) E s)
    (he : eval (.Call func args [] pos) env = (do callWith pos (← eval func env) [] (backTo pos (starEach args env)) (backToKw pos (keywordEach [] env))) := by rfl) :
    wpC M A (eval (.Call func args [] pos) env) Q E s := by
  rw [he]; exact wpC_bind (wpC_of h)
theorem callWithC {K : Frag} {h₀ : Heap} {f : Value} {first : List Value} {pos : Pos} {e : Expr} {rest : List Expr} {Q : Value → Shared → Prop} (_X : K.In h₀) (hk : keepIn K f = true)
    (h : wpAny M A (spliced (backTo pos (starEach (e :: rest) env))) (fun vs s₁ => K.In s₁.heap ∧ wpC M A (call f (first ++ vs)) Q E s₁) E s)
    (he : starEach (e :: rest) env = (false, eval e env) :: starEach rest env := by rfl) (hplain : (backTo pos (starEach rest env)).any (·.1) = false := by rfl) :
    wpC M A (callWith pos f first (backTo pos (starEach (e :: rest) env)) []) Q E s := by
  rw [he] at h ⊢
  have hpl : (((backTo pos ((false, eval e env) :: starEach rest env)).any (·.1)) || ([] : List (Option Str × Sem Value)).any (·.1.isNone)) = false := by
    show ((false || (backTo pos (starEach rest env)).any (·.1)) || false) = false; rw [hplain]; rfl
  have h' : wpAny M A (evalArgs f true (backTo pos ((false, eval e env) :: starEach rest env)) []) (fun a s₁ => K.In s₁.heap ∧ wpC M A (call f (first ++ a.pos) a.kw) Q E s₁) E s := Calls.evalArgs_plain h
  unfold callWith
  refine wpC_bind (wpC_of (wpAny_holding (wpAny_mono h' (fun a s₁ h₁ => ?_) fun _ _ x => x)))
  refine wpC_bind (wpC_standAt ?_)
  refine Exists.elim (keeps_K (M := M) hk _ h₁.1) ?_
  intro k
  refine And.elim ?_
  intro hk'
  intro L
  simp only [hpl]
  refine wpC_bind (wpC_of (L.here ?_))
  have tail : ∀ {t : Sem Value}, wpC M A t Q E s₁ → wpC M A (t >>= fun r => holding [r] point >>= fun _ => pure r) Q E s₁ :=
    fun ht => wpC_bind (wpC_mono ht (fun r s₂ hr => wpC_bind (wpC_of (wpAny_holding (wpAny_point (wpC_pure hr))))) fun _ _ x => x)
  have marked (mk : Value) : wpC M A (callMarked mk f (first ++ a.pos) a.kw) Q E s₁ := by unfold callMarked; exact wpC_keep h₁.2
  rcases hk' with rfl | rfl | rfl <;> dsimp only <;> first | exact tail h₁.2 | (split <;> first | exact tail h₁.2 | exact tail (marked _))
end

section
variable {prog : Program} {w : World} {A : Around} {E : Value → Shared → Prop} {R : Result → Shared → Prop} {s : Shared}
theorem codeC_func {body : List Stmt} {env : Env}
    (h : wpC (model prog w) (A.deeper env) (execs body env) (fun f s' => R (.ok (.ret (match f with | .ret v => v | _ => .none))) s') (fun _ _ => False) s) :
    codeC (model prog w) A (.func body env) R s := by
  refine codeC_of_tree (okCode_func _ _) ?_
  show wpC _ (A.deeper env) (do point; match ← (execs body env).onRaise (leaving env) with | .ret v => ret v | _ => ret .none) _ _ s
  refine wpC_bind (wpC_of (wpAny_point (wpC_bind (wpC_onRaise (wpC_mono h (fun f s' h' => ?_) fun _ _ h' => h')))))
  cases f <;> exact wpC_pure h'
theorem codeC_call_function {a : Addr} {args : Args} {o : Obj} {fd : FuncData} {body : List Stmt} (hroom : A.depth < recursionLimit)
    (ho : s.heap.get? a = some o)
    (hd' : o.data = .func fd) (hco : fd.scope.isCoroutine = false) (hgen : fd.scope.isGenerator = false) (hbody : fd.body = .stmts body) (hcd : s.heap.CodeRec fd.code fd.qualname)
    (h : wpAny (model prog w) A.in1 (bindArgs fd args) (fun binds s₁ =>
      wpAny (model prog w) A.in1 (newFunctionEnv fd.scope fd.globals fd.closure binds (fd.qualname ++ ".<locals>.") (some a) fd.code none fd.builtins)
        (fun env s₂ => s₂.heap.NoLimit ∧ codeC (model prog w) A (.func body env) R s₂) (fun e s' => R (.error e) s') s₁) (fun e s' => R (.error e) s') s) :
    codeC (model prog w) A (.call (.ref a) args) R s := by
  refine codeC_of_tree (okCode_call _ _) (wpC_of ?_)
  show wpAny _ A.in1 (callAny (.ref a) args) _ _ s
  simp only [callAny]
  refine wpAny_bind (wpAny_load ho ?_)
  refine Mine.E4 ?_ hcd
  clear hcd
  intro c oc vs tq
  refine Mine.A4 ?_
  intro hc hoc hdc
  intro hq
  simp only [hd', callFunction, hco, hgen, hbody, hc]
  rw [hc] at h
  refine wpAny_bind (m := field (.ref c) 1) (wpAny_field hoc hdc hq (wpAny_bind (wpAny_pure ?_)))
  exact wpAny_bind (wpAny_mono h (fun binds s₁ h₁ => wpAny_bind (wpAny_mono h₁ (fun env s₂ h₂ => wpAny_bind (wpAny_enterFrame h₂.1 hroom
    (wpAny_pure (And.intro rfl h₂.2)))) fun _ _ h' => h')) fun _ _ h' => h')
theorem codeC_call_def {a : Addr} {o : Obj} {fd : FuncData} {body : List Stmt} {args : Args} {binds : List (Str × Value)}
    (hroom : A.depth < recursionLimit) (ho : s.heap.get? a = some o) (hdata : o.data = .func fd) (hlim : s.heap.NoLimit) (hcd : s.heap.CodeRec fd.code fd.qualname)
    (hbody : fd.body = .stmts body) (hbind : BindsTo s fd args binds)
    (hcell : ∀ x ∈ fd.scope.names, x.2 ≠ .cell) (hloc : ∀ x ∈ binds, fd.scope.names.lookup x.1 = some .local)
    (h : ∀ h₀, h₀.Ns s.heap.objs.size (fun x => binds.reverse.lookup x) → (∀ b o, s.heap.get? b = some o → h₀.get? b = some o) →
      wpC (model prog w) (A.deeper (callEnv fd s.heap.objs.size a)) (execs body (callEnv fd s.heap.objs.size a)) (fun f s' => R (.ok (.ret (match f with | .ret v => v | _ => .none))) s')
        (fun _ _ => False) { s with heap := h₀, toks := s.toks + binds.length })
    (hco : fd.scope.isCoroutine = false := by rfl) (hgen : fd.scope.isGenerator = false := by rfl) (hk : fd.scope.kind = .function := by rfl) :
    codeC (model prog w) A (.call (.ref a) args) R s := by
  refine codeC_call_function hroom ho hdata hco hgen hbody hcd (hbind _ _ _ _ ?_)
  refine wpAny_newFunctionEnv hcell hloc (fun h₀ hns₀ hsb₀ => ⟨hlim.fresh _ hsb₀, codeC_func (h h₀ hns₀ fun b o e => ?_)⟩) hk
  exact hsb₀.extBut b o (Nat.ne_of_lt (Heap.lt_size e)) (Heap.get?_push_of_some _ e)
end

/-- a def of the written part entered: the callee's frame over a ground that holds all but the ledger -/
theorem code_defC' {prog : Program} {w : World} {A A₀ : Around} {s : Shared} {K : Frag} {L : Addr} {h₀ base : Heap} {m mg mb : Str → Option Value} {news : List (Addr × Obj)} {p : Program} {loose : List Str} {mean : ExcName → Option Value}
    {env : Env} {outer : List Env} {R : Result → Shared → Prop} {name qual : Str} {params : Arguments} {body : List Stmt} {scope : Scope} {dV kV doc pm cdv ct oc : Value} {an od : Option Addr} {osl : Array (Option Value)} {f : Addr} {args : Args} {binds : List (Str × Value)}
    (B : Below A₀ base outer h₀) (F : Fr h₀ L s.heap m) (X₀ : K.In h₀) (N : News h₀ L s.heap news) (T : Top p loose mean mg mb h₀) (hA : A.frames = some (env :: outer)) (hf : env.frame = some L) (hke : env.scope.kind = .function)
    (ho : K.lookup f = some ⟨oc, od, .func (fnOf name qual params body scope dV kV doc pm an cdv ct), osl⟩) (hcd : codeIn K cdv qual = true) (hroom : A.depth < recursionLimit)
    (hbind : BindsTo s (fnOf name qual params body scope dV kV doc pm an cdv ct) args binds) (hloc : ∀ y ∈ binds, scope.names.lookup y.1 = some .local)
    (h : ∀ g L' h₁, Fr h₀ L g m → Fr g L' h₁ (fun y => binds.reverse.lookup y) → News g L' h₁ news → Below A base (env :: outer) g → K.In g → Top p loose mean mg mb g →
      wpC (model prog w) (A.deeper (envOf qual scope L' f cdv)) (execs body (envOf qual scope L' f cdv))
        (fun fl s' => LeaveK h₀ L m g R (match fl with | .ret v => v | _ => .none) s') (fun _ _ => False)
        { s with heap := h₁, toks := s.toks + binds.length })
    (hco : scope.isCoroutine = false) (hgen : scope.isGenerator = false) (hk : scope.kind = .function)
    (hcell : ∀ x ∈ scope.names, x.2 ≠ .cell) : codeC (model prog w) A (.call (.ref f) args) R s := by
  refine Mine.A4 ?_ (groundX (R := R) B F N hA hf hke)
  intro FG BG st
  intro lv
  refine codeC_call_def (fd := fnOf name qual params body scope dV kV doc pm an cdv ct) (body := body) (binds := binds) hroom ((X₀.keeps F.keep) _ _ ho) rfl (T.nolimit.keeps F.keep) (codeRec_of (X₀.keeps F.keep) hcd) rfl hbind hcell hloc (fun h₁ hns hk₁ => ?_) hco hgen hk
  exact wpC_mono (h _ s.heap.objs.size h₁ FG ⟨hns, fun b o e => hk₁ b o (of_hideAll _ e), Nat.le_of_eq (hideAll_size _ _)⟩
    (fun p hp => ⟨hk₁ _ _ (N p hp).1, Nat.ne_of_lt (Heap.lt_size (N p hp).1), hideAll_none _ (List.mem_map_of_mem hp)⟩) BG (X₀.keeps st) (T.keeps st)) (fun fl s' hl => lv _ _ hl) fun _ _ y => y
section
variable {α : Type} {M : Model} {A : Around} {t : Sem α} {E : Value → Shared → Prop} {s : Shared}
theorem letQ {Q₀ : α → Shared → Prop} (h : let Q := Q₀; wpAny M A t Q E s) : wpAny M A t Q₀ E s := h
theorem letQC {Q₀ : α → Shared → Prop} (h : let Q := Q₀; wpC M A t Q E s) : wpC M A t Q₀ E s := h
theorem letP {P₀ : Prop} (h : let P := P₀; P) : P₀ := h
theorem letW {Q : α → Shared → Prop} (h : let P := wpAny M A t Q E s; P) : wpAny M A t Q E s := h
theorem letWC {Q : α → Shared → Prop} (h : let P := wpC M A t Q E s; P) : wpC M A t Q E s := h
end
theorem letEnv {M : Model} {A₀ : Around} {body : List Stmt} {env₀ : Env} {Q₀ : Flow → Shared → Prop} {E₀ : Value → Shared → Prop} {s : Shared} (h : let A := A₀; let env := env₀; let Q := Q₀; let E := E₀; wpAny M A (execs body env) Q E s) : wpAny M A₀ (execs body env₀) Q₀ E₀ s := h
theorem letEnvC {M : Model} {A₀ : Around} {body : List Stmt} {env₀ : Env} {Q₀ : Flow → Shared → Prop} {E₀ : Value → Shared → Prop} {s : Shared} (h : let A := A₀; let env := env₀; let Q := Q₀; let E := E₀; wpC M A (execs body env) Q E s) : wpC M A₀ (execs body env₀) Q₀ E₀ s := h
theorem letS {α : Type} {M : Model} {A : Around} {t : Sem α} {Q : α → Shared → Prop} {E : Value → Shared → Prop} {s₀ : Shared} (h : let s := s₀; wpAny M A t Q E s) : wpAny M A t Q E s₀ := h
theorem letSC {α : Type} {M : Model} {A : Around} {t : Sem α} {Q : α → Shared → Prop} {E : Value → Shared → Prop} {s₀ : Shared} (h : let s := s₀; wpC M A t Q E s) : wpC M A t Q E s₀ := h
theorem ifP {c a b : Prop} [Decidable c] (h : c) (x : a) : if c then a else b := by rw [if_pos h]; exact x
theorem ifN {c a b : Prop} [Decidable c] (h : ¬ c) (x : b) : if c then a else b := by rw [if_neg h]; exact x
end Mine
end
/-! part H0 -/
section
example : True := by w_top off; trivial
open PySem PySem.Spec PySem.Calls PySem.W PyProof.Rows
open PySem.Sem (wp)
set_option maxRecDepth 100000
/-! ### the head over the one stack that the call really has: nothing below it -/
namespace HeadC
open Mine
theorem ok_caller : okCode (.builtin "claim.caller" {}) := fun _ _ => rfl
theorem thread_endsC {prog : Program} {w : World} {t : Sem PySem.Fin} {s : Shared} {R : Result → Shared → Prop} (hreg : s.asleep)
    (h : wpC (model prog w) callerA t (fun fin s' => ∃ f, fin = .done f ∧ (R (.ok f) s' ∧ leftWithCleanup s'.gens = false)) (fun e s' => R (.error e) s' ∧ leftWithCleanup s'.gens = false) s) :
    ∃ n r s' s'', runN (denote table) prog w n s ⟨t, .builtin "claim.caller" {}, default, []⟩ = .halted (outcomeOf r) s' ∧
      schedN (denote table) prog w n (.single s ⟨t, .builtin "claim.caller" {}, default, []⟩) = .halted (outcomeOf r) s' ∧ s'.forget = s''.forget ∧ R r s'' := by
  have h1 := h.run ⟨.builtin "claim.caller" {}, none, none, [], none⟩ default caller_in ok_caller (fun _ hx => nomatch hx)
  have h2 : wp (model prog w) ⟨.builtin "claim.caller" {}, none, none, [], none⟩ t (Sem.finPost (model prog w) ⟨.builtin "claim.caller" {}, none, none, [], none⟩ (fun r s' => R r s' ∧ leftWithCleanup s'.gens = false)) (fun e _ s' => R (.error e) s' ∧ leftWithCleanup s'.gens = false) default s := by
    refine Sem.wp_mono _ _ t (fun fin p' s' h' => ?_) (fun _ _ _ h' => h') _ _ h1
    refine Exists.elim h' ?_
    clear h'
    intro f
    refine And.elim ?_
    intro hR1
    subst hR1
    intro hf
    exact hf
  refine Mine.E4 ?_ (wp_halts_full (M := model prog w) (R := R) hreg h2)
  intro n r s₁ s₂
  refine Mine.A4 ?_
  intro hs hn hfo
  intro hR
  exact Mine.I4 n r s₂ s₁ ⟨hn, hs, hfo, hR⟩

theorem callFromC {c : ClaimW} {tree : List Value → Sem PySem.Fin} {w : World} {s : Shared} {free : Addr → Prop} {gens : Prop} {kept : Heap → Prop} (hz : s.asleep) (hgens : s.gens = #[])
    (hspec : ∀ args, c.pre args = true → WData.layableAll args = true → ∀ ord : List DictEntry → List DictEntry, (∀ l, (ord l).Perm l) →
      ∃ vs s₁, layAllW c.records (classAt s.heap) w.params ord args s = some (vs, s₁) ∧
        wpC (model c.prog w) callerA (tree vs) (fun fin s' => ∃ f, fin = .done f ∧ (c.Ends s args vs s₁ (.ok f) s' ∧ s'.os = s.os ∧ AllBare s'.gens ∧ kept s'.heap))
          (fun e s' => c.Ends s args vs s₁ (.error e) s' ∧ s'.os = s.os ∧ AllBare s'.gens ∧ kept s'.heap) s₁) :
    c.CallFrom (fun vs => ⟨tree vs, .builtin "claim.caller" {}, default, []⟩) w free gens kept s := by
  intro args hpre hlay ord hord
  refine Mine.E2 ?_ (hspec args hpre hlay ord hord)
  intro vs s₁
  refine And.elim ?_
  intro hlaid
  intro hcode
  have hal := layAllW_rest _ _ _ hlaid
  obtain ⟨k, r, s', s'', hrun, hsched, hfo, hcase, hos, hkp⟩ := thread_endsC (prog := c.prog) (w := w) (t := tree vs) (s := s₁)
    (R := fun r s' => c.Ends s args vs s₁ r s' ∧ s'.os = s.os ∧ kept s'.heap) (Shared.asleep_of_life hal.2.2.2 hz)
    (wpC_mono hcode (fun _ _ ⟨f, e, h1, h2, h3, h4⟩ => ⟨f, e, ⟨h1, h2, h4⟩, leftWithCleanup_false_of_bare h3⟩) fun _ _ ⟨h1, h2, h3, h4⟩ => ⟨⟨h1, h2, h4⟩, leftWithCleanup_false_of_bare h3⟩)
  refine Mine.A5 ?_ (Shared.forget_eq hfo)
  intro eh _ _ eo
  intro _
  have hcase := hcase.congr eh
  have hkp : kept s'.heap := by rw [eh]; exact hkp
  rw [← eo] at hos
  have hlife : s'.heap.life = s.heap.life := (runN_life _ _ _ hrun).trans hal.2.2.2
  refine Mine.I2 vs s₁ ⟨hlaid, Mine.I3 k _ s' ⟨hsched, ?_, (fun _ i x hx => by rw [hgens] at hx; simp at hx), hkp, by rw [hlife], Shared.rest_eq hos⟩⟩
  rcases hcase with ⟨v, rfl, d1, d2, d3, d4, d5⟩ | ⟨e, ob, cls, rfl, d1, d2, d3, d4, d5⟩
  · exact .inl ⟨v, rfl, d1, d2, d3, fun b o y _ => d4 b o y, d5⟩
  · exact .inr (Mine.I3 e ob cls ⟨rfl, d1, d2, d3, d4, fun b o y _ => d5 b o y⟩)

noncomputable abbrev WalkC (q : Program) (loose : List Str) (XP : (Str → Option Value) → Heap → Prop) (YP : World → Heap → Prop) (r : RowW) (d : DefRec) (kwd : List (Str × Expr)) : Prop :=
  ∀ (w : World) (s₀ s₁ : Shared) (mg mb : Str → Option Value), Ground q loose r.records XP w s₀ mg mb s₁.heap → YP w s₁.heap → ∀ (a : Addr) (o : Obj) (pm cd doc dV kV : Value), s₁.heap.get? a = some o →
    o.data = .func { docDef d.name d.params d.body d.scope pm cd doc with defaults := dV, kwdefaults := kV } → s₁.heap.CodeRec cd d.name → Dflts mg s₁.heap d.params kwd dV kV → mg d.name = some (.ref a) → s₁.gens = #[] →
    ∀ (args : List WData) (vals : List Value) (as : List Addr), r.claim.pre args = true → WData.layableAll args = true → ReadsAllW r.records (classAt s₀.heap) s₁.heap vals args as → WellAll w.params s₁.heap vals args → (∀ a ∈ as, (a == sysModules) = false) →
      codeC (model r.prog w) callerA (.call (.ref a) ⟨vals, []⟩) (GoodWG r.claim (classAt s₀.heap) (ExcName.means s₀.heap) args s₁) s₁

/-- the library's tactic for the top asks for a lemma by this name: here it is the one over clean stacks -/
theorem PySem.W.holds_open {r : OpenRow} {q : Program} {loose : List Str} {Xt : Shared → Bool} {XP : (Str → Option Value) → Heap → Prop} {α : Type} {Yf : Shared → α} {Ya : World → α} {YP : World → Heap → Prop} {d : DefRec} {kwd : List (Str × Expr)} {N : Nat}
    (left' : ∀ w, (openEnds treeTable r.prog w N).map (fun s => (openSeen q loose (importedModules r.prog.main.body) Xt true s, Yf s)) = some (openGood q loose, Ya w)) (hY : ∀ w s, Yf s = Ya w → YP w s.heap) (hYk : ∀ w h h', YP w h → (∀ b o, h.get? b = some o → h'.get? b = some o) → YP w h')
    (hX : ∀ s, Xt s = true → XP (s.heap.nsMap mainGlobals) s.heap) (hXk : ∀ mg h h', XP mg h → (∀ b o, h.get? b = some o → h'.get? b = some o) → XP mg h')
    (hdef : defOf q r.name = some (d, kwd)) (hp : r.prog.theDef r.name = some (d.params, d.body, d.scope)) (hk : kwWritten? d.params.kwonlyargs d.params.kw_defaults = some kwd) (hRf : ∀ s, Xt s = true → RecFacts r.records s.heap) (hwr : (!r.writes || r.records.isEmpty) = true)
    (_ : True) (ok : (chainsOk q && opensWell r.prog && (frees r.toRowW && r.within.isEmpty)) = true) (hb : r.prog.bare) (hw : r.toRowW.promised)
    (call' : r.wellSaid = true ∧ WalkC q loose XP YP r.toRowW d kwd) : r.Holds := by
  have left : LeftO r.prog q loose Xt Yf Ya N := left'
  obtain ⟨k1, call⟩ := call'
  obtain ⟨ok, k5⟩ := Bool.and_eq_true_iff.mp ok
  obtain ⟨hch, o1⟩ := Bool.and_eq_true_iff.mp ok
  obtain ⟨k5, k6⟩ := Bool.and_eq_true_iff.mp k5
  refine Mine.A5 ?_ (frees_parts k5)
  intro hsame hu ha hap
  intro hm
  have hi := ident_freeW hu ha hap
  have hwi : r.toRowW.claim.within = [] := List.isEmpty_iff.mp k6
  refine ⟨k1, hw, ⟨hb, o1, by show r.makers.map _ = []; rw [hm]; rfl⟩, hw.witness, fun w => ⟨(left.behind hX hch w).1, fun s' hs' => ?_⟩⟩
  refine Exists.elim ((left.behind (XP := fun mg h => XP mg h ∧ RecFacts r.records h) (fun s hs => ⟨hX s hs, hRf s hs⟩) hch w).2 s' hs') ?_
  intro s₀
  refine Mine.A3 ?_
  intro hf hg0
  refine fun hq => Exists.elim hq ?_; clear hq
  intro s
  refine Mine.A6 ?_
  intro hT hz hgens hg G00
  intro y
  have G0 : Ground q loose [] XP w s (s.heap.nsMap mainGlobals) (s.heap.nsMap builtinsNs) s.heap := { G00 with X := G00.X.1 }
  have RF := G00.X.2
  have hgens : s.gens = #[] := Array.eq_empty_of_size_eq_zero (beq_iff_eq.mp hgens)
  have G : Ground q loose r.records XP w s _ _ s.heap := RF.ground G0
  refine ⟨s₀, hf, hg0, s, hT, fun n hn => ?_, RF.1, RF.2.1, ?_⟩
  · obtain rfl : n = r.name := by split at hn <;> simp_all
    exact pinned_of_view hg G0 hdef hp hk
  refine callFromC (c := r.toRowW.claim) hz hgens fun args hpre hlay ord hord => ?_
  obtain ⟨⟨vs, s₁⟩, hlaid⟩ := Option.isSome_iff_exists.mp (layAllW_isSome (P := w.params) (ord := ord) G.has args r.args s (pre_splitW hpre).1)
  have keeps := layAllW_keeps _ _ _ hlaid
  have hal := layAllW_rest _ _ _ hlaid
  refine Exists.elim (reads_layAllW hord _ _ _ hlaid hlay s₁.heap (fun _ _ e => e)) ?_
  intro as
  refine Mine.A3 ?_
  intro hrd hin
  intro hold
  have L : Laid r.records w s s₁ args vs as := ⟨⟨ord, hord, hlaid⟩, hrd, hin, hold, keeps, hal.1.trans hgens, hal.2.2.1⟩
  have G₁ := G.keeps hXk keeps
  refine Mine.E6 ?_ (G₁.fn hdef)
  intro a o pm cd doc dV
  refine fun hq => Exists.elim hq ?_; clear hq
  intro kV
  refine Mine.A5 ?_
  intro h1 h2 h3 h4
  intro h5
  have h := call w s s₁ _ _ G₁ (hYk _ _ _ (hY w s y) keeps) a o pm cd doc dV kV h2 h3 h4 h5 (defOf_name hdef ▸ h1) L.gens args vs as hpre hlay L.reads L.well (L.low G.low)
  refine Mine.I2 vs s₁ ⟨hlaid, ?_⟩
  have fin : ∀ {res : Result} {s'}, GoodWG r.toRowW.claim (classAt s.heap) (ExcName.means s.heap) args s₁ res s' → _ := fun g => g.laid (c := r.toRowW.claim) hsame hwi hi L
  refine wpC_bind (wpC_of (wpAny_nsGet G₁.T.g ?_))
  rw [show (s.heap.nsMap mainGlobals) r.name = some (.ref a) from h1]
  refine wpC_bind (wpC_call (codeC_mono h fun res s' g => ?_))
  have z := fin g
  rcases id g.1 with ⟨v, _, _, rfl, _⟩ | ⟨e, _, _, rfl, _⟩
  · exact wpC_pure ⟨_, rfl, z.1, z.2.1, z.2.2, fun q => ⟨namesKept_of hT hg _ keeps g.2.1.old, noTable hwr q⟩⟩
  · exact ⟨z.1, z.2.1, z.2.2, fun q => ⟨namesKept_of hT hg _ keeps g.2.1.old, noTable hwr q⟩⟩
end HeadC
end
/-! part Top0 -/
section
open PySem PySem.W PyProof.Rows
set_option maxRecDepth 100000
namespace HeadC
set_option maxHeartbeats 8000000 in
open_top hd for PySem.Challenge.rw_pd0166_01.row
end HeadC
end
/-! part M1 -/
section
open PySem PySem.W PyProof.Rows HeadC
set_option maxRecDepth 100000
namespace Mine

/-! ### bytes < bytes -/
theorem slot_bytes_lt : Slot "bytes" (cmpInfo .Lt).2.1 "bytes.__lt__" :=
  .of (owner := "bytes") (n := "__lt__") (by rw [typeLookup_type, builtinLookup_eq_fast]; kernel_rfl) (by decide +kernel) (by decide +kernel) (by decide +kernel)
    (by first | exact .inl (by decide +kernel) | exact .inr (by decide +kernel)) (by rw [isSubtype_type]; kernel_rfl)
theorem entry_bytes_lt : entryFor table "bytes.__lt__" = some Builtin.«bytes.__lt__» := entryFor_of_tree (by kernel_rfl)
theorem args_bytes_lt_2 (a b : Value) : argsOk "bytes.__lt__" ⟨[a, b], []⟩ := by unfold argsOk; kernel_rfl


theorem gives_bytes_lt (b c : Array UInt8) (t u : Tok) : Gives (Builtin.«bytes.__lt__» ⟨[.bytes b t, .bytes c u], []⟩) (.val (.bool (Builtin.Bytes.order b.toList c.toList == .lt))) := by
  refine .of_wp fun M A E s Q hq => ?_
  show wpAny M A (isInstance (.bytes c u) (.type "bytes") >>= fun r => _) _ E s
  refine wpAny_bind (wpAny_isInstance (typeIs_bytes s c u) F.sub_bytes_bytes ?_)
  exact wpAny_pure ⟨_, rfl, hq⟩

theorem lt_bytes {prog : Program} {w : World} {A : Around} {E : Value → Shared → Prop} {s : Shared} {b c : Array UInt8} {t u : Tok} {Q : Value → Shared → Prop}
    (h : Q (.bool (Builtin.Bytes.order b.toList c.toList == .lt)) s) : wpAny (model prog w) A (compareOp .Lt (.bytes b t) (.bytes c u)) Q E s :=
  compareOp_gives (op := .Lt) (typeIs_bytes s b t) (typeIs_bytes s c u) slot_bytes_lt entry_bytes_lt (args_bytes_lt_2 _ _) (gives_bytes_lt b c t u) (fun e => nomatch e) h

/-! ### the items of the heap: a price, a way, a word -/
noncomputable abbrev Item := Int × Str × Array UInt8
noncomputable def itemLt (x y : Item) : Bool :=
  if x.1 = y.1 then (if x.2.1 = y.2.1 then (if x.2.2.toList = y.2.2.toList then false else Builtin.Bytes.order x.2.2.toList y.2.2.toList == .lt) else decide (x.2.1.cps.toList < y.2.1.cps.toList))
  else decide (x.1 < y.1)

section
variable {prog : Program} {w : World} {A : Around} {E : Value → Shared → Prop} {s : Shared}
theorem tuple_lt_tree {a b : Addr} {p1 p2 : Int} {w1 w2 : Str} {d1 d2 : Array UInt8} {t1 t2 u1 u2 v1 v2 : Tok} {P : PySem.Fin → Shared → Prop}
    (ha : IsTup s.heap a #[.int p1 t1, .str w1 u1, .bytes d1 v1]) (hb : IsTup s.heap b #[.int p2 t2, .str w2 u2, .bytes d2 v2])
    (h : P (.done (.ret (.bool (itemLt (p1, w1, d1) (p2, w2, d2))))) s) :
    wpAny (model prog w) A (Builtin.«tuple.__lt__» ⟨[.ref a, .ref b], []⟩) P E s := by
  have hTb := hb.typeIs
  refine Exists.elim ha ?_
  clear ha
  intro oa
  refine Mine.A3 ?_
  intro hoa _
  refine fun hq => Exists.elim hq ?_; clear hq
  intro na
  intro hda
  refine Exists.elim hb ?_
  clear hb
  intro ob
  refine Mine.A3 ?_
  intro hob _
  refine fun hq => Exists.elim hq ?_; clear hq
  intro nb
  intro hdb
  show wpAny _ _ (isInstance (.ref b) (.type "tuple") >>= _) _ _ s
  refine wpAny_bind (wpAny_isInstance hTb isSubtype_tuple_tuple ?_)
  simp only [Bool.not_true, Bool.false_eq_true, if_false]
  refine wpAny_bind (wpAny_tupleItemsOf hoa hda ?_)
  refine wpAny_bind (wpAny_tupleItemsOf hob hdb ?_)
  refine wpAny_bind ?_
  simp only [List.zip_cons_cons, List.zip_nil_right, List.forIn_cons, List.forIn_nil]
  refine wpAny_bind (wpAny_bind (wpAny_eqBool_int ?_))
  by_cases h1 : p1 = p2
  · subst h1
    simp only [beq_self_eq_true, Bool.not_true, Bool.false_eq_true, if_false]
    refine wpAny_pure (wpAny_bind (wpAny_bind (wpAny_eqBool_str ?_)))
    by_cases h2 : w1 = w2
    · subst h2
      simp only [decide_true, Bool.not_true, Bool.false_eq_true, if_false]
      refine wpAny_pure (wpAny_bind (wpAny_bind (eqBool_bytes ?_)))
      by_cases h3 : d1.toList = d2.toList
      · simp only [h3, decide_true, Bool.not_true, Bool.false_eq_true, if_false]
        refine wpAny_pure (wpAny_pure (wpAny_pure ?_))
        have e : itemLt (p1, w1, d1) (p1, w1, d2) = false := by simp [itemLt, h3]
        rw [e] at h
        exact h
      · simp only [h3, decide_false, Bool.not_false, if_true]
        refine wpAny_bind (wpAny_rule (wpAny_bind (lt_bytes (wpAny_bind (wpAny_pure (wpAny_pure (wpAny_pure (wpAny_pure ?_))))))))
        have e : itemLt (p1, w1, d1) (p1, w1, d2) = (Builtin.Bytes.order d1.toList d2.toList == .lt) := by simp [itemLt, h3]
        rw [e] at h
        exact h
    · simp only [h2, decide_false, Bool.not_false, if_true]
      refine wpAny_bind (wpAny_rule (wpAny_bind (PyProof.Rows.lt_str (wpAny_bind (wpAny_pure (wpAny_pure (wpAny_pure (wpAny_pure ?_))))))))
      have e : itemLt (p1, w1, d1) (p1, w2, d2) = decide (w1.cps.toList < w2.cps.toList) := by simp [itemLt, h2]
      rw [e] at h
      exact h
  · have h1' : (p1 == p2) = false := by simpa using h1
    simp only [h1', Bool.not_false, if_true]
    refine wpAny_bind (wpAny_rule (wpAny_bind (PyProof.Rows.lt_int (wpAny_bind (wpAny_pure (wpAny_pure (wpAny_pure (wpAny_pure ?_))))))))
    have e : itemLt (p1, w1, d1) (p2, w2, d2) = decide (p1 < p2) := by simp [itemLt, h1]
    rw [e] at h
    exact h

theorem lt_items {a b : Addr} {x y : Item} {t1 t2 u1 u2 v1 v2 : Tok} {Q : Value → Shared → Prop} (hu : A.units < cLine)
    (ha : IsTup s.heap a #[.int x.1 t1, .str x.2.1 u1, .bytes x.2.2 v1]) (hb : IsTup s.heap b #[.int y.1 t2, .str y.2.1 u2, .bytes y.2.2 v2])
    (h : Q (.bool (itemLt x y)) s) : wpAny (model prog w) A (compareOp .Lt (.ref a) (.ref b)) Q E s :=
  cmp_ofLt (wpAny_richCompare_same_room (op := .Lt) ha.typeIs hb.typeIs F.slot_tuple_lt
      (wpAny_call_entry F.slot_tuple_lt ha.typeIs F.entry_tuple_lt (tuple_lt_tree ha hb ⟨_, rfl, (fun e => nomatch e), h⟩) (F.args_tuple_lt_2 _ _)) hu)
end
end Mine
end
/-! part M2 -/
section
open PySem PySem.W PyProof.Rows HeadC
set_option maxRecDepth 100000
namespace Mine
/-- what a call of a def of the text's own does: the caller's frame stays, the ledger turns as `Post` says. -/
noncomputable def CallC (prog : Program) (w : World) (mean : ExcName → Option Value) (mg mb : Str → Option Value) (k : Nat) (f : Addr) (args : List Value) (news : List (Addr × Obj)) (Post : Value → List (Addr × Obj) → Prop) : Prop :=
  ∀ (dp un : Nat) (gd : Option (List Code)) (cn : Str) (cs : Scope) (a : Addr) (ccd : Value) (cl : List (Str × Addr)) (outer : List Env) (A₀ : Around) (base h₀ : Heap) (L : Addr) (m : Str → Option Value) (s : Shared) (Q E : Value → Shared → Prop),
    Below A₀ base outer h₀ → Fr h₀ L s.heap m → (hd.heap_1 w.params).In h₀ → News h₀ L s.heap news → Top hd.view_1 (looseW hd.view_1 []) mean mg mb h₀ → cs.kind = .function → dp + k < recursionLimit → un + 8 * k < cLine →
    (∀ r news' h' tk', Fr h₀ L h' m → News h₀ L h' news' → Post r news' → Q r { s with heap := h', toks := tk' }) →
    wpAny (model prog w) (ktrTop dp un gd cn cs L a ccd cl outer) (call (.ref f) args) Q E s

theorem CallC.use {prog : Program} {w : World} {mean : ExcName → Option Value} {mg mb : Str → Option Value} {k : Nat} {f : Addr} {args : List Value} {news : List (Addr × Obj)} {Post : Value → List (Addr × Obj) → Prop}
    {dp un : Nat} {gd : Option (List Code)} {cn : Str} {cs : Scope} {a : Addr} {ccd : Value} {cl : List (Str × Addr)} {outer : List Env} {A₀ : Around} {base h₀ : Heap} {L : Addr} {m : Str → Option Value} {s : Shared} {Q E : Value → Shared → Prop}
    (C : CallC prog w mean mg mb k f args news Post)
    (B : Below A₀ base outer h₀) (F : Fr h₀ L s.heap m) (X : (hd.heap_1 w.params).In h₀) (N : News h₀ L s.heap news) (T : Top hd.view_1 (looseW hd.view_1 []) mean mg mb h₀) (hk : cs.kind = .function) (hdp : dp + k < recursionLimit) (hun : un + 8 * k < cLine)
    (ret : ∀ r news' h' tk', Fr h₀ L h' m → News h₀ L h' news' → Post r news' → Q r { s with heap := h', toks := tk' }) :
    wpAny (model prog w) (ktrTop dp un gd cn cs L a ccd cl outer) (call (.ref f) args) Q E s := C _ _ _ _ _ _ _ _ _ _ _ _ _ _ _ _ _ B F X N T hk hdp hun ret

/-- the names that a map holds -/
noncomputable def Has (m : Str → Option Value) : List (Str × Value) → Prop
  | [] => True
  | (x, v) :: r => m x = some v ∧ Has m r
noncomputable def ovs (m : Str → Option Value) : List (Str × Value) → Str → Option Value
  | [] => m
  | (x, v) :: r => fun y => if y = x then some v else ovs m r y
theorem ovs_eq {m : Str → Option Value} : ∀ {l : List (Str × Value)}, Has m l → ovs m l = m
  | [], _ => rfl
  | (x, v) :: r, h => by
    funext y
    show (if y = x then some v else ovs m r y) = m y
    rw [ovs_eq h.2]
    by_cases hy : y = x
    · subst hy; simp [h.1]
    · simp [hy]
theorem frs {h₀ h : Heap} {L : Addr} {m : Str → Option Value} {l : List (Str × Value)} (F : Fr h₀ L h m) (e : Has m l) : Fr h₀ L h (ovs m l) := by rw [ovs_eq e]; exact F
theorem frsx {h₀ h : Heap} {L : Addr} {m : Str → Option Value} {l : List (Str × Value)} (F : Fr h₀ L h m) (e : Has m l) : ∃ m', Fr h₀ L h (ovs m' l) := ⟨m, by rw [ovs_eq e]; exact F⟩
theorem frsG {G : Prop} {h₀ h : Heap} {L : Addr} {m : Str → Option Value} {l : List (Str × Value)} (F : Fr h₀ L h m) (e : Has m l) (k : ∀ m', Fr h₀ L h (ovs m' l) → G) : G := k m (by rw [ovs_eq e]; exact F)

section
variable {prog : Program} {w : World} {A : Around} {E : Value → Shared → Prop} {s : Shared} {h₀ : Heap} {L D : Addr} {m : Str → Option Value} {news : List (Addr × Obj)} {vs : List Value} {n : Nat}

theorem item_at {value slice : PySem.Expr} {k : Nat} {kk : Int} {u : Tok} {v : Value} {Q : Value → Shared → Prop} (N : News h₀ L s.heap news) (hm : (D, listOf vs.toArray n) ∈ news) (hk : kk = (k : Int)) (hz : vs.length < 2 ^ 62) (hx : vs[k]? = some v)
    (h : Q v s) (hs : subscripted slice false (.ref D) (.int kk u) = operate [.ref D, .int kk u] (getItem (.ref D) (.int kk u)) := by with_unfolding_all rfl) :
    wpAny (model prog w) A (subscriptTail value slice (.ref D) (.int kk u)) Q E s := by
  subst hk
  have hL : s.heap.IsList D vs.toArray := PySem.IsL.isList (n := n) (N _ hm).1
  have hlt : k < vs.length := (List.getElem?_eq_some_iff.mp hx).1
  exact tail_any hL.typeIs slot_list_getitem.lookup (wpAny_getItem_list hL (by lia) (by lia) (by simpa using hx) h) hs

theorem set_at {k : Nat} {kk : Int} {u : Tok} {v : Value} {Q : Unit → Shared → Prop} (F : Fr h₀ L s.heap m) (N : News h₀ L s.heap ((D, listOf vs.toArray n) :: news)) (hne : ∀ p ∈ news, p.1 ≠ D) (hk : kk = (k : Int)) (hz : vs.length < 2 ^ 62) (hlt : k < vs.length)
    (h : ∀ h', Fr h₀ L h' m → News h₀ L h' ((D, listOf (vs.set k v).toArray n) :: news) → Q () { s with heap := h' }) :
    wpAny (model prog w) A (setItem (.ref D) (.int kk u) v) Q E s := by
  subst hk
  have z := N (D, listOf vs.toArray n) (.head _)
  refine ki_setAt z.1 (by lia) (by lia) (by simpa using hlt) (h _ (F.change (Heap.SameBut.update ..) z.2.1 z.2.2) (ki_turn (pre := []) _ N (fun _ h => nomatch h) hne ?_ ?_))
  · apply Array.toList_inj.mp
    simp
  · simp

noncomputable def WEnd (h₀ : Heap) (L : Addr) (s : Shared) (X : (Str → Option Value) → List (Addr × Obj) → Prop) (s' : Shared) : Prop :=
  ∃ h' tk m' news', s' = { s with heap := h', toks := tk } ∧ Fr h₀ L h' m' ∧ News h₀ L h' news' ∧ X m' news'
/-- a while, by an invariant with a measure and what holds at its end. -/
theorem While_inv3 {env : Env} {Q : Flow → Shared → Prop} {test : Expr} {body : List Stmt} {pos : Pos} (J : Nat → (Str → Option Value) → List (Addr × Obj) → Prop) (X : (Str → Option Value) → List (Addr × Obj) → Prop) {n₀ : Nat}
    (F : Fr h₀ L s.heap m) (N : News h₀ L s.heap news) (hJ : J n₀ m news)
    (turn : ∀ n m₁ news₁ h₁ tk₁, Fr h₀ L h₁ m₁ → News h₀ L h₁ news₁ → J n m₁ news₁ →
      wpAny (model prog w) A (isTrue test env (eval test env)) (fun b s₂ =>
        if b = true then wpAny (model prog w) A (execs body env) (WhileStep2 h₀ L s J (fun f s' => f = .next ∧ WEnd h₀ L s X s') n) E s₂ else WEnd h₀ L s X s₂) E { s with heap := h₁, toks := tk₁ })
    (done : ∀ m₁ news₁ h₁ tk₁, Fr h₀ L h₁ m₁ → News h₀ L h₁ news₁ → X m₁ news₁ → Q .next { s with heap := h₁, toks := tk₁ })
    (hE : PassesOwn (model prog w) A env E := by passes_own) :
    wpAny (model prog w) A (exec (.While test body [] pos) env) Q E s := by
  refine wpAny_mono (While_inv2 (Q := fun f s' => f = .next ∧ WEnd h₀ L s X s') J F N hJ (fun n m₁ news₁ h₁ tk₁ F₁ N₁ J₁ => wpAny_mono (turn n m₁ news₁ h₁ tk₁ F₁ N₁ J₁) (fun b s₂ hb => ?_) (fun _ _ e => e)) hE) (fun f s' h => ?_) (fun _ _ e => e)
  · cases b with
    | true => simpa using hb
    | false => exact ⟨rfl, by simpa using hb⟩
  · refine And.elim ?_ h
    clear h
    intro hR1
    subst hR1
    refine Mine.E4 ?_
    intro h' tk m' news'
    refine Mine.A4 ?_
    intro hR2
    subst hR2
    intro F' N'
    intro x
    exact done _ _ _ _ F' N' x

theorem cut {t : Sem Flow} {Q : Flow → Shared → Prop} (X : (Str → Option Value) → List (Addr × Obj) → Prop)
    (h1 : wpAny (model prog w) A t (fun f s' => f = .next ∧ WEnd h₀ L s X s') E s)
    (h2 : ∀ m₁ news₁ h₁ tk₁, Fr h₀ L h₁ m₁ → News h₀ L h₁ news₁ → X m₁ news₁ → Q .next { s with heap := h₁, toks := tk₁ }) :
    wpAny (model prog w) A t Q E s := by
  refine wpAny_mono h1 (fun f s' h => ?_) (fun _ _ e => e)
  refine And.elim ?_ h
  clear h
  intro hR3
  subst hR3
  refine Mine.E4 ?_
  intro h' tk m' news'
  refine Mine.A4 ?_
  intro hR4
  subst hR4
  intro F' N'
  intro x
  exact h2 _ _ _ _ F' N' x
end
end Mine
end
/-! part M3 -/
section
open PySem PySem.W PyProof.Rows HeadC
set_option maxRecDepth 100000
namespace Mine
theorem News.sub {h₀ h : Heap} {L : Addr} {a b : List (Addr × Obj)} (N : News h₀ L h a) (hs : ∀ p ∈ b, p ∈ a) : News h₀ L h b := fun p hp => N p (hs p hp)

/-- a loop's source: an iterator I of n turns, the i-th of which gives a value of `P i`; beside it the objects fx stay -/
noncomputable def LoopSrc (prog : Program) (w : World) (A : Around) (h₀ : Heap) (L : Addr) (m : Str → Option Value) (news fx : List (Addr × Obj)) (n : Nat) (P : Nat → Value → Prop) (s : Shared) (it : Value) (s₂ : Shared) : Prop :=
  ∃ I St h₂ tk₂, it = .ref I ∧ s₂ = { s with heap := h₂, toks := tk₂ } ∧ Walks prog w A I (I :: fx.map (·.1)) [I] n P St ∧ St 0 h₂ ∧ Fr h₀ L h₂ m ∧ News h₀ L h₂ news ∧ (∀ p ∈ fx, h₂.get? p.1 = some p.2) ∧
    I ≠ L ∧ h₀.get? I = none ∧ (∀ p ∈ news, p.1 < I) ∧ (∀ p ∈ fx, p.1 ≠ I) ∧ ∀ i h, St i h → ∃ oI, h.get? I = some oI

noncomputable def FStep (h₀ : Heap) (L : Addr) (s : Shared) (I : Addr) (oI : Obj) (J X : (Str → Option Value) → List (Addr × Obj) → Prop) (f : Flow) (s₃ : Shared) : Prop :=
  match f with
  | .next | .cont => ∃ h' tk m₂ news₂, s₃ = { s with heap := h', toks := tk } ∧ Fr h₀ L h' m₂ ∧ News h₀ L h' ((I, oI) :: news₂) ∧ (∀ p ∈ news₂, p.1 ≠ I) ∧ J m₂ news₂
  | .brk => WEnd h₀ L s X s₃
  | .ret _ => False

section
variable {prog : Program} {w : World} {A : Around} {E : Value → Shared → Prop} {s : Shared} {h₀ : Heap} {m : Str → Option Value} {news : List (Addr × Obj)} {env : Env} {fx : List (Addr × Obj)} {n : Nat} {P : Nat → Value → Prop}

theorem iter_loop {v : Value} {x : Str} {px : Pos} {body : List Stmt} {Q : Flow → Shared → Prop} (J : Nat → (Str → Option Value) → List (Addr × Obj) → Prop) (X : (Str → Option Value) → List (Addr × Obj) → Prop)
    (src : wpAny (model prog w) A (pyIter v) (LoopSrc prog w A h₀ env.locals m news fx n P s) (fun _ _ => False) s)
    (hfx : ∀ p ∈ fx, h₀.get? p.1 = some p.2 ∨ ∀ i m₁ news₁, J i m₁ news₁ → p ∈ news₁)
    (hJ : J 0 m news)
    (turn : ∀ i v m₁ news₁ h tk I oI, i < n → P i v → (∀ p ∈ news, p.1 < I) → (∀ p ∈ news₁, p.1 ≠ I) → J i m₁ news₁ → Fr h₀ env.locals h (fun y => if y = x then some v else m₁ y) → News h₀ env.locals h ((I, oI) :: news₁) →
      wpAny (model prog w) A (execs body env) (FStep h₀ env.locals s I oI (J (i + 1)) X) (fun _ _ => False) { s with heap := h, toks := tk })
    (stop : ∀ m₁ news₁, J n m₁ news₁ → X m₁ news₁)
    (done : ∀ m₁ news₁ h₁ tk₁, Fr h₀ env.locals h₁ m₁ → News h₀ env.locals h₁ news₁ → X m₁ news₁ → Q .next { s with heap := h₁, toks := tk₁ })
    (hx : env.kindOf x = some .local := by rfl) (hp : (env.scope.kind == .class || (env.scope.kind == .module && env.locals != env.globals)) = false := by rfl) :
    wpAny (model prog w) A (pyIter v) (fun it s₂ => codeAny (model prog w) A (.forLoop (.Name x px) it body [] env) (fun r s' => match r with | .ok f => Q f s' | .error e => cameBackBy (model prog w) A env E e s') s₂) E s := by
  refine wpAny_noRaise (wpAny_mono src (fun it s₂ hs => ?_) fun _ _ e => e)
  try ((fail_if_success (with_reducible show Gz)); with_reducible (first | (refine letW ?_; intro Gz) | (refine letWC ?_; intro Gz)))
  refine Mine.E4 ?_ hs
  clear hs
  intro I St h₂ tk₂
  refine Mine.A8 ?_
  intro hR1
  subst hR1
  intro hR2
  subst hR2
  intro W hst F N hfix
  refine Mine.A5 ?_
  intro hIL hI0 hlt hne
  intro hSt
  refine codeAny_forLoop (fun k s' => ∃ h' tk m' news' i, s' = { s with heap := h', toks := tk } ∧ St i h' ∧ Fr h₀ env.locals h' m' ∧ News h₀ env.locals h' news' ∧ J i m' news' ∧ i ≤ n ∧ k = n - i ∧ (∀ p ∈ news', p.1 ≠ I) ∧ (∀ p ∈ fx, h'.get? p.1 = some p.2)) ?_ (n - 0)
    (Mine.I5 h₂ tk₂ m news 0 ⟨rfl, hst, F, N, hJ, Nat.zero_le _, rfl, (fun p hp => Nat.ne_of_lt (hlt p hp)), hfix⟩)
  rintro k s' hz2
  try ((fail_if_success (with_reducible show Gz)); with_reducible (first | (refine letW ?_; intro Gz) | (refine letWC ?_; intro Gz)))
  refine Mine.E5 ?_ hz2
  clear hz2
  intro h' tk m' news' i
  refine Mine.A8 ?_
  intro hR3
  subst hR3
  intro hst' F' N' hJ' hi hR4
  subst hR4
  refine And.elim ?_
  intro hnI
  intro hfix'
  try ((fail_if_success (with_reducible show wpAny _ _ _ Qz _ _)); with_reducible (first | (refine letQ ?_; intro Qz) | (refine letQC ?_; intro Qz)))
  try ((fail_if_success (with_reducible show wpAny _ _ _ _ _ Sz)); with_reducible (first | (refine letS ?_; intro Sz) | (refine letSC ?_; intro Sz)))
  have moveF : ∀ {h''}, (∀ b o, b ∉ [I] → h'.get? b = some o → h''.get? b = some o) → Fr h₀ env.locals h'' m' := fun hk => by
    try ((fail_if_success (with_reducible show Gz)); with_reducible (first | (refine letW ?_; intro Gz) | (refine letWC ?_; intro Gz)))
    refine Mine.E3 ?_ F'.ns
    intro oL e1 e2
    refine And.elim ?_
    intro hoL
    intro r
    exact ⟨Mine.I3 oL e1 e2 ⟨hk _ _ (by simpa using fun q => hIL q.symm) hoL, r⟩, fun b o e => hk _ _ (by intro q; rw [List.mem_singleton.mp q, hI0] at e; cases e) (F'.keep b o e), F'.above⟩
  by_cases hin : i < n
  · refine wpAny_mono (W.item i _ (fun r s₁ => ∃ v h₁ tk₁, r = some v ∧ s₁ = { s with heap := h₁, toks := tk₁ } ∧ P i v ∧ St (i + 1) h₁ ∧ (∀ b o, b ∉ [I] → h'.get? b = some o → h₁.get? b = some o)) (fun _ _ => False) hin hst' fun v h₁ tk₁ hP hs₁ hk => Mine.I3 v h₁ tk₁ ⟨rfl, rfl, hP, hs₁, hk⟩) (fun r s₁ hr => ?_) (fun _ _ e => e.elim)
    try ((fail_if_success (with_reducible show Gz)); with_reducible (first | (refine letW ?_; intro Gz) | (refine letWC ?_; intro Gz)))
    refine Mine.E3 ?_ hr
    clear hr
    intro v h₁ tk₁
    refine Mine.A5 ?_
    intro hR5
    subst hR5
    intro hR6
    subst hR6
    intro hP hs₁
    intro hk
    have F₁ := moveF hk
    have N₁ : News h₀ env.locals h₁ news' := fun p hp => ⟨hk _ _ (by simpa using hnI p hp) (N' p hp).1, (N' p hp).2⟩
    have fix₁ : ∀ p ∈ fx, h₁.get? p.1 = some p.2 := fun p hp => hk _ _ (by simpa using hne p hp) (hfix' p hp)
    try ((fail_if_success (with_reducible show Gz)); with_reducible (first | (refine letW ?_; intro Gz) | (refine letWC ?_; intro Gz)))
    obtain ⟨oI₁, hoI₁⟩ := hSt _ _ hs₁
    have fxL : ∀ p ∈ fx, p.1 ≠ env.locals := fun p hp => by
      rcases hfx p hp with h | h
      · exact Nat.ne_of_lt (Nat.lt_of_lt_of_le (Heap.lt_size h) F'.above)
      · exact (N' p (h _ _ _ hJ')).2.1
    refine wpAny_assign_Name (wpAny_storeName_local hx F₁.ns (fun h₃ hn₃ hs₃ => ?_) hp)
    have F₃ := F₁.set hn₃ hs₃
    have N₃ := N₁.set hs₃
    have NI : News h₀ env.locals h₃ ((I, oI₁) :: news') := fun p hp => by
      rcases List.mem_cons.mp hp with rfl | hp
      · exact ⟨(hs₃.2 _ hIL).trans hoI₁, hIL, hI0⟩
      · exact N₃ p hp
    refine wpAny_mono (turn i v m' news' h₃ _ I oI₁ hin hP hlt hnI hJ' F₃ NI) (fun f s₃ hf => ?_) (fun _ _ e => e.elim)
    have hst₃ : St (i + 1) h₃ := W.frame _ _ _ hs₁ fun b hb o e => (hs₃.2 b (by
      rcases List.mem_cons.mp hb with rfl | hb
      · exact hIL
      · try ((fail_if_success (with_reducible show Gz)); with_reducible (first | (refine letW ?_; intro Gz) | (refine letWC ?_; intro Gz)))
        refine Exists.elim (List.mem_map.mp hb) ?_
        intro p
        refine And.elim ?_
        intro hp
        intro hR7
        subst hR7
        exact fxL p hp)).trans e
    have fin : FStep h₀ env.locals s I oI₁ (J (i + 1)) X .next s₃ → ∃ k, k < n - i ∧ ∃ h' tk m' news' i, s₃ = { s with heap := h', toks := tk } ∧ St i h' ∧ Fr h₀ env.locals h' m' ∧ News h₀ env.locals h' news' ∧ J i m' news' ∧ i ≤ n ∧ k = n - i ∧ (∀ p ∈ news', p.1 ≠ I) ∧ (∀ p ∈ fx, h'.get? p.1 = some p.2) := by
      rintro hz0
      try ((fail_if_success (with_reducible show Gz)); with_reducible (first | (refine letW ?_; intro Gz) | (refine letWC ?_; intro Gz)))
      refine Mine.E4 ?_ hz0
      clear hz0
      intro h₄ tk₄ m₄ news₄
      refine Mine.A5 ?_
      intro hR8
      subst hR8
      intro F₄ N₄ hne₄
      intro J₄
      try ((fail_if_success (with_reducible show wpAny _ _ _ Qz _ _)); with_reducible (first | (refine letQ ?_; intro Qz) | (refine letQC ?_; intro Qz)))
      try ((fail_if_success (with_reducible show wpAny _ _ _ _ _ Sz)); with_reducible (first | (refine letS ?_; intro Sz) | (refine letSC ?_; intro Sz)))
      have fix₄ : ∀ p ∈ fx, h₄.get? p.1 = some p.2 := fun p hp => by
        rcases hfx p hp with h | h
        · exact F₄.keep _ _ h
        · exact (N₄ p (.tail _ (h _ _ _ J₄))).1
      refine ⟨n - (i + 1), ⟨by omega, Mine.I5 h₄ tk₄ m₄ news₄ (i + 1) ⟨rfl, W.frame _ _ _ hst₃ fun b hb o e => ?_, F₄, fun p hp => N₄ p (.tail _ hp), J₄, hin, rfl, hne₄, fix₄⟩⟩⟩
      rcases List.mem_cons.mp hb with rfl | hb
      · rw [(NI _ (.head _)).1] at e; cases e; exact (N₄ _ (.head _)).1
      · try ((fail_if_success (with_reducible show Gz)); with_reducible (first | (refine letW ?_; intro Gz) | (refine letWC ?_; intro Gz)))
        refine Exists.elim (List.mem_map.mp hb) ?_
        intro p
        refine And.elim ?_
        intro hp
        intro hR9
        subst hR9
        have : h₃.get? p.1 = some p.2 := (hs₃.2 _ (fxL p hp)).trans (fix₁ p hp)
        rw [this] at e; cases e; exact fix₄ p hp
    cases f with
    | next => exact fin hf
    | cont => exact fin hf
    | brk =>
      try ((fail_if_success (with_reducible show Gz)); with_reducible (first | (refine letW ?_; intro Gz) | (refine letWC ?_; intro Gz)))
      refine Mine.E4 ?_ hf
      clear hf
      intro h₄ tk₄ m₄ news₄
      refine Mine.A4 ?_
      intro hR10
      subst hR10
      intro F₄ N₄
      intro x₄
      exact done _ _ _ _ F₄ N₄ x₄
    | ret v => exact hf.elim
  · have hin' : i = n := by omega
    subst hin'
    refine wpAny_mono (W.done _ (fun r s₁ => ∃ h₁ tk₁, r = none ∧ s₁ = { s with heap := h₁, toks := tk₁ } ∧ (∀ b o, b ∉ [I] → h'.get? b = some o → h₁.get? b = some o)) (fun _ _ => False) hst' fun h₁ tk₁ hk => Mine.I2 h₁ tk₁ ⟨rfl, rfl, hk⟩) (fun r s₁ hr => ?_) (fun _ _ e => e.elim)
    try ((fail_if_success (with_reducible show Gz)); with_reducible (first | (refine letW ?_; intro Gz) | (refine letWC ?_; intro Gz)))
    refine Mine.E2 ?_ hr
    clear hr
    intro h₁ tk₁
    refine Mine.A3 ?_
    intro hR11
    subst hR11
    intro hR12
    subst hR12
    intro hk
    refine wpAny_execs_nil ?_
    exact done _ _ _ _ (moveF hk) (fun p hp => ⟨hk _ _ (by simpa using hnI p hp) (N' p hp).1, (N' p hp).2⟩) (stop _ _ hJ')

theorem src_list {E : Value → Shared → Prop} {L l : Addr} {vs : List Value} {c : Nat} (hh : A.handled = none) (F : Fr h₀ L s.heap m) (N : News h₀ L s.heap news) (hm : (l, listOf vs.toArray c) ∈ news) :
    wpAny (model prog w) A (pyIter (.ref l)) (LoopSrc prog w A h₀ L m news [(l, listOf vs.toArray c)] vs.length (fun i v => vs[i]? = some v) s) E s := by
  have hl : s.heap.IsList l vs.toArray := N.isList hm
  have hne : l ≠ s.heap.objs.size := Nat.ne_of_lt (Heap.lt_size (N _ hm).1)
  refine wpAny_pyIter_list hl ?_
  have W := Walks.list (prog := prog) (w := w) hh s.heap.objs.size l hne vs.toArray
  simp only [List.size_toArray, List.getElem?_toArray] at W
  refine Mine.I4 _ _ _ s.toks ⟨rfl, rfl, W, ⟨⟨_, Heap.get?_push_size _ rfl, rfl, rfl⟩, hl.at fun o e => Heap.get?_push_of_some _ e⟩, F.push _, (fun p hp => ⟨Heap.get?_push_of_some _ (N p hp).1, (N p hp).2⟩), ?_, Nat.ne_of_gt F.ns.lt, next_is_new F, (fun p hp => Heap.lt_size (N p hp).1), ?_, ?_⟩
  · intro p hp
    rw [List.mem_singleton.mp hp]
    exact Heap.get?_push_of_some _ (N _ hm).1
  · intro p hp
    rw [List.mem_singleton.mp hp]
    exact hne
  · rintro i h hz2
    try ((fail_if_success (with_reducible show Gz)); with_reducible (first | (refine letW ?_; intro Gz) | (refine letWC ?_; intro Gz)))
    obtain ⟨⟨o, ho, _⟩, _⟩ := hz2
    try ((fail_if_success (with_reducible show wpAny _ _ _ Qz _ _)); with_reducible (first | (refine letQ ?_; intro Qz) | (refine letQC ?_; intro Qz)))
    try ((fail_if_success (with_reducible show wpAny _ _ _ _ _ Sz)); with_reducible (first | (refine letS ?_; intro Sz) | (refine letSC ?_; intro Sz)))
    exact ⟨o, ho⟩
theorem src_tuple {E : Value → Shared → Prop} {L l : Addr} {vs : List Value} {c : Nat} (hh : A.handled = none) (F : Fr h₀ L s.heap m) (N : News h₀ L s.heap news) (hm : (l, ({ cls := .type "tuple", data := .seq vs.toArray c } : Obj)) ∈ news) :
    wpAny (model prog w) A (pyIter (.ref l)) (LoopSrc prog w A h₀ L m news [(l, ({ cls := .type "tuple", data := .seq vs.toArray c } : Obj))] vs.length (fun i v => vs[i]? = some v) s) E s := by
  have hl : s.heap.IsTuple l vs.toArray := N.isTup hm
  have hne : l ≠ s.heap.objs.size := Nat.ne_of_lt (Heap.lt_size (N _ hm).1)
  refine wpAny_pyIter_tuple hl ?_
  have W := Walks.tuple (prog := prog) (w := w) hh s.heap.objs.size l hne vs.toArray
  simp only [List.size_toArray, List.getElem?_toArray] at W
  refine Mine.I4 _ _ _ s.toks ⟨rfl, rfl, W, ⟨⟨_, Heap.get?_push_size _ rfl, rfl, rfl⟩, hl.at fun o e => Heap.get?_push_of_some _ e⟩, F.push _, (fun p hp => ⟨Heap.get?_push_of_some _ (N p hp).1, (N p hp).2⟩), ?_, Nat.ne_of_gt F.ns.lt, next_is_new F, (fun p hp => Heap.lt_size (N p hp).1), ?_, ?_⟩
  · intro p hp
    rw [List.mem_singleton.mp hp]
    exact Heap.get?_push_of_some _ (N _ hm).1
  · intro p hp
    rw [List.mem_singleton.mp hp]
    exact hne
  · rintro i h hz2
    try ((fail_if_success (with_reducible show Gz)); with_reducible (first | (refine letW ?_; intro Gz) | (refine letWC ?_; intro Gz)))
    obtain ⟨⟨o, ho, _⟩, _⟩ := hz2
    try ((fail_if_success (with_reducible show wpAny _ _ _ Qz _ _)); with_reducible (first | (refine letQ ?_; intro Qz) | (refine letQC ?_; intro Qz)))
    try ((fail_if_success (with_reducible show wpAny _ _ _ _ _ Sz)); with_reducible (first | (refine letS ?_; intro Sz) | (refine letSC ?_; intro Sz)))
    exact ⟨o, ho⟩
theorem src_str {E : Value → Shared → Prop} {L : Addr} {x : Str} {t : Tok} (hh : A.handled = none) (ha : x.cps.all (· < 128) = true) (F : Fr h₀ L s.heap m) (N : News h₀ L s.heap news) :
    wpAny (model prog w) A (pyIter (.str x t)) (LoopSrc prog w A h₀ L m news [] x.cps.size (SignAt x) s) E s := by
  refine wpAny_pyIter_ascii ha ?_
  refine Mine.I4 _ _ _ s.toks ⟨rfl, rfl, Walks.strAscii hh _ x t, ⟨_, Heap.get?_push_size _ rfl, rfl, rfl⟩, F.push _, (fun p hp => ⟨Heap.get?_push_of_some _ (N p hp).1, (N p hp).2⟩), (fun _ h => nomatch h), Nat.ne_of_gt F.ns.lt, next_is_new F, (fun p hp => Heap.lt_size (N p hp).1), (fun _ h => nomatch h), ?_⟩
  rintro i h hz2
  try ((fail_if_success (with_reducible show Gz)); with_reducible (first | (refine letW ?_; intro Gz) | (refine letWC ?_; intro Gz)))
  refine Exists.elim hz2 ?_
  clear hz2
  intro o
  refine And.elim ?_
  intro ho
  intro _
  try ((fail_if_success (with_reducible show wpAny _ _ _ Qz _ _)); with_reducible (first | (refine letQ ?_; intro Qz) | (refine letQC ?_; intro Qz)))
  try ((fail_if_success (with_reducible show wpAny _ _ _ _ _ Sz)); with_reducible (first | (refine letS ?_; intro Sz) | (refine letSC ?_; intro Sz)))
  exact ⟨o, ho⟩
end
end Mine
end
/-! part W2 -/
section
open PySem PySem.W PyProof.Rows HeadC
open PySem.Sem (wp)
set_option maxRecDepth 100000
namespace Mine
section
variable {prog : Program} {w : World} {A : Around} {E : Value → Shared → Prop} {R : Result → Shared → Prop} {s : Shared}
theorem codeC_loop {M : Model} {c : Code} (ok : okCode c) (hq : c.quiet = true) (I : Nat → Shared → Prop)
    (turn : ∀ n s, I n s → wpC M (A.under c) (M.den c) (fun fin s' => match fin with | .done f => R (.ok f) s' | .again c' => (c' = c ∧ ∃ m, m < n ∧ I m s') ∨ (c'.quiet = true ∧ codeC M A c' R s')) (fun e s' => R (.error e) s') s)
    (n : Nat) (h : I n s) : codeC M A c R s := by
  induction n using Nat.strongRecOn generalizing s with
  | ind n ih =>
    refine codeC_of_tree ok (wpC_mono (turn n s h) (fun fin s' hf => ?_) fun _ _ h' => h')
    cases fin with
    | done f => exact hf
    | again c' =>
      rcases hf with ⟨rfl, m, hm, hI⟩ | hf
      · exact ⟨hq, ih m hm hI⟩
      · exact hf
theorem codeC_whileLoop {test : Expr} {body : List Stmt} {env : Env} (I : Nat → Shared → Prop)
    (turn : ∀ n s, I n s → wpC (model prog w) A (isTrue test env (eval test env)) (fun b s₂ =>
        if b = true then wpC (model prog w) A (execs body env) (fun f s₃ => match f with
            | .next | .cont => ∃ m, m < n ∧ I m s₃
            | .brk => R (.ok .next) s₃
            | .ret v => R (.ok (.ret v)) s₃) (fun _ _ => False) s₂
        else R (.ok .next) s₂) (fun _ _ => False) s)
    (n : Nat) (h : I n s) : codeC (model prog w) A (.whileLoop test body [] env) R s := by
  refine codeC_loop (okCode_while _ _ _ _) rfl I (fun n s hI => ?_) n h
  show wpC _ A ((whileTurn test body [] env).onRaise (fun x => do noteFrame x env; theTreesLotGoes x)) _ _ s
  refine wpC_onRaise ?_
  simp only [whileTurn]
  refine wpC_bind (wpC_mono (turn n s hI) (fun b s₂ h₂ => ?_) fun _ _ h' => h')
  cases b with
  | false =>
    simp only [Bool.false_eq_true, if_false] at h₂ ⊢
    exact wpC_bind (wpC_of (wpAny_execs_nil (wpC_pure h₂)))
  | true =>
    simp only [if_true] at h₂ ⊢
    refine wpC_bind (wpC_mono h₂ (fun f s₃ h₃ => ?_) fun _ _ h' => h')
    cases f with
    | next => exact wpC_pure (.inl ⟨rfl, h₃⟩)
    | cont => exact wpC_pure (.inl ⟨rfl, h₃⟩)
    | brk => exact wpC_pure h₃
    | ret v => exact wpC_pure h₃
theorem runOwnC {M : Model} {c : Code} {env : Env} {Q : Flow → Shared → Prop} (hc : codeC M A c (fun r s' => match r with | .ok f => Q f s' | .error _ => False) s) :
    wpC M A (runOwn c env none) Q E s := by
  unfold runOwn
  refine wpC_onRaise (wpC_run (h := none) ?_)
  refine codeC_mono (show codeC M (A.mark none) c _ s from hc) (fun r s' h => ?_)
  cases r with
  | ok f => exact h
  | error e => exact h

variable {h₀ : Heap} {L : Addr} {m : Str → Option Value} {news : List (Addr × Obj)} {env : Env}
theorem While_invC {Q : Flow → Shared → Prop} {test : Expr} {body : List Stmt} {pos : Pos} (J : Nat → (Str → Option Value) → List (Addr × Obj) → Prop) (X : (Str → Option Value) → List (Addr × Obj) → Prop) {n₀ : Nat}
    (F : Fr h₀ L s.heap m) (N : News h₀ L s.heap news) (hJ : J n₀ m news)
    (turn : ∀ n m₁ news₁ h₁ tk₁, Fr h₀ L h₁ m₁ → News h₀ L h₁ news₁ → J n m₁ news₁ →
      wpC (model prog w) A (isTrue test env (eval test env)) (fun b s₂ =>
        if b = true then wpC (model prog w) A (execs body env) (WhileStep2 h₀ L s J (fun f s' => f = .next ∧ WEnd h₀ L s X s') n) (fun _ _ => False) s₂ else WEnd h₀ L s X s₂) (fun _ _ => False) { s with heap := h₁, toks := tk₁ })
    (done : ∀ m₁ news₁ h₁ tk₁, Fr h₀ L h₁ m₁ → News h₀ L h₁ news₁ → X m₁ news₁ → Q .next { s with heap := h₁, toks := tk₁ }) :
    wpC (model prog w) A (exec (.While test body [] pos) env) Q E s := by
  rw [exec_While]
  refine wpC_bind (wpC_standAt (runOwnC ?_))
  have fin : ∀ s', WEnd h₀ L s X s' → Q .next s' := by
    rintro s' ⟨h', tk, m', news', rfl, F', N', x⟩
    exact done _ _ _ _ F' N' x
  refine codeC_whileLoop (fun n s' => ∃ h₁ tk₁ m₁ news₁, s' = { s with heap := h₁, toks := tk₁ } ∧ Fr h₀ L h₁ m₁ ∧ News h₀ L h₁ news₁ ∧ J n m₁ news₁) ?_ n₀ (Mine.I4 s.heap s.toks m news ⟨rfl, F, N, hJ⟩)
  rintro n s' ⟨h₁, tk₁, m₁, news₁, rfl, F₁, N₁, J₁⟩
  refine wpC_mono (turn n m₁ news₁ h₁ tk₁ F₁ N₁ J₁) (fun b s₂ h₂ => ?_) fun _ _ e => e
  cases b with
  | false =>
    simp only [Bool.false_eq_true, if_false] at h₂ ⊢
    exact fin _ h₂
  | true =>
    simp only [if_true] at h₂ ⊢
    refine wpC_mono h₂ (fun f s₃ h₃ => ?_) fun _ _ e => e
    cases f with
    | next =>
      refine Mine.E5 ?_ h₃
      clear h₃
      intro h' tk m₂ news₂ n'
      refine Mine.A5 ?_
      intro hR1
      subst hR1
      intro F₂ N₂ hn
      intro J₂
      exact ⟨n', ⟨hn, Mine.I4 h' tk m₂ news₂ ⟨rfl, F₂, N₂, J₂⟩⟩⟩
    | cont =>
      refine Mine.E5 ?_ h₃
      clear h₃
      intro h' tk m₂ news₂ n'
      refine Mine.A5 ?_
      intro hR2
      subst hR2
      intro F₂ N₂ hn
      intro J₂
      exact ⟨n', ⟨hn, Mine.I4 h' tk m₂ news₂ ⟨rfl, F₂, N₂, J₂⟩⟩⟩
    | brk => exact fin _ h₃.2
    | ret v => exact absurd h₃.1 (by intro h; cases h)
end
end Mine
end
/-! part W3 -/
section
open PySem PySem.W PyProof.Rows HeadC
open PySem.Sem (wp)
set_option maxRecDepth 100000
namespace Mine
/-- the iterators that hand out a tuple of their own -/
noncomputable def owners : List String := ["enumerate", "zip", "dict_itemiterator", "dict_reverseitemiterator", "odict_iterator", "itertools.zip_longest", "itertools.pairwise"]
noncomputable def NoOwn (o : Obj) : Prop := ∀ n vs, o.cls = .type n → o.data = .fields vs → owners.contains n = false
noncomputable def LoopSrcT (prog : Program) (w : World) (A : Around) (h₀ : Heap) (L : Addr) (m : Str → Option Value) (news fx : List (Addr × Obj)) (n : Nat) (P : Nat → Value → Prop) (s : Shared) (it : Value) (s₂ : Shared) : Prop :=
  ∃ I St h₂ tk₂, it = .ref I ∧ s₂ = { s with heap := h₂, toks := tk₂ } ∧ Walks prog w A I (I :: fx.map (·.1)) [I] n P St ∧ St 0 h₂ ∧ Fr h₀ L h₂ m ∧ News h₀ L h₂ news ∧ (∀ p ∈ fx, h₂.get? p.1 = some p.2) ∧
    I ≠ L ∧ h₀.get? I = none ∧ (∀ p ∈ news, p.1 < I) ∧ (∀ p ∈ fx, p.1 ≠ I) ∧ ∀ i h, St i h → ∃ oI, h.get? I = some oI ∧ NoOwn oI

theorem letOwned {M : Model} {A : Around} {E : Value → Shared → Prop} {s : Shared} {target : Expr} {I : Addr} {v : Value} {o : Obj} {Q : Unit → Shared → Prop} (ho : s.heap.get? I = some o) (hn : NoOwn o) (h : Q () s) :
    wpAny M A (letOwnedTupleGo target (.ref I) v) Q E s := by
  unfold letOwnedTupleGo
  split
  · cases v with
    | ref a =>
      refine wpAny_bind (wpAny_load ho ?_)
      split
      · rename_i n vs h1 h2
        have e := hn n vs h1 h2
        unfold owners at e
        rw [e, Bool.false_and, if_neg (by simp)]
        exact wpAny_pure h
      · exact wpAny_pure h
    | _ => exact wpAny_pure h
  · cases v with
    | ref a =>
      refine wpAny_bind (wpAny_load ho ?_)
      split
      · rename_i n vs h1 h2
        have e := hn n vs h1 h2
        unfold owners at e
        rw [e, Bool.false_and, if_neg (by simp)]
        exact wpAny_pure h
      · exact wpAny_pure h
    | _ => exact wpAny_pure h
  · exact wpAny_pure h

section
variable {prog : Program} {w : World} {A : Around} {E : Value → Shared → Prop} {s : Shared} {h₀ : Heap} {m : Str → Option Value} {news : List (Addr × Obj)} {env : Env} {fx : List (Addr × Obj)} {n : Nat} {P : Nat → Value → Prop} {R : Result → Shared → Prop}
theorem codeC_forLoop {target : Expr} {it : Value} {body : List Stmt} (I : Nat → Shared → Prop)
    (turn : ∀ n s, I n s → wpAny (model prog w) A (pyNext it) (fun r s₁ => match r with
      | none => R (.ok .next) s₁
      | some v => wpAny (model prog w) A (letOwnedTupleGo target it v) (fun _ s₂ => wpAny (model prog w) A (assign target env v) (fun _ s₃ => wpC (model prog w) A (execs body env) (fun f s₄ => match f with
          | .next | .cont => ∃ m, m < n ∧ I m s₄
          | .brk => R (.ok .next) s₄
          | .ret v => R (.ok (.ret v)) s₄) (fun _ _ => False) s₃) (fun _ _ => False) s₂) (fun _ _ => False) s₁) (fun _ _ => False) s)
    (n : Nat) (h : I n s) : codeC (model prog w) A (.forLoop target it body [] env) R s := by
  refine codeC_loop (okCode_for _ _ _ _ _) rfl I (fun n s hI => ?_) n h
  show wpC _ A ((forTurn target it body [] env).onRaise (fun x => do noteFrame x env; theTreesLotGoes x)) _ _ s
  refine wpC_onRaise ?_
  simp only [forTurn]
  refine wpC_bind (wpC_standAt (wpC_bind (wpC_onRaise (wpC_mono (wpC_of (turn n s hI)) (fun r s₁ h₁ => ?_) fun _ _ h' => h'))))
  cases r with
  | none => exact wpC_pure (.inr ⟨rfl, codeC_of (codeAny_block (wpAny_execs_nil h₁))⟩)
  | some v =>
    refine wpC_bind (wpC_mono (wpC_of h₁) (fun _ s₂ h₂ => ?_) fun _ _ h' => h')
    refine wpC_bind (wpC_mono (wpC_of h₂) (fun _ s₃ h₃ => wpC_bind (wpC_mono h₃ (fun f s₄ h₄ => ?_) fun _ _ h' => h')) fun _ _ h' => h')
    cases f with
    | next => exact wpC_pure (.inl ⟨rfl, h₄⟩)
    | cont => exact wpC_pure (.inl ⟨rfl, h₄⟩)
    | brk => exact wpC_pure h₄
    | ret v => exact wpC_pure h₄
theorem ForC {target iter : Expr} {body : List Stmt} {pos : Pos} {Q : Flow → Shared → Prop}
    (h : wpAny (model prog w) A (eval iter env) (fun x s₁ => wpAny (model prog w) A (pyIter x) (fun it s₂ =>
      codeC (model prog w) A (.forLoop target it body [] env) (fun r s' => match r with | .ok f => Q f s' | .error _ => False) s₂) E s₁) E s)
    (hs : ∀ x, foldedSetIterable iter env x = pure x := by intro _; rfl) :
    wpC (model prog w) A (exec (.For target iter body [] pos) env) Q E s := by
  rw [exec_For]
  exact wpC_bind (wpC_standAt (wpC_bind (wpC_mono (wpC_of h) (fun x s₁ h₁ => wpC_bind (wpC_of (wpAny_of_eq (hs x) (wpC_bind (wpC_standAt (wpC_bind (wpC_holding
    (wpC_mono (wpC_of h₁) (fun it s₂ h₂ => runOwnC h₂) fun _ _ h' => h')))))))) fun _ _ h' => h')))

theorem iter_loopC {v : Value} {target : Expr} {body : List Stmt} {Q : Flow → Shared → Prop} (J : Nat → (Str → Option Value) → List (Addr × Obj) → Prop) (X : (Str → Option Value) → List (Addr × Obj) → Prop)
    (src : wpAny (model prog w) A (pyIter v) (LoopSrcT prog w A h₀ env.locals m news fx n P s) (fun _ _ => False) s)
    (hfx : ∀ p ∈ fx, h₀.get? p.1 = some p.2 ∨ ∀ i m₁ news₁, J i m₁ news₁ → p ∈ news₁)
    (hJ : J 0 m news)
    (turn : ∀ i v m₁ news₁ h tk I oI, i < n → P i v → (∀ p ∈ news, p.1 < I) → (∀ p ∈ news₁, p.1 ≠ I) → J i m₁ news₁ → Fr h₀ env.locals h m₁ → News h₀ env.locals h ((I, oI) :: news₁) →
      wpAny (model prog w) A (assign target env v) (fun _ s₃ => wpC (model prog w) A (execs body env) (FStep h₀ env.locals s I oI (J (i + 1)) X) (fun _ _ => False) s₃) (fun _ _ => False) { s with heap := h, toks := tk })
    (stop : ∀ m₁ news₁, J n m₁ news₁ → X m₁ news₁)
    (done : ∀ m₁ news₁ h₁ tk₁, Fr h₀ env.locals h₁ m₁ → News h₀ env.locals h₁ news₁ → X m₁ news₁ → Q .next { s with heap := h₁, toks := tk₁ }) :
    wpAny (model prog w) A (pyIter v) (fun it s₂ => codeC (model prog w) A (.forLoop target it body [] env) (fun r s' => match r with | .ok f => Q f s' | .error _ => False) s₂) E s := by
  refine wpAny_noRaise (wpAny_mono src (fun it s₂ hs => ?_) fun _ _ e => e)
  try ((fail_if_success (with_reducible show Gz)); with_reducible (first | (refine letW ?_; intro Gz) | (refine letWC ?_; intro Gz)))
  refine Mine.E4 ?_ hs
  clear hs
  intro I St h₂ tk₂
  refine Mine.A8 ?_
  intro hR1
  subst hR1
  intro hR2
  subst hR2
  intro W hst F N hfix
  refine Mine.A5 ?_
  intro hIL hI0 hlt hne
  intro hSt
  refine codeC_forLoop (fun k s' => ∃ h' tk m' news' i, s' = { s with heap := h', toks := tk } ∧ St i h' ∧ Fr h₀ env.locals h' m' ∧ News h₀ env.locals h' news' ∧ J i m' news' ∧ i ≤ n ∧ k = n - i ∧ (∀ p ∈ news', p.1 ≠ I) ∧ (∀ p ∈ fx, h'.get? p.1 = some p.2)) ?_ (n - 0)
    (Mine.I5 h₂ tk₂ m news 0 ⟨rfl, hst, F, N, hJ, Nat.zero_le _, rfl, (fun p hp => Nat.ne_of_lt (hlt p hp)), hfix⟩)
  rintro k s' hz2
  try ((fail_if_success (with_reducible show Gz)); with_reducible (first | (refine letW ?_; intro Gz) | (refine letWC ?_; intro Gz)))
  refine Mine.E5 ?_ hz2
  clear hz2
  intro h' tk m' news' i
  refine Mine.A8 ?_
  intro hR3
  subst hR3
  intro hst' F' N' hJ' hi hR4
  subst hR4
  refine And.elim ?_
  intro hnI
  intro hfix'
  try ((fail_if_success (with_reducible show wpAny _ _ _ Qz _ _)); with_reducible (first | (refine letQ ?_; intro Qz) | (refine letQC ?_; intro Qz)))
  try ((fail_if_success (with_reducible show wpAny _ _ _ _ _ Sz)); with_reducible (first | (refine letS ?_; intro Sz) | (refine letSC ?_; intro Sz)))
  have moveF : ∀ {h''}, (∀ b o, b ∉ [I] → h'.get? b = some o → h''.get? b = some o) → Fr h₀ env.locals h'' m' := fun hk => by
    try ((fail_if_success (with_reducible show Gz)); with_reducible (first | (refine letW ?_; intro Gz) | (refine letWC ?_; intro Gz)))
    refine Mine.E3 ?_ F'.ns
    intro oL e1 e2
    refine And.elim ?_
    intro hoL
    intro r
    exact ⟨Mine.I3 oL e1 e2 ⟨hk _ _ (by simpa using fun q => hIL q.symm) hoL, r⟩, fun b o e => hk _ _ (by intro q; rw [List.mem_singleton.mp q, hI0] at e; cases e) (F'.keep b o e), F'.above⟩
  by_cases hin : i < n
  · refine wpAny_mono (W.item i _ (fun r s₁ => ∃ v h₁ tk₁, r = some v ∧ s₁ = { s with heap := h₁, toks := tk₁ } ∧ P i v ∧ St (i + 1) h₁ ∧ (∀ b o, b ∉ [I] → h'.get? b = some o → h₁.get? b = some o)) (fun _ _ => False) hin hst' fun v h₁ tk₁ hP hs₁ hk => Mine.I3 v h₁ tk₁ ⟨rfl, rfl, hP, hs₁, hk⟩) (fun r s₁ hr => ?_) (fun _ _ e => e.elim)
    try ((fail_if_success (with_reducible show Gz)); with_reducible (first | (refine letW ?_; intro Gz) | (refine letWC ?_; intro Gz)))
    refine Mine.E3 ?_ hr
    clear hr
    intro v h₁ tk₁
    refine Mine.A5 ?_
    intro hR5
    subst hR5
    intro hR6
    subst hR6
    intro hP hs₁
    intro hk
    have F₁ := moveF hk
    have N₁ : News h₀ env.locals h₁ news' := fun p hp => ⟨hk _ _ (by simpa using hnI p hp) (N' p hp).1, (N' p hp).2⟩
    have fix₁ : ∀ p ∈ fx, h₁.get? p.1 = some p.2 := fun p hp => hk _ _ (by simpa using hne p hp) (hfix' p hp)
    try ((fail_if_success (with_reducible show Gz)); with_reducible (first | (refine letW ?_; intro Gz) | (refine letWC ?_; intro Gz)))
    refine Exists.elim (hSt _ _ hs₁) ?_
    intro oI₁
    refine And.elim ?_
    intro hoI₁
    intro hown
    have NI : News h₀ env.locals h₁ ((I, oI₁) :: news') := fun p hp => by
      rcases List.mem_cons.mp hp with rfl | hp
      · exact ⟨hoI₁, hIL, hI0⟩
      · exact N₁ p hp
    refine letOwned hoI₁ hown ?_
    refine wpAny_mono (turn i v m' news' h₁ _ I oI₁ hin hP hlt hnI hJ' F₁ NI) (fun _ s₃ h₃ => wpC_mono h₃ (fun f s₃ hf => ?_) (fun _ _ e => e)) (fun _ _ e => e.elim)
    have fin : FStep h₀ env.locals s I oI₁ (J (i + 1)) X .next s₃ → ∃ k, k < n - i ∧ ∃ h' tk m' news' i, s₃ = { s with heap := h', toks := tk } ∧ St i h' ∧ Fr h₀ env.locals h' m' ∧ News h₀ env.locals h' news' ∧ J i m' news' ∧ i ≤ n ∧ k = n - i ∧ (∀ p ∈ news', p.1 ≠ I) ∧ (∀ p ∈ fx, h'.get? p.1 = some p.2) := by
      rintro hz0
      try ((fail_if_success (with_reducible show Gz)); with_reducible (first | (refine letW ?_; intro Gz) | (refine letWC ?_; intro Gz)))
      refine Mine.E4 ?_ hz0
      clear hz0
      intro h₄ tk₄ m₄ news₄
      refine Mine.A5 ?_
      intro hR7
      subst hR7
      intro F₄ N₄ hne₄
      intro J₄
      try ((fail_if_success (with_reducible show wpAny _ _ _ Qz _ _)); with_reducible (first | (refine letQ ?_; intro Qz) | (refine letQC ?_; intro Qz)))
      try ((fail_if_success (with_reducible show wpAny _ _ _ _ _ Sz)); with_reducible (first | (refine letS ?_; intro Sz) | (refine letSC ?_; intro Sz)))
      have fix₄ : ∀ p ∈ fx, h₄.get? p.1 = some p.2 := fun p hp => by
        rcases hfx p hp with h | h
        · exact F₄.keep _ _ h
        · exact (N₄ p (.tail _ (h _ _ _ J₄))).1
      refine ⟨n - (i + 1), ⟨by omega, Mine.I5 h₄ tk₄ m₄ news₄ (i + 1) ⟨rfl, W.frame _ _ _ hs₁ fun b hb o e => ?_, F₄, fun p hp => N₄ p (.tail _ hp), J₄, hin, rfl, hne₄, fix₄⟩⟩⟩
      rcases List.mem_cons.mp hb with rfl | hb
      · rw [hoI₁] at e; cases e; exact (N₄ _ (.head _)).1
      · try ((fail_if_success (with_reducible show Gz)); with_reducible (first | (refine letW ?_; intro Gz) | (refine letWC ?_; intro Gz)))
        refine Exists.elim (List.mem_map.mp hb) ?_
        intro p
        refine And.elim ?_
        intro hp
        intro hR8
        subst hR8
        rw [fix₁ p hp] at e; cases e; exact fix₄ p hp
    cases f with
    | next => exact fin hf
    | cont => exact fin hf
    | brk =>
      try ((fail_if_success (with_reducible show Gz)); with_reducible (first | (refine letW ?_; intro Gz) | (refine letWC ?_; intro Gz)))
      refine Mine.E4 ?_ hf
      clear hf
      intro h₄ tk₄ m₄ news₄
      refine Mine.A4 ?_
      intro hR9
      subst hR9
      intro F₄ N₄
      intro x₄
      exact done _ _ _ _ F₄ N₄ x₄
    | ret v => exact hf.elim
  · have hin' : i = n := by omega
    subst hin'
    refine wpAny_mono (W.done _ (fun r s₁ => ∃ h₁ tk₁, r = none ∧ s₁ = { s with heap := h₁, toks := tk₁ } ∧ (∀ b o, b ∉ [I] → h'.get? b = some o → h₁.get? b = some o)) (fun _ _ => False) hst' fun h₁ tk₁ hk => Mine.I2 h₁ tk₁ ⟨rfl, rfl, hk⟩) (fun r s₁ hr => ?_) (fun _ _ e => e.elim)
    try ((fail_if_success (with_reducible show Gz)); with_reducible (first | (refine letW ?_; intro Gz) | (refine letWC ?_; intro Gz)))
    refine Mine.E2 ?_ hr
    clear hr
    intro h₁ tk₁
    refine Mine.A3 ?_
    intro hR10
    subst hR10
    intro hR11
    subst hR11
    intro hk
    exact done _ _ _ _ (moveF hk) (fun p hp => ⟨hk _ _ (by simpa using hnI p hp) (N' p hp).1, (N' p hp).2⟩) (stop _ _ hJ')
end
end Mine
end
/-! part W4 -/
section
open PySem PySem.W PyProof.Rows HeadC
set_option maxRecDepth 100000
namespace Mine
/-- as CallC, over clean stacks -/
noncomputable def CallD (prog : Program) (w : World) (mean : ExcName → Option Value) (mg mb : Str → Option Value) (k : Nat) (f : Addr) (args : List Value) (news : List (Addr × Obj)) (Post : Value → List (Addr × Obj) → Prop) : Prop :=
  ∀ (dp un : Nat) (gd : Option (List Code)) (cn : Str) (cs : Scope) (a : Addr) (ccd : Value) (cl : List (Str × Addr)) (outer : List Env) (A₀ : Around) (base h₀ : Heap) (L : Addr) (m : Str → Option Value) (s : Shared) (Q E : Value → Shared → Prop),
    Below A₀ base outer h₀ → Fr h₀ L s.heap m → (hd.heap_1 w.params).In h₀ → News h₀ L s.heap news → Top hd.view_1 (looseW hd.view_1 []) mean mg mb h₀ → cs.kind = .function → dp + k < recursionLimit → un + 8 * k < cLine →
    (∀ r news' h' tk', Fr h₀ L h' m → News h₀ L h' news' → Post r news' → Q r { s with heap := h', toks := tk' }) →
    wpC (model prog w) (ktrTop dp un gd cn cs L a ccd cl outer) (call (.ref f) args) Q E s
theorem CallD.use {prog : Program} {w : World} {mean : ExcName → Option Value} {mg mb : Str → Option Value} {k : Nat} {f : Addr} {args : List Value} {news : List (Addr × Obj)} {Post : Value → List (Addr × Obj) → Prop}
    {dp un : Nat} {gd : Option (List Code)} {cn : Str} {cs : Scope} {a : Addr} {ccd : Value} {cl : List (Str × Addr)} {outer : List Env} {A₀ : Around} {base h₀ : Heap} {L : Addr} {m : Str → Option Value} {s : Shared} {Q E : Value → Shared → Prop}
    (C : CallD prog w mean mg mb k f args news Post)
    (B : Below A₀ base outer h₀) (F : Fr h₀ L s.heap m) (X : (hd.heap_1 w.params).In h₀) (N : News h₀ L s.heap news) (T : Top hd.view_1 (looseW hd.view_1 []) mean mg mb h₀) (hk : cs.kind = .function) (hdp : dp + k < recursionLimit) (hun : un + 8 * k < cLine)
    (ret : ∀ r news' h' tk', Fr h₀ L h' m → News h₀ L h' news' → Post r news' → Q r { s with heap := h', toks := tk' }) :
    wpC (model prog w) (ktrTop dp un gd cn cs L a ccd cl outer) (call (.ref f) args) Q E s := C _ _ _ _ _ _ _ _ _ _ _ _ _ _ _ _ _ B F X N T hk hdp hun ret
section
variable {prog : Program} {w : World} {A : Around} {E : Value → Shared → Prop} {s : Shared} {h₀ : Heap} {m : Str → Option Value} {news : List (Addr × Obj)}
theorem srcT_list {L l : Addr} {vs : List Value} {c : Nat} (hh : A.handled = none) (F : Fr h₀ L s.heap m) (N : News h₀ L s.heap news) (hm : (l, listOf vs.toArray c) ∈ news) :
    wpAny (model prog w) A (pyIter (.ref l)) (LoopSrcT prog w A h₀ L m news [(l, listOf vs.toArray c)] vs.length (fun i v => vs[i]? = some v) s) E s := by
  have hl : s.heap.IsList l vs.toArray := N.isList hm
  have hne : l ≠ s.heap.objs.size := Nat.ne_of_lt (Heap.lt_size (N _ hm).1)
  refine wpAny_pyIter_list hl ?_
  have W := Walks.list (prog := prog) (w := w) hh s.heap.objs.size l hne vs.toArray
  simp only [List.size_toArray, List.getElem?_toArray] at W
  refine Mine.I4 _ _ _ s.toks ⟨rfl, rfl, W, ⟨⟨_, Heap.get?_push_size _ rfl, rfl, rfl⟩, hl.at fun o e => Heap.get?_push_of_some _ e⟩, F.push _, (fun p hp => ⟨Heap.get?_push_of_some _ (N p hp).1, (N p hp).2⟩), ?_, Nat.ne_of_gt F.ns.lt, next_is_new F, (fun p hp => Heap.lt_size (N p hp).1), ?_, ?_⟩
  · intro p hp
    rw [List.mem_singleton.mp hp]
    exact Heap.get?_push_of_some _ (N _ hm).1
  · intro p hp
    rw [List.mem_singleton.mp hp]
    exact hne
  · rintro i h ⟨⟨o, ho, hc, _⟩, _⟩
    refine ⟨o, ho, fun n vs h1 _ => ?_⟩
    rw [hc] at h1; cases h1; decide
theorem srcT_str {L : Addr} {x : Str} {t : Tok} (hh : A.handled = none) (ha : x.cps.all (· < 128) = true) (F : Fr h₀ L s.heap m) (N : News h₀ L s.heap news) :
    wpAny (model prog w) A (pyIter (.str x t)) (LoopSrcT prog w A h₀ L m news [] x.cps.size (SignAt x) s) E s := by
  refine wpAny_pyIter_ascii ha ?_
  refine Mine.I4 _ _ _ s.toks ⟨rfl, rfl, Walks.strAscii hh _ x t, ⟨_, Heap.get?_push_size _ rfl, rfl, rfl⟩, F.push _, (fun p hp => ⟨Heap.get?_push_of_some _ (N p hp).1, (N p hp).2⟩), (fun _ h => nomatch h), Nat.ne_of_gt F.ns.lt, next_is_new F, (fun p hp => Heap.lt_size (N p hp).1), (fun _ h => nomatch h), ?_⟩
  rintro i h ⟨o, ho, hc, _⟩
  refine ⟨o, ho, fun n vs h1 _ => ?_⟩
  rw [hc] at h1; cases h1; decide
theorem srcT_range {L r : Addr} {a b c : Int} {t u v : Tok} (hh : A.handled = none) (F : Fr h₀ L s.heap m) (N : News h₀ L s.heap news) (hr : IsRange s.heap r a b c t u v) (hsmall : Builtin.Range.small a b c = true) {n : Nat} (hn : Builtin.Range.rangeSize a b c = n) :
    wpAny (model prog w) A (pyIter (.ref r)) (LoopSrcT prog w A h₀ L m news [] n (fun i v => ∃ t, v = .int (a + i * c) t) s) E s := by
  refine wpAny_pyIter_range hr hsmall ?_
  refine Mine.I4 _ _ _ s.toks ⟨rfl, rfl, Walks.range hh _ a c n, ?_, F.push _, (fun p hp => ⟨Heap.get?_push_of_some _ (N p hp).1, (N p hp).2⟩), (fun _ h => nomatch h), Nat.ne_of_gt F.ns.lt, next_is_new F, (fun p hp => Heap.lt_size (N p hp).1), (fun _ h => nomatch h), ?_⟩
  · show IsRangeIter _ _ _ _ _
    have e1 : a + ((0 : Nat) : Int) * c = a := by simp
    have e2 : (n : Int) - ((0 : Nat) : Int) = n := by simp
    rw [e1, e2]
    unfold IsRangeIter
    rw [Heap.get?_push_size _ rfl, ← hn]
  · intro i h hs
    refine ⟨_, hs, fun n vs h1 _ => ?_⟩
    cases h1; decide
end
end Mine
end
/-! part B7 -/
section
open PySem PySem.W PyProof.Rows HeadC
set_option maxRecDepth 100000
namespace Mine
/-! ### map(f, list) -/
theorem owner_map : Manifest.owners.lookup (String.ofList ['p', 'a', 'm'].reverse) = some Manifest.sig_map := by kernel_rfl
theorem slot_map_init : Slot "map" "__init__" "object.__init__" :=
  .of (owner := "object") (n := "__init__") (by rw [typeLookup_type, builtinLookup_eq_fast]; kernel_rfl) (by decide +kernel) (by decide +kernel) (by decide +kernel)
    (by first | exact .inl (by decide +kernel) | exact .inr (by decide +kernel)) (by rw [isSubtype_type]; kernel_rfl)
theorem slot_map_iter : Slot "map" "__iter__" "map.__iter__" :=
  .of (owner := "map") (n := "__iter__") (by rw [typeLookup_type, builtinLookup_eq_fast]; kernel_rfl) (by decide +kernel) (by decide +kernel) (by decide +kernel)
    (by first | exact .inl (by decide +kernel) | exact .inr (by decide +kernel)) (by rw [isSubtype_type]; kernel_rfl)
theorem slot_map_next : Slot "map" "__next__" "map.__next__" :=
  .of (owner := "map") (n := "__next__") (by rw [typeLookup_type, builtinLookup_eq_fast]; kernel_rfl) (by decide +kernel) (by decide +kernel) (by decide +kernel)
    (by first | exact .inl (by decide +kernel) | exact .inr (by decide +kernel)) (by rw [isSubtype_type]; kernel_rfl)
theorem args_map_iter (a : Value) : argsOk "map.__iter__" ⟨[a], []⟩ := by
  unfold argsOk; rw [signature?_of (id := "map.__iter__") (n := ['_', '_', 'r', 'e', 't', 'i', '_', '_']) (o := ['p', 'a', 'm']) (by kernel_rfl) owner_map]; kernel_rfl
theorem args_map_next (a : Value) : argsOk "map.__next__" ⟨[a], []⟩ := by
  unfold argsOk; rw [signature?_of (id := "map.__next__") (n := ['_', '_', 't', 'x', 'e', 'n', '_', '_']) (o := ['p', 'a', 'm']) (by kernel_rfl) owner_map]; kernel_rfl
theorem entry_map_next : entryFor table "map.__next__" = some Builtin.«map.__next__» := entryFor_of_tree (by kernel_rfl)
theorem entry_map_iter : entryFor table "map.__iter__" = some Builtin.«dict_keyiterator.__iter__» :=
  entryFor_alias (id' := "dict_keyiterator.__iter__") (by kernel_rfl) (by first | rfl | decide +kernel | (unfold String.splitOn; simp +decide [String.splitOnAux])) (by decide +kernel) (by kernel_rfl)
theorem mro_map : mroOf (.type "map") = pure [.type "map", .type "object"] := by rw [mroOf_type]; kernel_rfl
theorem lookup_map_new : typeLookup (.type "map") "__new__" = pure (some (.builtin "map.__new__")) := by rw [typeLookup_type, builtinLookup_eq_fast]; kernel_rfl
theorem called_map : TypeCalled "map" "map.__new__" "object.__init__" :=
  ⟨by decide +kernel, by decide +kernel, ⟨_, _, mro_map⟩, madeBy_type mro_map lookup_map_new (by decide +kernel), by decide +kernel, by rw [isSubtype_type]; kernel_rfl, slot_map_init⟩
theorem typeCall_map_2 (a b : Value) : checkTypeCall "map" ⟨[a, b], []⟩ = pure () := by kernel_rfl
theorem newCall_map_2 (a b : Value) : checkBuiltinCall "map.__new__" ⟨[.type "map", a, b], []⟩ = pure () := by kernel_rfl
theorem entry_map_new : entryFor table "map.__new__" = some Builtin.«map.__new__» := entryFor_of_tree (by kernel_rfl)
theorem sub_map : isSubtype (.type "map") (.type "map") = pure true := by rw [isSubtype_type]; kernel_rfl
noncomputable abbrev mapOf (T : Addr) (f : Value) : Obj := { cls := .type "map", dict := none, data := .fields #[.ref T, f], slots := #[] }
noncomputable abbrev itOf (l : Addr) (i : Int) : Obj := { cls := .type "list_iterator", data := .fields #[.ref l, .int i 0] }
noncomputable abbrev oneT (I : Addr) : Obj := { cls := .type "tuple", data := .seq #[.ref I] }
noncomputable abbrev mapH1 (h : Heap) (l : Addr) : Heap := h.push (itOf l 0)
noncomputable abbrev mapH2 (h : Heap) (l : Addr) : Heap := (mapH1 h l).push (oneT h.objs.size)
noncomputable abbrev mapH3 (h : Heap) (l : Addr) (f : Value) : Heap := (mapH2 h l).push (mapOf (mapH1 h l).objs.size f)
theorem meets_map_new (f : Value) (l : Addr) (xs : Array Value) :
    Meets (Builtin.«map.__new__» ⟨[.type "map", f, .ref l], []⟩) (fun _ R s => s.heap.IsList l xs ∧
      R (.ok (.ret (.ref (mapH2 s.heap l).objs.size))) { s with heap := mapH3 s.heap l f }) :=
  .of_wp fun prog w A R s h => by
    obtain ⟨hp, g, d, tk, os⟩ := s; obtain ⟨hl1, h⟩ := h
    have hsub := sub_map
    have hL1 : Heap.IsList (Shared.heap ⟨hp, g, d, tk, os⟩) l xs := hl1
    wp_walk using wpAny_pyIter_list hL1
    exact ⟨_, rfl, h⟩
end Mine
end
/-! part B8 -/
section
open PySem PySem.W PyProof.Rows HeadC
set_option maxRecDepth 100000
namespace Mine
section
variable {prog : Program} {w : World} {A : Around} {E : Value → Shared → Prop} {s : Shared} {h₀ : Heap} {L l : Addr} {m : Str → Option Value} {news : List (Addr × Obj)} {vs : List Value} {n : Nat} {f : Value}
theorem call_map {Q : Value → Shared → Prop} (F : Fr h₀ L s.heap m) (N : News h₀ L s.heap news) (hl : (l, listOf vs.toArray n) ∈ news)
    (h : ∀ h' I T M, Fr h₀ L h' m → News h₀ L h' ((M, mapOf T f) :: (T, oneT I) :: (I, itOf l 0) :: news) → I ≠ T → I ≠ M → T ≠ M → (∀ p ∈ news, p.1 < I ∧ p.1 < T ∧ p.1 < M) → Q (.ref M) { s with heap := h' }) :
    wpAny (model prog w) A (call (.type "map") [f, .ref l]) Q E s := by
  have hL := N.isList hl
  refine callType_new called_map (by decide) (typeCall_map_2 _ _) (newCall_map_2 _ _) (fun obj => PySem.F.args_object_init_3 obj _ _) entry_map_new (meets_map_new f l vs.toArray) ⟨hL, ?_⟩
  have z1 : (mapH1 s.heap l).objs.size = s.heap.objs.size + 1 := Heap.size_push ..
  have z2 : (mapH2 s.heap l).objs.size = s.heap.objs.size + 2 := by rw [Heap.size_push, z1]
  show _ ∧ _
  have N1 : News h₀ L (mapH1 s.heap l) ((s.heap.objs.size, itOf l 0) :: news) := N.push F _
  have F1 : Fr h₀ L (mapH1 s.heap l) m := F.push _
  have N2 : News h₀ L (mapH2 s.heap l) (((mapH1 s.heap l).objs.size, oneT s.heap.objs.size) :: (s.heap.objs.size, itOf l 0) :: news) := N1.push F1 _
  have F2 : Fr h₀ L (mapH2 s.heap l) m := F1.push _
  have N3 : News h₀ L (mapH3 s.heap l f) (((mapH2 s.heap l).objs.size, mapOf (mapH1 s.heap l).objs.size f) :: ((mapH1 s.heap l).objs.size, oneT s.heap.objs.size) :: (s.heap.objs.size, itOf l 0) :: news) := N2.push F2 _
  have F3 : Fr h₀ L (mapH3 s.heap l f) m := F2.push _
  refine ⟨⟨_, (N3 _ (.head _)).1, rfl⟩, h _ _ _ _ F3 N3 (by rw [z1]; exact Nat.ne_of_lt (Nat.lt_succ_self _)) (by rw [z2]; exact Nat.ne_of_lt (Nat.lt_succ_of_lt (Nat.lt_succ_self _))) (by rw [z1, z2]; exact Nat.ne_of_lt (Nat.lt_succ_self _)) fun p hp => ?_⟩
  have := Heap.lt_size (N p hp).1
  rw [z1, z2]
  exact ⟨this, Nat.lt_succ_of_lt this, Nat.lt_succ_of_lt (Nat.lt_succ_of_lt this)⟩
end
end Mine
end
/-! part B9 -/
section
open PySem PySem.W PyProof.Rows HeadC
set_option maxRecDepth 100000
namespace Mine
section
variable {prog : Program} {w : World} {A : Around} {E : Value → Shared → Prop} {s : Shared}
theorem nextOf_list {it l : Addr} {i : Nat} {items : Array Value} {x : Value} {Q : Value → Shared → Prop} (hit : s.heap.IsListIter it l i)
    (hl : s.heap.IsList l items) (hx : items[i]? = some x)
    (hQ : ∀ h', h'.IsListIter it l (i + 1) → Heap.SameBut it s.heap h' → Q x { s with heap := h' }) :
    wpAny (model prog w) A (Builtin.SmallTypes.nextOf (.ref it)) Q E s := by
  refine Exists.elim (id hit) ?_
  intro o
  refine Mine.A3 ?_
  intro ho hc
  intro hd
  refine Exists.elim hl ?_
  clear hl
  intro ol
  refine Mine.A3 ?_
  intro hol _
  refine fun hq => Exists.elim hq ?_; clear hq
  intro nl
  intro hdl
  unfold Builtin.SmallTypes.nextOf
  refine wpAny_bind (wpAny_callSpecial?_slot (name := Str.ofString "__next__") hit.typeIs slot_listiter_next
    (wpAny_call_entry slot_listiter_next hit.typeIs entry_listiter_next ?_ (args_listiter_next _)))
  show wpAny _ _ (field (.ref it) 0 >>= _) _ _ s
  refine wpAny_bind (wpAny_field ho hd (x := .ref l) rfl ?_)
  show wpAny _ _ (if (Value.ref l == Value.none) = true then _ else _) _ _ s
  rw [if_neg (show ¬ ((Value.ref l == Value.none) = true) from Bool.false_ne_true)]
  show wpAny _ _ (field (.ref it) 1 >>= _) _ _ s
  refine wpAny_bind (wpAny_field ho hd (x := .int i 0) rfl ?_)
  show wpAny _ _ (seqItems? (.ref l) >>= _) _ _ s
  refine wpAny_bind (wpAny_seqItems hol hdl ?_)
  simp only [Int.toNat_natCast, hx]
  refine wpAny_bind (wpAny_setField ho hd (by simp) (wpAny_pure ⟨x, rfl, wpAny_pure (hQ _ ?_ (Heap.SameBut.update ..))⟩))
  exact ⟨_, Heap.get?_update_self _ ho (Obj.isFreed_of_fields (Obj.data_mapFields hd _)), (Obj.cls_mapFields ..).trans hc, by
    rw [Obj.data_mapFields hd]; simp [rawInt]⟩
theorem map_next {M T I l : Addr} {f x : Value} {i : Nat} {items : Array Value} {Q : Option Value → Shared → Prop} (hM : s.heap.get? M = some (mapOf T f)) (hT : s.heap.get? T = some (oneT I))
    (hit : s.heap.IsListIter I l i) (hl : s.heap.IsList l items) (hx : items[i]? = some x) (hIM : I ≠ M)
    (hQ : ∀ h', h'.IsListIter I l (i + 1) → Heap.SameBut I s.heap h' → wpAny (model prog w) A.in1 (call f [x]) (fun r s' => Q (some r) s') (fun _ _ => False) { s with heap := h' }) :
    wpAny (model prog w) A (pyNext (.ref M)) Q E s := by
  have hTy : s.TypeIs (.ref M) "map" := ⟨_, hM, rfl⟩
  unfold pyNext
  refine wpAny_bind (wpAny_attempt (wpAny_callSpecial?_slot (name := Str.ofString "__next__") hTy slot_map_next
    (wpAny_call_entry slot_map_next hTy entry_map_next ?_ (args_map_next _))))
  show wpAny _ _ (field (.ref M) 0 >>= _) _ _ s
  refine wpAny_bind (wpAny_field hM rfl (x := .ref T) rfl ?_)
  refine wpAny_bind (wpAny_seqItems hT rfl ?_)
  dsimp only
  simp only [List.forIn_toArray, List.forIn_cons, List.forIn_nil, bind_assoc, pure_bind]
  refine wpAny_bind (wpAny_holding (nextOf_list hit hl hx fun h' hit' hs => ?_))
  refine wpAny_bind (wpAny_field (hs.extBut M _ hIM.symm hM) rfl (x := f) rfl ?_)
  refine wpAny_bind (wpAny_holding (wpAny_mono (hQ h' hit' hs) (fun r s' hr => ?_) (fun _ _ e => e.elim)))
  exact wpAny_bind (wpAny_letGo (wpAny_pure ⟨r, rfl, wpAny_pure hr⟩))
end
end Mine
end
/-! part B11 -/
section
open PySem PySem.W PyProof.Rows HeadC
set_option maxRecDepth 100000
namespace Mine
section
variable {prog : Program} {w : World} {A : Around} {E : Value → Shared → Prop} {s : Shared}
/-- the list iterator's end, raised -/
theorem nextOf_end {it l : Addr} {i : Nat} {items : Array Value} {Q : Value → Shared → Prop} (hh : A.handled = none) (hit : s.heap.IsListIter it l i) (hl : s.heap.IsList l items) (hx : items[i]? = none)
    (hE : ∀ e h' o, Heap.ExtBut it s.heap h' → h'.get? e = some o → o.cls = .type "StopIteration" → E (.ref e) { s with heap := h' }) :
    wpAny (model prog w) A (Builtin.SmallTypes.nextOf (.ref it)) Q E s := by
  refine Exists.elim (id hit) ?_
  intro o
  refine Mine.A3 ?_
  intro ho hc
  intro hd
  refine Exists.elim hl ?_
  clear hl
  intro ol
  refine Mine.A3 ?_
  intro hol _
  refine fun hq => Exists.elim hq ?_; clear hq
  intro nl
  intro hdl
  unfold Builtin.SmallTypes.nextOf
  refine wpAny_bind (wpAny_callSpecial?_slot (name := Str.ofString "__next__") hit.typeIs slot_listiter_next
    (wpAny_call_entry slot_listiter_next hit.typeIs entry_listiter_next ?_ (args_listiter_next _)))
  show wpAny _ _ (field (.ref it) 0 >>= _) _ _ s
  refine wpAny_bind (wpAny_field ho hd (x := .ref l) rfl ?_)
  show wpAny _ _ (if (Value.ref l == Value.none) = true then _ else _) _ _ s
  rw [if_neg (show ¬ ((Value.ref l == Value.none) = true) from Bool.false_ne_true)]
  show wpAny _ _ (field (.ref it) 1 >>= _) _ _ s
  refine wpAny_bind (wpAny_field ho hd (x := .int i 0) rfl ?_)
  show wpAny _ _ (seqItems? (.ref l) >>= _) _ _ s
  refine wpAny_bind (wpAny_seqItems hol hdl ?_)
  simp only [Int.toNat_natCast, hx]
  refine wpAny_bind (wpAny_rule (wpAny_bind (wpAny_setField ho hd (by simp) ?_)))
  show wpAny _ _ (newExc (.type "StopIteration") [] >>= _) _ _ _
  refine wpAny_bind ?_
  simp only [newExc, newTuple]
  refine wpAny_bind (wpAny_newObj_type ?_ (by size_fits))
  refine wpAny_bind (m := firstArgMember _ _) (wpAny_of_eq (a := Value.none) (by first | rfl | (simp only [firstArgMember]; rfl)) ?_)
  refine wpAny_newObj_type ?_ (by size_fits)
  simp only [raiseNew]
  refine wpAny_bind (wpAny_handled ?_)
  rw [show A.in1.handled = none from hh]
  refine wpAny_bind (wpAny_pure (wpAny_throw ?_))
  exact hE _ _ _ (((Heap.SameBut.update ..).extBut.push _).push _) (Heap.get?_push_size _ rfl) rfl
theorem map_done {M T I l : Addr} {f : Value} {i : Nat} {items : Array Value} {Q : Option Value → Shared → Prop} (hh : A.handled = none) (hM : s.heap.get? M = some (mapOf T f)) (hT : s.heap.get? T = some (oneT I))
    (hit : s.heap.IsListIter I l i) (hl : s.heap.IsList l items) (hx : items[i]? = none)
    (hQ : ∀ h', Heap.ExtBut I s.heap h' → Q none { s with heap := h' }) :
    wpAny (model prog w) A (pyNext (.ref M)) Q E s := by
  have hTy : s.TypeIs (.ref M) "map" := ⟨_, hM, rfl⟩
  unfold pyNext
  refine wpAny_bind (wpAny_attempt (wpAny_callSpecial?_slot (name := Str.ofString "__next__") hTy slot_map_next
    (wpAny_call_entry slot_map_next hTy entry_map_next ?_ (args_map_next _))))
  show wpAny _ _ (field (.ref M) 0 >>= _) _ _ s
  refine wpAny_bind (wpAny_field hM rfl (x := .ref T) rfl ?_)
  refine wpAny_bind (wpAny_seqItems hT rfl ?_)
  dsimp only
  simp only [List.forIn_toArray, List.forIn_cons, List.forIn_nil, bind_assoc, pure_bind]
  refine wpAny_bind (wpAny_holding (nextOf_end (A := A.in1) hh hit hl hx fun e h' o hs he hc => ?_))
  exact wpAny_bind (wpAny_isInstance (T := "StopIteration") (b := true) ⟨o, he, hc⟩ isSubtype_stop (wpAny_pure (hQ _ hs)))
end
end Mine
end
/-! part B10 -/
section
open PySem PySem.W PyProof.Rows HeadC
set_option maxRecDepth 100000
namespace Mine
section
variable {prog : Program} {w : World} {A : Around} {E : Value → Shared → Prop} {s : Shared} {h₀ : Heap} {L l : Addr} {m : Str → Option Value} {news : List (Addr × Obj)} {vs : List Value} {n : Nat} {f : Value}
/-- list.extend's loop over map(f, list): f answers for the i-th item by P i -/
theorem extend_map {M T I S : Addr} {R : Result → Shared → Prop} {P : Nat → Value → Prop} {res : Value} (hh : A.handled = none) (hlm : (l, listOf vs.toArray n) ∈ news) (hsz : vs.length ≤ 1000)
    (hIM : I ≠ M) (hIT : I ≠ T) (hSM : S ≠ M) (hST : S ≠ T) (hSI : S ≠ I) (hn : ∀ p ∈ news, p.1 ≠ S ∧ p.1 ≠ I)
    (hf : ∀ i x h tk nw, vs[i]? = some x → Fr h₀ L h m → News h₀ L h nw → wpAny (model prog w) A.in1.in1 (call f [x]) (fun r s' => ∃ h' tk', s' = { s with heap := h', toks := tk' } ∧ Fr h₀ L h' m ∧ News h₀ L h' nw ∧ P i r) (fun _ _ => False) { s with heap := h, toks := tk })
    (hR : ∀ h tk acc c, Fr h₀ L h m → News h₀ L h ((S, listOf acc c) :: news) → ItemsOf P acc vs.length → R (.ok (.ret res)) { s with heap := h, toks := tk }) :
    ∀ (k i : Nat) (acc : Array Value) (c : Nat) (h : Heap) (tk : Nat) (oI : Obj), oI.cls = .type "list_iterator" → oI.data = .fields #[.ref l, .int i 0] → vs.length - i = k → i ≤ vs.length → Fr h₀ L h m → News h₀ L h ((S, listOf acc c) :: (M, mapOf T f) :: (T, oneT I) :: (I, oI) :: news) → ItemsOf P acc i →
      codeAny (model prog w) A (.builtin "list.extend.loop" ⟨[.ref S, .ref M, res], []⟩) R { s with heap := h, toks := tk } := by
  intro k
  induction k with
  | zero =>
    intro i acc c h tk oI hcI hdI hk hi F N hacc
    obtain rfl : i = vs.length := by lia
    refine codeAny_builtin PySem.F.entry_extend_loop ?_
    rw [Around.under_plainId PySem.F.plain_extend_loop _]
    show wpAny _ A.in1 (pyNext (.ref M) >>= _) _ _ _
    have zM := N (M, mapOf T f) (.tail _ (.head _))
    have zT := N (T, oneT I) (.tail _ (.tail _ (.head _)))
    have zI := N (I, oI) (.tail _ (.tail _ (.tail _ (.head _))))
    have hL : h.IsList l vs.toArray := (News.sub N fun p hp => .tail _ (.tail _ (.tail _ (.tail _ hp)))).isList hlm
    refine wpAny_bind (map_done hh zM.1 zT.1 ⟨_, zI.1, hcI, hdI⟩ hL (by simp) fun h' hs => ?_)
    refine wpAny_pure (hR h' tk acc c ⟨F.ns.at' fun o e => hs L o (Ne.symm zI.2.1) e, fun b o e => hs b o (fun q => by rw [q, zI.2.2] at e; cases e) (F.keep b o e), F.above⟩ (fun p hp => ?_) hacc)
    rcases List.mem_cons.mp hp with rfl | hp
    · exact ⟨hs _ _ hSI (N _ (.head _)).1, (N _ (.head _)).2⟩
    · have z := N p (.tail _ (.tail _ (.tail _ (.tail _ hp))))
      exact ⟨hs _ _ (hn p hp).2 z.1, z.2⟩
  | succ k ih =>
    intro i acc c h tk oI hcI hdI hk hi F N hacc
    have hlt : i < vs.length := by lia
    refine codeAny_builtin PySem.F.entry_extend_loop ?_
    rw [Around.under_plainId PySem.F.plain_extend_loop _]
    show wpAny _ A.in1 (pyNext (.ref M) >>= _) _ _ _
    have zS := N (S, listOf acc c) (.head _)
    have zM := N (M, mapOf T f) (.tail _ (.head _))
    have zT := N (T, oneT I) (.tail _ (.tail _ (.head _)))
    have zI := N (I, oI) (.tail _ (.tail _ (.tail _ (.head _))))
    try ((fail_if_success (with_reducible show Gz)); with_reducible (first | (refine letW ?_; intro Gz) | (refine letWC ?_; intro Gz)))
    obtain ⟨x, hx⟩ : ∃ x, vs[i]? = some x := ⟨_, List.getElem?_eq_getElem hlt⟩
    have hL : h.IsList l vs.toArray := (News.sub N fun p hp => .tail _ (.tail _ (.tail _ (.tail _ hp)))).isList hlm
    refine wpAny_bind (map_next zM.1 zT.1 ⟨_, zI.1, hcI, hdI⟩ hL (by simpa using hx) hIM fun h' hit' hs => ?_)
    try ((fail_if_success (with_reducible show Gz)); with_reducible (first | (refine letW ?_; intro Gz) | (refine letWC ?_; intro Gz)))
    refine Exists.elim hit' ?_
    clear hit'
    intro oI'
    refine Mine.A3 ?_
    intro hoI' hcI'
    intro hdI'
    have hIL : I ≠ L := zI.2.1
    have F1 : Fr h₀ L h' m := F.change hs hIL zI.2.2
    have N1 : News h₀ L h' ((S, listOf acc c) :: (M, mapOf T f) :: (T, oneT I) :: (I, oI') :: news) := fun p hp => by
      rcases List.mem_cons.mp hp with rfl | hp
      · exact ⟨hs.extBut _ _ hSI zS.1, zS.2⟩
      rcases List.mem_cons.mp hp with rfl | hp
      · exact ⟨hs.extBut _ _ hIM.symm zM.1, zM.2⟩
      rcases List.mem_cons.mp hp with rfl | hp
      · exact ⟨hs.extBut _ _ hIT.symm zT.1, zT.2⟩
      rcases List.mem_cons.mp hp with rfl | hp
      · exact ⟨hoI', zI.2⟩
      · have z := N p (.tail _ (.tail _ (.tail _ (.tail _ hp))))
        exact ⟨hs.extBut _ _ (hn p hp).2 z.1, z.2⟩
    refine wpAny_mono (hf i x h' tk _ hx F1 N1) (fun r s' hr => ?_) (fun _ _ e => e.elim)
    try ((fail_if_success (with_reducible show Gz)); with_reducible (first | (refine letW ?_; intro Gz) | (refine letWC ?_; intro Gz)))
    refine Mine.E2 ?_ hr
    clear hr
    intro h2 tk2
    refine Mine.A4 ?_
    intro hR1
    subst hR1
    intro F2 N2
    intro hP
    have zS2 := N2 (S, listOf acc c) (.head _)
    show wpAny _ A.in1 (updateSeq S (·.push r) >>= _) _ _ _
    refine wpAny_bind ?_
    have s3 := Heap.SameBut.update h2 S (Obj.mapSeq (·.push r))
    refine wpAny_updateSeq zS2.1 rfl (wpAny_pure ⟨plainId_quiet PySem.F.plain_extend_loop _, ?_⟩) (by rw [hacc.1, sizeLine_eq]; lia) (by show (acc.push r).size ≤ sizeLine + 1; rw [Array.size_push, hacc.1, sizeLine_eq]; lia)
    have F3 := F2.change s3 zS2.2.1 zS2.2.2
    refine ih (i + 1) (acc.push r) (c + 1) _ _ oI' hcI' hdI' (by lia) hlt F3 (fun p hp => ?_) (hacc.push hP)
    rcases List.mem_cons.mp hp with rfl | hp
    · exact ⟨(Heap.get?_update_self (Obj.mapSeq (·.push r)) zS2.1 rfl).trans (congrArg some (mapSeq_push ..)), zS2.2⟩
    have z := N2 p (.tail _ hp)
    refine ⟨s3.extBut _ _ ?_ z.1, z.2⟩
    rcases List.mem_cons.mp hp with rfl | hp
    · exact hSM.symm
    rcases List.mem_cons.mp hp with rfl | hp
    · exact hST.symm
    rcases List.mem_cons.mp hp with rfl | hp
    · exact hSI.symm
    · exact (hn p hp).1
end
end Mine
end
/-! part B12 -/
section
open PySem PySem.W PyProof.Rows HeadC
set_option maxRecDepth 100000
namespace Mine
theorem map_no_len : typeLookup (.type "map") "__len__" = pure none := by rw [typeLookup_type, builtinLookup_eq_fast]; kernel_rfl
theorem map_no_hint : typeLookup (.type "map") "__length_hint__" = pure none := by rw [typeLookup_type, builtinLookup_eq_fast]; kernel_rfl
section
variable {prog : Program} {w : World} {A : Around} {E : Value → Shared → Prop} {s : Shared} {h₀ : Heap} {L l : Addr} {m : Str → Option Value} {news : List (Addr × Obj)} {vs : List Value} {n : Nat} {f : Value}
theorem pyIter_map {M T : Addr} {Q : Value → Shared → Prop} (hM : s.heap.get? M = some (mapOf T f)) (h : Q (.ref M) s) : wpAny (model prog w) A (pyIter (.ref M)) Q E s := by
  have hT : s.TypeIs (.ref M) "map" := ⟨_, hM, rfl⟩
  refine wpAny_pyIter_slot hT slot_map_iter (wpAny_call_entry slot_map_iter hT entry_map_iter ?_ (args_map_iter _))
  show wpAny _ _ (ret (.ref M)) _ _ s
  exact wpAny_pure ⟨_, rfl, "map", _, hT, slot_map_next.lookup, h⟩
theorem collect_map {M T I : Addr} {P : Nat → Value → Prop} {Q : List Value → Shared → Prop} (hh : A.handled = none) (F : Fr h₀ L s.heap m) (N : News h₀ L s.heap ((M, mapOf T f) :: (T, oneT I) :: (I, itOf l 0) :: news))
    (hlm : (l, listOf vs.toArray n) ∈ news) (hsz : vs.length ≤ 1000) (hIM : I ≠ M) (hIT : I ≠ T) (hn : ∀ p ∈ news, p.1 ≠ I)
    (hf : ∀ i x h tk nw, vs[i]? = some x → Fr h₀ L h m → News h₀ L h nw → wpAny (model prog w) A.in1.in1 (call f [x]) (fun r s' => ∃ h' tk', s' = { s with heap := h', toks := tk' } ∧ Fr h₀ L h' m ∧ News h₀ L h' nw ∧ P i r) (fun _ _ => False) { s with heap := h, toks := tk })
    (hQ : ∀ h tk acc, Fr h₀ L h m → News h₀ L h news → ItemsOf P acc vs.length → Q acc.toList { s with heap := h, toks := tk }) :
    wpAny (model prog w) A (collect (.ref M)) Q E s := by
  unfold collect
  have zM := N (M, mapOf T f) (.head _)
  refine wpAny_bind (wpAny_runValue (codeAny_builtin PySem.F.entry_proto_collect ?_))
  rw [Around.under_plainId PySem.F.plain_proto_collect _]
  show wpAny _ A.in1 (newList [] >>= fun l => again (.builtin "list.__iadd__" ⟨[l, .ref M], []⟩)) _ _ s
  refine wpAny_bind (wpAny_newObj_type ?_)
  refine wpAny_pure ⟨plainId_quiet PySem.F.plain_list_iadd _, codeAny_builtin PySem.F.entry_list_iadd ?_⟩
  rw [Around.under_plainId PySem.F.plain_list_iadd _]
  have N1 := N.push F ({ cls := .type "list", data := .seq ([] : List Value).toArray } : Obj)
  have F1 := F.push ({ cls := .type "list", data := .seq ([] : List Value).toArray } : Obj)
  have hlt : ∀ p ∈ (M, mapOf T f) :: (T, oneT I) :: (I, itOf l 0) :: news, p.1 < s.heap.objs.size := fun p hp => Heap.lt_size (N p hp).1
  try ((fail_if_success (with_reducible show Gz)); with_reducible (first | (refine letW ?_; intro Gz) | (refine letWC ?_; intro Gz)))
  obtain ⟨S, hS⟩ : ∃ S, S = s.heap.objs.size := ⟨_, rfl⟩
  show wpAny _ A.in1 (Builtin.List.listExtendWith (.ref s.heap.objs.size) (.ref M) (.ref s.heap.objs.size)) _ _ _
  rw [← hS] at N1 hlt ⊢
  have hMS : M ≠ S := Nat.ne_of_lt (hlt _ (.head _))
  have hTy : Shared.TypeIs { s with heap := s.heap.push ({ cls := .type "list", data := .seq ([] : List Value).toArray } : Obj) } (.ref M) "map" := ⟨_, (N1 (M, mapOf T f) (.tail _ (.head _))).1, rfl⟩
  unfold Builtin.List.listExtendWith
  refine wpAny_bind (wpAny_typeOf hTy ?_)
  have h1 : Builtin.List.listSameRef (.ref S) (.ref M) = false := by simp [Builtin.List.listSameRef, hMS.symm]
  have h2 : (Value.type "map" == Value.type "list") = false := by decide
  have h3 : (Value.type "map" == Value.type "tuple") = false := by decide
  simp only [h1, h2, h3, Bool.or_false, Bool.false_eq_true, if_false]
  refine wpAny_bind (pyIter_map (N1 (M, mapOf T f) (.tail _ (.head _))).1 ?_)
  refine wpAny_bind (wpAny_holding ?_)
  unfold Builtin.List.listLengthHint
  refine wpAny_bind (wpAny_specialOf hTy map_no_len ?_)
  show wpAny _ A.in1 (specialOf (Value.ref M) (Str.ofString "__length_hint__") >>= _) _ _ _
  refine wpAny_bind (wpAny_specialOf hTy map_no_hint ?_)
  refine wpAny_pure ?_
  show wpAny _ A.in1 (rule "list.extend.makes-room" >>= fun _ => Builtin.List.listTouch (.ref S) >>= fun _ =>
    again (.builtin "list.extend.loop" ⟨[.ref S, .ref M, .ref S], []⟩)) _ _ _
  refine wpAny_bind (wpAny_rule ?_)
  have z1 := N1 (S, ({ cls := .type "list", data := .seq ([] : List Value).toArray } : Obj)) (.head _)
  refine wpAny_bind ?_
  show wpAny _ A.in1 (updateSeq S (·.push .none) >>= fun _ => updateSeq S (·.pop)) _ _ _
  refine wpAny_bind (wpAny_updateSeq z1.1 rfl ?_)
  have hS₂ := Heap.get?_update_self (Obj.mapSeq (·.push Value.none)) z1.1 rfl
  refine wpAny_updateSeq hS₂ rfl ?_
  have hS₃ := Heap.get?_update_self (Obj.mapSeq (·.pop)) hS₂ rfl
  have s2 := Heap.SameBut.update (s.heap.push ({ cls := .type "list", data := .seq ([] : List Value).toArray } : Obj)) S (Obj.mapSeq (·.push Value.none))
  have s3 := Heap.SameBut.update ((s.heap.push ({ cls := .type "list", data := .seq ([] : List Value).toArray } : Obj)).update S (Obj.mapSeq (·.push Value.none))) S (Obj.mapSeq (·.pop))
  have F3 := (F1.change s2 z1.2.1 z1.2.2).change s3 z1.2.1 z1.2.2
  refine wpAny_pure ⟨plainId_quiet PySem.F.plain_extend_loop _, extend_map (s := s) (P := P) (S := S) (M := M) (T := T) (I := I) (f := f) hh hlm hsz hIM hIT hMS.symm (Nat.ne_of_lt (hlt _ (.tail _ (.head _)))).symm (Nat.ne_of_lt (hlt _ (.tail _ (.tail _ (.head _))))).symm
    (fun p hp => ⟨Nat.ne_of_lt (hlt _ (.tail _ (.tail _ (.tail _ hp)))), hn p hp⟩) hf ?_ vs.length 0 #[] 2 _ _ (itOf l 0) rfl rfl rfl (Nat.zero_le _) F3 ?_ (ItemsOf.nil P)⟩
  · intro h tk acc c F5 N5 hacc
    show wpAny _ A (load S >>= _) _ _ _
    refine wpAny_bind (wpAny_load (N5 _ (.head _)).1 ?_)
    exact wpAny_pure (hQ h tk acc F5 (fun p hp => N5 p (.tail _ hp)) hacc)
  · intro p hp
    rcases List.mem_cons.mp hp with rfl | hp
    · exact ⟨hS₃, z1.2⟩
    · have z := N1 p (.tail _ hp)
      have hpS : p.1 ≠ S := Nat.ne_of_lt (hlt p hp)
      exact ⟨s3.extBut _ _ hpS (s2.extBut _ _ hpS z.1), z.2⟩
noncomputable abbrev tupA (acc : Array Value) : Obj := { cls := .type "tuple", data := .seq acc }
theorem call_tuple_map {M T I : Addr} {P : Nat → Value → Prop} {Q : Value → Shared → Prop} (hh : A.handled = none) (F : Fr h₀ L s.heap m) (N : News h₀ L s.heap ((M, mapOf T f) :: (T, oneT I) :: (I, itOf l 0) :: news))
    (hlm : (l, listOf vs.toArray n) ∈ news) (hsz : vs.length ≤ 1000) (hIM : I ≠ M) (hIT : I ≠ T) (hn : ∀ p ∈ news, p.1 ≠ I)
    (hf : ∀ i x h tk nw, vs[i]? = some x → Fr h₀ L h m → News h₀ L h nw → wpAny (model prog w) A.in1.in1.in1.in1 (call f [x]) (fun r s' => ∃ h' tk', s' = { s with heap := h', toks := tk' } ∧ Fr h₀ L h' m ∧ News h₀ L h' nw ∧ P i r) (fun _ _ => False) { s with heap := h, toks := tk })
    (hQ : ∀ h tk acc R, Fr h₀ L h m → News h₀ L h ((R, tupA acc) :: news) → (∀ p ∈ news, p.1 < R) → ItemsOf P acc vs.length → Q (.ref R) { s with heap := h, toks := tk }) :
    wpAny (model prog w) A (call (.type "tuple") [.ref M]) Q E s := by
  refine callType_codes (Q₁ := fun obj s₁ => s₁.TypeIs obj "tuple" ∧ Q obj s₁) PySem.F.called_tuple (PySem.F.typeCall_tuple_1 _) PySem.F.entry_object_init ?_ fun obj s₁ h₁ => ?_
  · refine codeAny_of_tree ?_
    show wpAny _ A.in1.in1 (do checkBuiltinCall "tuple.__new__" ⟨[.type "tuple", .ref M], []⟩; again (.builtin "tuple.__new__" ⟨[.type "tuple", .ref M], []⟩)) _ _ s
    refine wpAny_bind (wpAny_of_eq (PySem.F.newCall_tuple_1 _) (wpAny_pure ⟨plainId_quiet PySem.F.plain_tuple_new _, codeAny_builtin PySem.F.entry_tuple_new ?_⟩))
    rw [Around.under_plainId PySem.F.plain_tuple_new _]
    have hsub := sub_tuple_self
    have hinit := init_tuple_lookup
    have hmh := madeHere_tuple
    have hTy : s.TypeIs (.ref M) "map" := ⟨_, (N (M, mapOf T f) (.head _)).1, rfl⟩
    wp_walk using wpAny_typeOf hTy, collect_map (A := A.in1.in1) (s := s) (P := P) hh F N hlm hsz hIM hIT hn hf
    intro h tk acc F2 N2 hacc
    show wpAny _ _ (Builtin.Tuple.tupleExact acc.toList.toArray >>= fun v => ret v) _ _ _
    unfold Builtin.Tuple.tupleExact
    refine wpAny_bind (wpAny_newObj_type ?_ (by show acc.toList.toArray.size ≤ sizeLine; simp only [Array.toArray_toList]; rw [hacc.1, sizeLine_eq]; lia))
    refine wpAny_pure ?_
    have e : acc.toList.toArray = acc := by simp
    rw [e]
    exact ⟨⟨_, Heap.get?_push_size _ rfl, rfl⟩, hQ _ _ acc _ (F2.push _) (N2.push F2 _) (fun p hp => Heap.lt_size (N2 p hp).1) hacc⟩
  · exact ⟨h₁.1, PySem.F.args_object_init_2 obj _, object_init_meets PySem.F.called_tuple.init.lookup PySem.F.called_tuple.made (by decide) prog w A.in1 _ s₁ ⟨h₁.1, rfl, h₁.2⟩⟩
end
end Mine
end
/-! part C1 -/
section
example : True := by w_top off; trivial
open PySem PySem.W PyProof.Rows HeadC
set_option maxRecDepth 100000
namespace Mine
section
variable {α : Type} (lt : α → α → Bool)
noncomputable def sdGo (new : α) : Nat → List α → Nat → List α
  | 0, l, pos => l.set pos new
  | f + 1, l, pos =>
    if pos = 0 then l.set pos new
    else match l[(pos - 1) / 2]? with
      | some par => if lt new par then sdGo new f (l.set pos par) ((pos - 1) / 2) else l.set pos new
      | none => l.set pos new
theorem sdGo_len (new : α) : ∀ (f : Nat) (l : List α) (p : Nat), (sdGo lt new f l p).length = l.length
  | 0, l, p => by simp [sdGo]
  | f + 1, l, p => by
    unfold sdGo
    split
    · simp
    · split
      · split
        · rw [sdGo_len]; simp
        · simp
      · simp
theorem sdGo_fuel (new : α) : ∀ (f : Nat) (l : List α) (p : Nat), p ≤ f → sdGo lt new f l p = sdGo lt new p l p
  | 0, l, p, h => by rw [Nat.le_zero.mp h]
  | f + 1, l, p, h => by
    cases p with
    | zero => simp [sdGo]
    | succ p =>
      unfold sdGo
      have e : (p + 1 - 1) / 2 ≤ p := by lia
      simp only [Nat.add_one_ne_zero, if_false]
      split
      · split
        · rw [sdGo_fuel new f _ _ (by lia), sdGo_fuel new p _ _ e]
        · rfl
      · rfl
  termination_by f => f
end
noncomputable def IsItem (news : List (Addr × Obj)) (v : Value) (x : Item) : Prop :=
  ∃ a t u z n, v = .ref a ∧ (a, ({ cls := .type "tuple", data := .seq #[.int x.1 t, .str x.2.1 u, .bytes x.2.2 z] n } : Obj)) ∈ news
noncomputable abbrev VI := Value × Item
noncomputable def viLt (x y : VI) : Bool := itemLt x.2 y.2
noncomputable def vals (ps : List VI) : List Value := ps.map (·.1)

theorem lt_vi {prog : Program} {w : World} {A : Around} {E : Value → Shared → Prop} {s : Shared} {h₀ : Heap} {L : Addr} {news news' : List (Addr × Obj)} {x y : VI} {Q : Value → Shared → Prop} (hu : A.units < cLine) (N : News h₀ L s.heap news') (hsub : ∀ p ∈ news, p ∈ news')
    (hx : IsItem news x.1 x.2) (hy : IsItem news y.1 y.2) (h : Q (.bool (viLt x y)) s) : wpAny (model prog w) A (compareOp .Lt x.1 y.1) Q E s := by
  refine Mine.E5 ?_ hx
  clear hx
  intro a t u z n
  refine And.elim ?_
  intro e1
  intro m1
  refine Mine.E5 ?_ hy
  clear hy
  intro b t' u' z' n'
  refine And.elim ?_
  intro e2
  intro m2
  rw [e1, e2]
  exact lt_items hu (N.isTup (hsub _ m1)) (N.isTup (hsub _ m2)) h
theorem vals_set (l : List VI) (k : Nat) (x : VI) : (vals l).set k x.1 = vals (l.set k x) := by simp [vals, List.map_set]
theorem vals_len (l : List VI) : (vals l).length = l.length := by simp [vals]

theorem k_fill_now {w : World} : ∃ _ : Challenge.rw_pd0166_01 = Challenge.rw_pd0166_01, hd.heap_1 w.params = hd.heap_1 w.params := by
  k_fill
  exact ⟨rfl, rfl⟩

set_option maxHeartbeats 8000000 in
theorem c_siftdown {prog : Program} {w : World} {mean : ExcName → Option Value} {mg mb : Str → Option Value} {hp : Addr} {news : List (Addr × Obj)} {ps : List VI} {n pos : Nat} {t0 tp : Tok} {new : VI}
    (hne : ∀ p ∈ news, p.1 ≠ hp) (hit : ∀ p ∈ ps, IsItem news p.1 p.2) (hz : ps.length < 2 ^ 20) (hnew : ps[pos]? = some new) :
    CallC prog w mean mg mb 1 42 [.ref hp, .int 0 t0, .int pos tp] ((hp, listOf (vals ps).toArray n) :: news)
      (fun r news' => r = .none ∧ news' = (hp, listOf (vals (sdGo viLt new pos ps pos)).toArray n) :: news) := by
  intro dp un gd cn cs a ccd cl outer A₀ base h₀ L m s Q E B F X N T hk hdp hun hret
  refine wpAny_call ?_
  k_dflt ktr_enter
  rename_i g' L' h' FG F' N' B' X' T' 
  (first | refine letEnv ?_ | refine letEnvC ?_); intro Az envz Qz Ez
  iterate 6 walk1
  refine item_at (k := pos) (vs := vals ps) (n := n) N' (.head _) rfl (by simp [vals]; lia) (v := new.1) (by simp [vals, hnew]) ?_
  iterate 2 walk1
  rename_i h1 F1 N1
  refine While_inv3 (fun k m1 news1 => ∃ (l : List VI) (tp' : Tok), news1 = (hp, listOf (vals l).toArray n) :: news ∧ Has m1 [("heap", .ref hp), ("startpos", .int 0 t0), ("pos", .int k tp'), ("newitem", new.1)] ∧
      l.length = ps.length ∧ k < l.length ∧ (∀ q ∈ l, IsItem news q.1 q.2) ∧ sdGo viLt new k l k = sdGo viLt new pos ps pos)
    (fun m1 news1 => ∃ (l : List VI) (k : Nat) (tp' : Tok), news1 = (hp, listOf (vals l).toArray n) :: news ∧ Has m1 [("heap", .ref hp), ("pos", .int k tp'), ("newitem", new.1)] ∧ l.length = ps.length ∧ k < l.length ∧ l.set k new = sdGo viLt new pos ps pos)
    F1 N1 (n₀ := pos) (Mine.I2 ps tp ⟨rfl, ⟨rfl, rfl, rfl, rfl, trivial⟩, rfl, (List.getElem?_eq_some_iff.mp hnew).1, hit, rfl⟩) ?_ ?_
  · rintro k m1 news1 h2 tk2 F2 N2 hz7
    refine Mine.E2 ?_ hz7
    clear hz7
    intro l tp'
    refine Mine.A6 ?_
    intro hR1
    subst hR1
    intro hm hl hk hits
    intro hgo
    try ((fail_if_success (with_reducible show wpAny _ _ _ Qz _ _)); with_reducible (first | (refine letQ ?_; intro Qz) | (refine letQC ?_; intro Qz)))
    try ((fail_if_success (with_reducible show wpAny _ _ _ _ _ Sz)); with_reducible (first | (refine letS ?_; intro Sz) | (refine letSC ?_; intro Sz)))
    refine frsG F2 hm ?_; clear F2; intro _ F2
    iterate 4 walk1
    refine wpAny_truthy_bool ?_
    by_cases hk0 : k = 0
    · refine ifN (by simp; lia) ?_
      subst hk0
      exact Mine.I4 _ _ _ _ ⟨rfl, F2, N2, Mine.I3 l 0 tp' ⟨rfl, ⟨rfl, rfl, rfl, trivial⟩, hl, hk, by rw [← hgo]; rfl⟩⟩
    refine ifP (by simp; lia) ?_
    iterate 8 walk1
    refine rshift_int (by lia) ?_
    rw [show (((k : Int) - 1).fdiv (2 ^ (1 : Int).toNat)) = (((k - 1) / 2 : Nat) : Int) by
      have : ((2 : Int) ^ (1 : Int).toNat) = 2 := rfl
      rw [this, Int.fdiv_eq_ediv_of_nonneg _ (by lia)]; lia]
    have hpar : (k - 1) / 2 < l.length := by lia
    try ((fail_if_success (with_reducible show Gz)); with_reducible (first | (refine letW ?_; intro Gz) | (refine letWC ?_; intro Gz)))
    obtain ⟨par, hpar'⟩ : ∃ par, l[(k - 1) / 2]? = some par := ⟨_, List.getElem?_eq_getElem hpar⟩
    iterate 6 walk1
    rename_i h3 F3 N3
    refine item_at (k := (k - 1) / 2) (vs := vals l) (n := n) N3 (.head _) rfl (by simp [vals]; lia) (v := par.1) (by simp [vals, hpar']) ?_
    iterate 6 walk1
    rename_i h4 F4 N4
    have hunew : IsItem news new.1 new.2 := hit _ (List.mem_of_getElem? hnew)
    refine lt_vi (by show un + 3 < cLine; lia) N4 (fun _ h => .tail _ h) hunew (hits _ (List.mem_of_getElem? hpar')) ?_
    refine wpAny_truthy_bool ?_
    try ((fail_if_success (with_reducible show Gz)); with_reducible (first | (refine letW ?_; intro Gz) | (refine letWC ?_; intro Gz)))
    obtain ⟨k', rfl⟩ : ∃ k', k = k' + 1 := ⟨k - 1, by lia⟩
    by_cases hlt : viLt new par = true
    · rw [if_pos hlt]
      iterate 6 walk1
      refine set_at (k := k' + 1) (vs := vals l) F4 N4 hne rfl (by rw [vals_len]; lia) (by rw [vals_len]; lia) ?_
      intro h5 F5 N5
      rw [vals_set] at N5
      iterate 6 walk1
      rename_i h6 F6 N6
      refine Mine.I5 _ _ _ _ ((k' + 1 - 1) / 2) ⟨rfl, F6, N6, by lia, Mine.I2 (l.set (k' + 1) par) _ ⟨rfl, ⟨rfl, rfl, rfl, rfl, trivial⟩, by simpa using hl, by simpa using by lia, ?_, ?_⟩⟩
      · intro q hq
        rcases List.mem_or_eq_of_mem_set hq with h | h
        · exact hits _ h
        · rw [h]; exact hits _ (List.mem_of_getElem? hpar')
      · rw [← hgo]
        conv => rhs; unfold sdGo
        rw [if_neg (by lia), hpar']
        simp only [hlt, if_true]
        rw [sdGo_fuel _ _ k' _ _ (by lia)]
    · rw [if_neg hlt]
      iterate 4 walk1
      refine ⟨rfl, Mine.I4 _ _ _ _ ⟨rfl, F4, N4, Mine.I3 l (k' + 1) _ ⟨rfl, ⟨rfl, rfl, rfl, trivial⟩, hl, hk, ?_⟩⟩⟩
      rw [← hgo]
      conv => rhs; unfold sdGo
      rw [if_neg (by lia), hpar']
      simp [hlt]
  · rintro m1 news1 h2 tk2 F2 N2 hz6
    try ((fail_if_success (with_reducible show Gz)); with_reducible (first | (refine letW ?_; intro Gz) | (refine letWC ?_; intro Gz)))
    refine Mine.E3 ?_ hz6
    clear hz6
    intro l k tp'
    refine Mine.A5 ?_
    intro hR2
    subst hR2
    intro hm hl hk
    intro hgo
    try ((fail_if_success (with_reducible show wpAny _ _ _ Qz _ _)); with_reducible (first | (refine letQ ?_; intro Qz) | (refine letQC ?_; intro Qz)))
    try ((fail_if_success (with_reducible show wpAny _ _ _ _ _ Sz)); with_reducible (first | (refine letS ?_; intro Sz) | (refine letSC ?_; intro Sz)))
    refine frsG F2 hm ?_; clear F2; intro _ F2
    iterate 5 walk1
    refine set_at (k := k) (vs := vals l) F2 N2 hne rfl (by rw [vals_len]; lia) (by rw [vals_len]; lia) ?_
    intro h3 F3 N3
    rw [vals_set, hgo] at N3
    iterate 1 walk1
    exact leaveK_ F3 N3 (fun F N => hret _ _ _ _ F N ⟨rfl, rfl⟩)
end Mine
end
/-! part C2 -/
section
example : True := by w_top off; trivial
open PySem PySem.W PyProof.Rows HeadC
set_option maxRecDepth 100000
namespace Mine
section
variable {α : Type} (lt : α → α → Bool)
/-- the hole goes down to a leaf: the list and the hole's place -/
noncomputable def suGo : Nat → List α → Nat → List α × Nat
  | 0, l, pos => (l, pos)
  | f + 1, l, pos =>
    match l[2 * pos + 1]? with
    | none => (l, pos)
    | some c1 => match l[2 * pos + 2]? with
      | none => suGo f (l.set pos c1) (2 * pos + 1)
      | some c2 => if lt c1 c2 then suGo f (l.set pos c1) (2 * pos + 1) else suGo f (l.set pos c2) (2 * pos + 2)
theorem suGo_len : ∀ (f : Nat) (l : List α) (p : Nat), (suGo lt f l p).1.length = l.length
  | 0, _, _ => rfl
  | f + 1, l, p => by
    unfold suGo
    split
    · rfl
    · split
      · rw [suGo_len]; simp
      · split <;> (rw [suGo_len]; simp)
theorem suGo_fuel : ∀ (f : Nat) (l : List α) (p : Nat), l.length ≤ f + p → suGo lt f l p = suGo lt (l.length - p) l p
  | 0, l, p, h => by rw [show l.length - p = 0 by lia]
  | f + 1, l, p, h => by
    cases hn : l.length - p with
    | zero =>
      unfold suGo
      rw [List.getElem?_eq_none (by lia)]
    | succ n =>
      unfold suGo
      split
      · rfl
      · split
        · rw [suGo_fuel f _ _ (by simp; lia), suGo_fuel n _ _ (by simp; lia)]
        · split
          · rw [suGo_fuel f _ _ (by simp; lia), suGo_fuel n _ _ (by simp; lia)]
          · rw [suGo_fuel f _ _ (by simp; lia), suGo_fuel n _ _ (by simp; lia)]
  termination_by f => f
theorem suGo_lt : ∀ (f : Nat) (l : List α) (p : Nat), p < l.length → (suGo lt f l p).2 < l.length
  | 0, _, _, h => h
  | f + 1, l, p, h => by
    unfold suGo
    split
    · exact h
    · rename_i c1 h1
      have := (List.getElem?_eq_some_iff.mp h1).1
      split
      · simpa using suGo_lt f (l.set p c1) (2 * p + 1) (by simpa using this)
      · rename_i c2 h2
        have := (List.getElem?_eq_some_iff.mp h2).1
        split
        · simpa using suGo_lt f (l.set p c1) (2 * p + 1) (by simp; lia)
        · simpa using suGo_lt f (l.set p c2) (2 * p + 2) (by simp; lia)
noncomputable def suAll (new : α) (l : List α) : List α :=
  let r := suGo lt l.length l 0
  sdGo lt new r.2 (r.1.set r.2 new) r.2
end
theorem len_at {prog : Program} {w : World} {A : Around} {E : Value → Shared → Prop} {s : Shared} {h₀ : Heap} {L D : Addr} {news : List (Addr × Obj)} {vs : List Value} {n : Nat} {Q : Value → Shared → Prop} (N : News h₀ L s.heap news) (hm : (D, listOf vs.toArray n) ∈ news) (hz : vs.length < 2 ^ 62)
    (h : ∀ t tk, Q (.int vs.length t) { s with toks := tk }) : wpAny (model prog w) A (call (.builtin "len") [.ref D]) Q E s := by
  refine len_list (N.isList hm) (by simp; lia) ?_
  simpa using h _ _

theorem truthy_at {prog : Program} {w : World} {A : Around} {E : Value → Shared → Prop} {s : Shared} {h₀ : Heap} {L D : Addr} {news : List (Addr × Obj)} {vs : List Value} {n : Nat} {Q : Bool → Shared → Prop} (N : News h₀ L s.heap news) (hm : (D, listOf vs.toArray n) ∈ news) (hz : vs.length < 2 ^ 62)
    (h : ∀ tk, Q (!vs.isEmpty) { s with toks := tk }) : wpAny (model prog w) A (truthy (.ref D)) Q E s := by
  refine wpAny_truthy_list (N.isList hm) (by simp; lia) ?_
  simpa using h _

theorem k_fill_now2 {w : World} : ∃ _ : Challenge.rw_pd0166_01 = Challenge.rw_pd0166_01, hd.heap_1 w.params = hd.heap_1 w.params := by
  k_fill
  exact ⟨rfl, rfl⟩

set_option maxHeartbeats 8000000 in
theorem c_siftup {prog : Program} {w : World} {mean : ExcName → Option Value} {mg mb : Str → Option Value} {hp : Addr} {news : List (Addr × Obj)} {ps : List VI} {n : Nat} {t0 : Tok} {new : VI}
    (hne : ∀ p ∈ news, p.1 ≠ hp) (hit : ∀ p ∈ ps, IsItem news p.1 p.2) (hz : ps.length < 2 ^ 20) (hnew : ps[0]? = some new) :
    CallC prog w mean mg mb 2 49 [.ref hp, .int 0 t0] ((hp, listOf (vals ps).toArray n) :: news)
      (fun r news' => r = .none ∧ news' = (hp, listOf (vals (suAll viLt new ps)).toArray n) :: news) := by
  intro dp un gd cn cs a ccd cl outer A₀ base h₀ L m s Q E B F X N T hk hdp hun hret
  refine wpAny_call ?_
  k_dflt ktr_enter
  rename_i g' L' h' FG F' N' B' X' T' 
  (first | refine letEnv ?_ | refine letEnvC ?_); intro Az envz Qz Ez
  iterate 9 walk1
  refine len_at N' (.head _) (by rw [vals_len]; lia) (fun tL tk' => ?_)
  rw [vals_len]
  iterate 11 walk1
  rename_i h0' F0 N0
  refine item_at (k := 0) (vs := vals ps) (n := n) N0 (.head _) rfl (by rw [vals_len]; lia) (v := new.1) (by simp [vals, hnew]) ?_
  iterate 12 walk1
  rename_i h1 F1 N1
  have hlen0 : 0 < ps.length := (List.getElem?_eq_some_iff.mp hnew).1
  refine While_inv3 (fun f m1 news1 => ∃ (l : List VI) (k : Nat) (tp' tc' : Tok), news1 = (hp, listOf (vals l).toArray n) :: news ∧ Has m1 [("heap", .ref hp), ("endpos", .int ps.length tL), ("startpos", .int 0 t0), ("pos", .int k tp'), ("newitem", new.1), ("childpos", .int (2 * (k : Int) + 1) tc')] ∧
      l.length = ps.length ∧ f + k = l.length ∧ k < l.length ∧ (∀ q ∈ l, IsItem news q.1 q.2) ∧ suGo viLt f l k = suGo viLt ps.length ps 0)
    (fun m1 news1 => ∃ (l : List VI) (k : Nat) (tp' : Tok), news1 = (hp, listOf (vals l).toArray n) :: news ∧ Has m1 [("heap", .ref hp), ("startpos", .int 0 t0), ("pos", .int k tp'), ("newitem", new.1)] ∧ l.length = ps.length ∧ k < l.length ∧ (∀ q ∈ l, IsItem news q.1 q.2) ∧ (l, k) = suGo viLt ps.length ps 0)
    F1 N1 (n₀ := ps.length) (Mine.I4 ps 0 t0 _ ⟨rfl, ⟨rfl, rfl, rfl, rfl, rfl, rfl, trivial⟩, rfl, rfl, hlen0, hit, rfl⟩) ?_ ?_
  · rintro f m1 news1 h2 tk2 F2 N2 hz7
    try ((fail_if_success (with_reducible show Gz)); with_reducible (first | (refine letW ?_; intro Gz) | (refine letWC ?_; intro Gz)))
    refine Mine.E4 ?_ hz7
    clear hz7
    intro l k tp' tc'
    refine Mine.A6 ?_
    intro hR1
    subst hR1
    intro hm hl hf hk
    refine And.elim ?_
    intro hits
    intro hgo
    try ((fail_if_success (with_reducible show wpAny _ _ _ Qz _ _)); with_reducible (first | (refine letQ ?_; intro Qz) | (refine letQC ?_; intro Qz)))
    try ((fail_if_success (with_reducible show wpAny _ _ _ _ _ Sz)); with_reducible (first | (refine letS ?_; intro Sz) | (refine letSC ?_; intro Sz)))
    refine frsG F2 hm ?_; clear F2; intro _ F2
    iterate 4 walk1
    refine wpAny_truthy_bool ?_
    by_cases hc : 2 * k + 1 < l.length
    · refine ifP (by simp; lia) ?_
      iterate 8 walk1
      rename_i h3 F3 N3
      try ((fail_if_success (with_reducible show Gz)); with_reducible (first | (refine letW ?_; intro Gz) | (refine letWC ?_; intro Gz)))
      obtain ⟨c1, hc1⟩ : ∃ c1, l[2 * k + 1]? = some c1 := ⟨_, List.getElem?_eq_getElem hc⟩
      try ((fail_if_success (with_reducible show Gz)); with_reducible (first | (refine letW ?_; intro Gz) | (refine letWC ?_; intro Gz)))
      obtain ⟨f, rfl⟩ : ∃ f', f = f' + 1 := ⟨f - 1, by lia⟩
      refine cut (h₀ := g') (L := L') (fun m1 news1 => ∃ (c : Nat) (cc : VI) (tc : Tok) (ci : Int), news1 = (hp, listOf (vals l).toArray n) :: news ∧ Has m1 [("heap", .ref hp), ("endpos", .int ps.length tL), ("startpos", .int 0 t0), ("pos", .int k tp'), ("newitem", new.1), ("childpos", .int ci tc)] ∧
        ci = c ∧ l[c]? = some cc ∧ k < c ∧ suGo viLt f (l.set k cc) c = suGo viLt ps.length ps 0) ?_ ?_
      · iterate 6 walk1
        refine wpAny_truthy_bool ?_
        by_cases hc2 : 2 * k + 2 < l.length
        · refine ifP (by simp; lia) ?_
          try ((fail_if_success (with_reducible show Gz)); with_reducible (first | (refine letW ?_; intro Gz) | (refine letWC ?_; intro Gz)))
          obtain ⟨c2, hc2'⟩ : ∃ c2, l[2 * k + 2]? = some c2 := ⟨_, List.getElem?_eq_getElem hc2⟩
          iterate 6 walk1
          refine item_at (k := 2 * k + 1) (vs := vals l) (n := n) N3 (.head _) (by lia) (by rw [vals_len]; lia) (v := c1.1) (by simp [vals, hc1]) ?_
          iterate 3 walk1
          refine item_at (k := 2 * k + 2) (vs := vals l) (n := n) N3 (.head _) (by lia) (by rw [vals_len]; lia) (v := c2.1) (by simp [vals, hc2']) ?_
          refine lt_vi (by show un + 3 < cLine; lia) N3 (fun _ h => .tail _ h) (hits _ (List.mem_of_getElem? hc1)) (hits _ (List.mem_of_getElem? hc2')) ?_
          refine wpAny_truthy_bool ?_
          by_cases hlt : viLt c1 c2 = true
          · rw [hlt, Bool.not_true, if_neg (by simp)]
            refine wpAny_execs_nil ?_
            refine ⟨rfl, Mine.I4 _ _ _ _ ⟨rfl, F3, N3, Mine.I4 (2 * k + 1) c1 tc' _ ⟨rfl, ⟨rfl, rfl, rfl, rfl, rfl, rfl, trivial⟩, by lia, hc1, by lia, ?_⟩⟩⟩
            rw [← hgo]
            conv => rhs; unfold suGo
            rw [hc1, hc2']
            simp [hlt]
          · rw [Bool.not_eq_true] at hlt
            rw [hlt, Bool.not_false, if_pos rfl]
            iterate 7 walk1
            rename_i h4 F4 N4
            refine wpAny_execs_nil ?_
            refine ⟨rfl, Mine.I4 _ _ _ _ ⟨rfl, F4, N4, Mine.I4 (2 * k + 2) c2 _ _ ⟨rfl, ⟨rfl, rfl, rfl, rfl, rfl, rfl, trivial⟩, by lia, hc2', by lia, ?_⟩⟩⟩
            rw [← hgo]
            conv => rhs; unfold suGo
            rw [hc1, hc2']
            simp [hlt]
        · refine ifN (by simp; lia) (ifN (by simp) ?_)
          refine wpAny_execs_nil ?_
          refine ⟨rfl, Mine.I4 _ _ _ _ ⟨rfl, F3, N3, Mine.I4 (2 * k + 1) c1 tc' _ ⟨rfl, ⟨rfl, rfl, rfl, rfl, rfl, rfl, trivial⟩, by lia, hc1, by lia, ?_⟩⟩⟩
          rw [← hgo]
          conv => rhs; unfold suGo
          rw [hc1, List.getElem?_eq_none (by lia)]
      · rintro m1 news1 h2 tk2 F2 N2 hz6
        try ((fail_if_success (with_reducible show Gz)); with_reducible (first | (refine letW ?_; intro Gz) | (refine letWC ?_; intro Gz)))
        refine Mine.E4 ?_ hz6
        clear hz6
        intro c cc tc ci
        refine Mine.A6 ?_
        intro hR2
        subst hR2
        intro hm hR3
        subst hR3
        intro hcc hkc
        intro hgo
        try ((fail_if_success (with_reducible show wpAny _ _ _ Qz _ _)); with_reducible (first | (refine letQ ?_; intro Qz) | (refine letQC ?_; intro Qz)))
        try ((fail_if_success (with_reducible show wpAny _ _ _ _ _ Sz)); with_reducible (first | (refine letS ?_; intro Sz) | (refine letSC ?_; intro Sz)))
        refine frsG F2 hm ?_; clear F2; intro _ F2
        iterate 5 walk1
        have hcl := (List.getElem?_eq_some_iff.mp hcc).1
        refine item_at (k := c) (vs := vals l) (n := n) N2 (.head _) rfl (by rw [vals_len]; lia) (v := cc.1) (by simp [vals, hcc]) ?_
        iterate 2 walk1
        refine set_at (k := k) (vs := vals l) F2 N2 hne rfl (by rw [vals_len]; lia) (by rw [vals_len]; lia) ?_
        intro h4 F4 N4
        rw [vals_set] at N4
        iterate 14 walk1
        rename_i h5 F5 N5
        refine wpAny_execs_nil ?_
        refine Mine.I5 _ _ _ _ (l.length - c) ⟨rfl, F5, N5, by lia, Mine.I4 (l.set k cc) c _ _ ⟨rfl, ⟨rfl, rfl, rfl, rfl, rfl, rfl, trivial⟩, by simpa using hl, by simp; lia, by simpa using hcl, ?_, ?_⟩⟩
        · intro q hq
          rcases List.mem_or_eq_of_mem_set hq with h | h
          · exact hits _ h
          · rw [h]; exact hits _ (List.mem_of_getElem? hcc)
        · rw [← hgo, suGo_fuel _ f _ _ (by simp; lia)]
          simp
    · refine ifN (by simp; lia) ?_
      refine Mine.I4 _ _ _ _ ⟨rfl, F2, N2, Mine.I3 l k tp' ⟨rfl, ⟨rfl, rfl, rfl, rfl, trivial⟩, hl, hk, hits, ?_⟩⟩
      rw [← hgo]
      cases f with
      | zero => rfl
      | succ f => unfold suGo; rw [List.getElem?_eq_none (by lia)]
  · rintro m1 news1 h2 tk2 F2 N2 hz6
    try ((fail_if_success (with_reducible show Gz)); with_reducible (first | (refine letW ?_; intro Gz) | (refine letWC ?_; intro Gz)))
    refine Mine.E3 ?_ hz6
    clear hz6
    intro l k tp'
    refine Mine.A6 ?_
    intro hR4
    subst hR4
    intro hm hl hk hits
    intro hgo
    try ((fail_if_success (with_reducible show wpAny _ _ _ Qz _ _)); with_reducible (first | (refine letQ ?_; intro Qz) | (refine letQC ?_; intro Qz)))
    try ((fail_if_success (with_reducible show wpAny _ _ _ _ _ Sz)); with_reducible (first | (refine letS ?_; intro Sz) | (refine letSC ?_; intro Sz)))
    refine frsG F2 hm ?_; clear F2; intro _ F2
    iterate 5 walk1
    refine set_at (k := k) (vs := vals l) F2 N2 hne rfl (by rw [vals_len]; lia) (by rw [vals_len]; lia) ?_
    intro h3 F3 N3
    rw [vals_set] at N3
    iterate 13 walk1
    have hk' : (l.set k new)[k]? = some new := by simp [hk]
    refine CallC.use (c_siftdown (ps := l.set k new) (pos := k) (new := new) (news := news) (n := n) hne ?_ (by simpa using by lia) hk') B' F3 X' N3 T' rfl ?_ ?_ ?_
    · intro q hq
      rcases List.mem_or_eq_of_mem_set hq with h | h
      · exact hits _ h
      · rw [h]; exact hit _ (List.mem_of_getElem? hnew)
    · show dp + 1 + 1 < recursionLimit; lia
    · show un + 3 + 8 * 1 < cLine; lia
    · rintro r news' h5 tk5 F5 N5 hz6
      try ((fail_if_success (with_reducible show Gz)); with_reducible (first | (refine letW ?_; intro Gz) | (refine letWC ?_; intro Gz)))
      obtain ⟨rfl, rfl⟩ := hz6
      try ((fail_if_success (with_reducible show wpAny _ _ _ Qz _ _)); with_reducible (first | (refine letQ ?_; intro Qz) | (refine letQC ?_; intro Qz)))
      try ((fail_if_success (with_reducible show wpAny _ _ _ _ _ Sz)); with_reducible (first | (refine letS ?_; intro Sz) | (refine letSC ?_; intro Sz)))
      refine wpAny_execs_nil ?_
      have e : sdGo viLt new k (l.set k new) k = suAll viLt new ps := by
        unfold suAll
        rw [← hgo]
      rw [e] at N5
      exact leaveK_ F5 N5 (fun F N => hret _ _ _ _ F N ⟨rfl, rfl⟩)
end Mine
end
/-! part P1 -/
section
open PySem PySem.W PyProof.Rows HeadC
set_option maxRecDepth 100000
namespace Mine
/-! ### words of four octets, the three turnings -/
inductive Nm where
  | n2 | n3 | nx
  deriving DecidableEq
noncomputable def Nm.chr : Nm → Nat
  | .n2 => 50 | .n3 => 51 | .nx => 120
noncomputable def Nm.txt : Nm → Str
  | .n2 => Str.ofString "2" | .n3 => Str.ofString "3" | .nx => Str.ofString "x"
structure W4 where
  a : UInt8
  b : UInt8
  c : UInt8
  d : UInt8
  deriving DecidableEq
noncomputable def W4.arr (w : W4) : Array UInt8 := #[w.a, w.b, w.c, w.d]
noncomputable def W4.txt (w : W4) : Str := ⟨#[w.a.toNat, w.b.toNat, w.c.toNat, w.d.toNat]⟩
noncomputable def turn : Nm → W4 → W4
  | .n2, w => ⟨w.b, w.a, w.c, w.d⟩
  | .n3, w => ⟨w.c, w.b, w.a, w.d⟩
  | .nx, w => ⟨w.b, w.a, w.d, w.c⟩
theorem turn_turn (n : Nm) (w : W4) : turn n (turn n w) = w := by cases n <;> rfl
theorem W4.arr_inj {w v : W4} (h : w.arr.toList = v.arr.toList) : w = v := by
  cases w; cases v; simp [W4.arr] at h; simp [h]
theorem W4.txt_inj {w v : W4} (h : w.txt = v.txt) : w = v := by
  cases w; cases v
  simp [W4.txt] at h
  refine Mine.A4 ?_ h
  clear h
  intro h1 h2 h3
  intro h4
  simp [UInt8.toNat_inj.mp h1, UInt8.toNat_inj.mp h2, UInt8.toNat_inj.mp h3, UInt8.toNat_inj.mp h4]
noncomputable def low (w : W4) : Prop := w.a.toNat < 128 ∧ w.b.toNat < 128 ∧ w.c.toNat < 128 ∧ w.d.toNat < 128
theorem low_turn {n : Nm} {w : W4} (h : low w) : low (turn n w) := by
  refine Mine.A4 ?_ h
  clear h
  intro h1 h2 h3
  intro h4
  cases n <;> exact ⟨by assumption, by assumption, by assumption, by assumption⟩
end Mine
end
/-! part S1 -/
section
open PySem PySem.W PyProof.Rows HeadC
set_option maxRecDepth 100000
namespace Mine
/-! ### texts: slices, the last '/', stripping -/
theorem range_pick {α : Type} (l : List α) (i n : Nat) (h : i + n ≤ l.length) : ((List.range n).map (i + ·)).filterMap (l[·]?) = (l.drop i).take n := by
  induction n generalizing i with
  | zero => simp
  | succ n ih =>
    have hi : i < l.length := by lia
    rw [List.range_succ_eq_map, List.map_cons, List.filterMap_cons]
    have e : l[i + 0]? = some l[i] := by simp [hi]
    rw [e]
    have e2 : List.map (fun x => i + x) (List.map Nat.succ (List.range n)) = (List.range n).map (i + 1 + ·) := by
      rw [List.map_map]; apply List.map_congr_left; intro a _; simp [Nat.succ_eq_add_one]; lia
    rw [e2, ih (i + 1) (by lia)]
    rw [List.drop_eq_getElem_cons hi, List.take_succ_cons]
theorem sliceRange_one (i j : Nat) (hij : i ≤ j) : sliceRange (i : Int) (j : Int) 1 = (List.range (j - i)).map (i + ·) := by
  unfold sliceRange
  have hc : (if (1 : Int) > 0 then (if (i : Int) < j then ((j : Int) - i + 1 - 1) / 1 else 0) else (if (i : Int) > j then ((i : Int) - j - 1 - 1) / (-1) else 0)).toNat = j - i := by
    simp only [show (1 : Int) > 0 by decide, if_true]
    split <;> lia
  simp only [hc]
  apply List.map_congr_left
  intro a _
  lia
theorem slice_of (x : Str) (l u : Option Int) (i j : Nat) (hij : i ≤ j) (hj : j ≤ x.length) (e : Builtin.Str.strSliceIndices l u 1 x.length = sliceRange (i : Int) (j : Int) 1) :
    (Txt.slice x l u).cps.toList = (x.cps.toList.drop i).take (j - i) := by
  have hlen : x.cps.toList.length = x.length := by simp [Str.length]
  unfold Txt.slice
  rw [e, sliceRange_one i j hij]
  split
  · rename_i h
    simp only [beq_self_eq_true, Bool.true_and, List.length_map, List.length_range, beq_iff_eq] at h
    have hi0 : i = 0 := by lia
    have hj0 : j = x.length := by lia
    subst hi0; subst hj0
    rw [List.take_of_length_le (by simp [Str.length])]; simp
  · show (List.filterMap _ _).toArray.toList = _
    have := range_pick x.cps.toList i (j - i) (by lia)
    simpa using this
theorem slice_sn (x : Str) (i : Nat) (h : i ≤ x.length) : (Txt.slice x (some (i : Int)) none).cps.toList = x.cps.toList.drop i := by
  rw [slice_of x _ _ i x.length h (Nat.le_refl _)]
  · rw [List.take_of_length_le]; simp [Str.length]
  · unfold Builtin.Str.strSliceIndices
    simp only [show (1 : Int) > 0 by decide, if_true]
    congr 1
    lia
theorem slice_ns (x : Str) (j : Nat) (h : j ≤ x.length) : (Txt.slice x none (some (j : Int))).cps.toList = x.cps.toList.take j := by
  rw [slice_of x _ _ 0 j (Nat.zero_le _) h]
  · simp
  · unfold Builtin.Str.strSliceIndices
    simp only [show (1 : Int) > 0 by decide, if_true]
    congr 1
    lia
theorem Str.ext_list {x y : Str} (h : x.cps.toList = y.cps.toList) : x = y := by
  cases x; cases y; simp only [Str.mk.injEq]; exact Array.toList_inj.mp h
noncomputable def slash : Str := "/"
theorem slash_cps : (Str.ofString "/").cps.toList = [47] := by decide
theorem slash_len : (Str.ofString "/").length = 1 := by decide
theorem rfind_at (x : Str) (l r : List Nat) (hx : x.cps.toList = l ++ 47 :: r) (hr : 47 ∉ r) : Txt.rfind x "/" = (l.length : Int) := by
  have hlen : x.length = l.length + 1 + r.length := by
    have := congrArg List.length hx
    simp [Str.length] at this ⊢; lia
  have hat : StrLaws.At x "/" x.length l.length := by
    refine ⟨by rw [slash_len]; lia, ?_⟩
    rw [StrLaws.subAt_eq, slash_len, slash_cps, hx]
    simp
  rcases rfind_whole x "/" with ⟨_, h⟩ | ⟨i, hi, hAt, hn⟩
  · exact absurd hat (h _)
  · rw [hi]
    rcases Nat.lt_trichotomy i l.length with h | h | h
    · exact absurd hat (hn _ h)
    · rw [h]
    · exfalso
      have h1 := hAt.1
      rw [slash_len] at h1
      have h2 := hAt.2
      rw [StrLaws.subAt_eq, slash_len, slash_cps, hx] at h2
      have : (l ++ 47 :: r).drop i = r.drop (i - l.length - 1) := by
        rw [List.drop_append, List.drop_eq_nil_of_le (by lia), List.nil_append]
        obtain ⟨k, hk⟩ : ∃ k, i - l.length = k + 1 := ⟨i - l.length - 1, by lia⟩
        rw [hk]; simp
      rw [this] at h2
      have h3 := (beq_iff_eq.mp h2)
      have : 47 ∈ r := by
        have : 47 ∈ (r.drop (i - l.length - 1)).take 1 := by rw [h3]; simp
        exact List.mem_of_mem_drop (List.mem_of_mem_take this)
      exact hr this

theorem rstrip_at (x : Str) (l : List Nat) (c : Nat) (hx : x.cps.toList = l ++ [c, 47]) (hc : c ≠ 47) : Txt.rstripChars x "/" = ⟨(l ++ [c]).toArray⟩ := by
  have hlen : x.length = l.length + 2 := by
    have := congrArg List.length hx
    simp [Str.length] at this ⊢; lia
  have hct : ∀ k, (Str.ofString "/").cps.contains k = (k == 47) := by
    intro k
    rw [← Array.contains_toList, slash_cps]
    simp [Bool.beq_eq_decide_eq]
  have hi : stripHi (Str.ofString "/").cps.contains true x 0 = l.length + 1 := by
    simp only [stripHi, if_true, List.drop_zero, hx, List.reverse_append, List.reverse_cons, List.reverse_nil, List.nil_append, List.cons_append]
    simp only [List.takeWhile_cons, hct, beq_self_eq_true, if_true, beq_iff_eq, hc, if_false]
    rw [hlen]
    simp
  have lo : stripLo (Str.ofString "/").cps.contains false x = 0 := rfl
  unfold Txt.rstripChars Txt.stripBy stripSame PySem.stripped
  rw [lo, hi, if_neg (by simp; lia)]
  apply Str.ext_list
  rw [StrLaws.strSub_toList, hx]
  simp [List.take_append, List.take_of_length_le (show l.length ≤ l.length + 1 by lia)]

/-! ### ways: a path of one-sign names from the root -/
noncomputable def wayL : List Nat → List Nat
  | [] => [47]
  | c :: cs => (c :: cs).flatMap fun c => [47, c]
noncomputable def wayS (cs : List Nat) : Str := ⟨(wayL cs).toArray⟩
noncomputable def chrS (c : Nat) : Str := ⟨#[c]⟩
theorem wayS_cps (cs : List Nat) : (wayS cs).cps.toList = wayL cs := by simp [wayS]
theorem wayL_snoc (cs : List Nat) (c : Nat) : wayL (cs ++ [c]) = (cs.flatMap fun c => [47, c]) ++ [47, c] := by
  cases cs with
  | nil => rfl
  | cons d ds => simp [wayL]
theorem wayL_len (cs : List Nat) : (wayL cs).length = if cs = [] then 1 else 2 * cs.length := by
  cases cs with
  | nil => rfl
  | cons c cs =>
    have : ∀ l : List Nat, (l.flatMap fun c => [47, c]).length = 2 * l.length := by
      intro l; induction l with
      | nil => rfl
      | cons a l ih => simp [List.flatMap_cons, ih]; lia
    simp only [wayL, this]; simp
theorem wayS_len (cs : List Nat) : (wayS cs).length = if cs = [] then 1 else 2 * cs.length := by
  rw [← wayL_len]; simp [Str.length, wayS]
theorem wayS_pos (cs : List Nat) : (wayS cs).length ≠ 0 := by
  rw [wayS_len]; split
  · simp
  · rename_i h; have : cs.length ≠ 0 := fun e => h (List.length_eq_zero_iff.mp e); lia
theorem way_rfind (cs : List Nat) (c : Nat) (hc : c ≠ 47) : Txt.rfind (wayS (cs ++ [c])) "/" = (((wayL (cs ++ [c])).length - 2 : Nat) : Int) := by
  rw [rfind_at _ (cs.flatMap fun c => [47, c]) [c] (by rw [wayS_cps, wayL_snoc]) (by simpa using fun e => hc e.symm)]
  rw [wayL_snoc]; simp
theorem way_base (cs : List Nat) (c : Nat) (hc : c ≠ 47) : Txt.slice (wayS (cs ++ [c])) (some (Txt.rfind (wayS (cs ++ [c])) "/" + 1)) none = chrS c := by
  rw [way_rfind cs c hc]
  have hl : (wayL (cs ++ [c])).length = (cs.flatMap fun c => [47, c]).length + 2 := by rw [wayL_snoc]; simp
  rw [show ((((wayL (cs ++ [c])).length - 2 : Nat) : Int) + 1) = (((wayL (cs ++ [c])).length - 1 : Nat) : Int) by lia]
  apply Str.ext_list
  rw [slice_sn _ _ (by simp [Str.length, wayS]), wayS_cps, hl, wayL_snoc]
  simp [chrS, List.drop_append]
theorem way_head (cs : List Nat) (c : Nat) (hc : c ≠ 47) : (Txt.slice (wayS (cs ++ [c])) none (some (Txt.rfind (wayS (cs ++ [c])) "/" + 1))).cps.toList = (cs.flatMap fun c => [47, c]) ++ [47] := by
  rw [way_rfind cs c hc]
  have hl : (wayL (cs ++ [c])).length = (cs.flatMap fun c => [47, c]).length + 2 := by rw [wayL_snoc]; simp
  rw [show ((((wayL (cs ++ [c])).length - 2 : Nat) : Int) + 1) = (((wayL (cs ++ [c])).length - 1 : Nat) : Int) by lia]
  rw [slice_ns _ _ (by simp [Str.length, wayS]), wayS_cps, hl, wayL_snoc]
  generalize (cs.flatMap fun c => [47, c]) = l
  rw [show l.length + 2 - 1 = l.length + 1 by lia, List.take_append, List.take_of_length_le (by lia)]
  simp
theorem mul_ok (n : Nat) (hn : n ≤ 1048576) : MulOk "/" (n : Int) := by
  refine ⟨?_, ?_, ?_⟩
  · simp only [Bool.or_eq_false_iff, decide_eq_false_iff_not]; lia
  · intro h1 _
    rw [slash_len]
    have : (1 : Int) ≤ (2 ^ 63 - 1) / (n : Int) := by
      rw [Int.le_ediv_iff_mul_le (by lia)]; lia
    lia
  · intro _ _
    rw [slash_len]
    simp only [Builtin.Str.tooLong, Int.toNat_natCast, Nat.one_mul]
    simp only [decide_eq_false_iff_not, sizeLine_eq]
    lia
theorem mul_slash (n : Nat) (h0 : n ≠ 0) : (Txt.mul "/" (n : Int)).cps.toList = List.replicate n 47 := by
  unfold Txt.mul
  rw [if_neg (by lia)]
  split
  · rename_i h
    rw [slash_len] at h
    have : (n : Int) = 1 := by simpa using h
    have : n = 1 := by lia
    subst this
    exact slash_cps
  · have : ∀ (k : Nat) (a : Array Nat), ((List.replicate k (Str.ofString "/").cps).foldl (· ++ ·) a).toList = a.toList ++ List.replicate k 47 := by
      intro k
      induction k with
      | zero => intro a; simp
      | succ k ih => intro a; rw [List.replicate_succ, List.foldl_cons, ih, Array.toList_append, slash_cps]; simp [List.replicate_succ]
    rw [Int.toNat_natCast, this]
    simp
theorem endswith_iff (x : Str) : Txt.endswith x "/" = (x.cps.toList.getLast? == some 47) := by
  unfold Txt.endswith
  rw [slash_len, StrLaws.subAt_eq, slash_len, slash_cps]
  rcases List.eq_nil_or_concat x.cps.toList with h | ⟨l, c, h⟩
  · have : x.length = 0 := by have := congrArg List.length h; simpa [Str.length] using this
    rw [this, h]; simp
  · have : x.length = l.length + 1 := by have := congrArg List.length h; simpa [Str.length] using this
    rw [this, h]
    simp [List.concat_eq_append]
end Mine
end
/-! part P2 -/
section
open PySem PySem.W PyProof.Rows HeadC
namespace Mine
/-! ### the heap keeps its order -/
section
variable {α : Type} (lt : α → α → Bool) (P : α → Prop)
noncomputable def HeapOk (l : List α) : Prop := ∀ i a b, 0 < i → l[i]? = some a → l[(i - 1) / 2]? = some b → lt a b = false
/-- the hole at p is to be filled with new, from below -/
structure UpOk (new : α) (l : List α) (p : Nat) : Prop where
  hp : p < l.length
  rest : ∀ i a b, 0 < i → i ≠ p → (i - 1) / 2 ≠ p → l[i]? = some a → l[(i - 1) / 2]? = some b → lt a b = false
  kid : ∀ i a, 0 < i → (i - 1) / 2 = p → l[i]? = some a → lt a new = false ∧ ∀ b, 0 < p → l[(p - 1) / 2]? = some b → lt a b = false
  allP : ∀ a ∈ l, P a
  newP : P new
/-- the hole at p goes down -/
structure DownOk (l : List α) (p : Nat) : Prop where
  hp : p < l.length
  rest : ∀ i a b, 0 < i → i ≠ p → (i - 1) / 2 ≠ p → l[i]? = some a → l[(i - 1) / 2]? = some b → lt a b = false
  kid : ∀ i a, 0 < i → (i - 1) / 2 = p → l[i]? = some a → ∀ b, 0 < p → l[(p - 1) / 2]? = some b → lt a b = false
  allP : ∀ a ∈ l, P a
variable {lt P}
variable (asym : ∀ a b, P a → P b → lt a b = true → lt b a = false) (ntr : ∀ a b c, P a → P b → P c → lt a b = false → lt b c = false → lt a c = false)
include asym ntr
theorem sdGo_ok (new : α) : ∀ (f : Nat) (l : List α) (p : Nat), p ≤ f → UpOk lt P new l p → HeapOk lt (sdGo lt new f l p) := by
  have fin : ∀ (l : List α) (p : Nat), UpOk lt P new l p → (∀ b, 0 < p → l[(p - 1) / 2]? = some b → lt new b = false) → HeapOk lt (l.set p new) := by
    intro l p h hpar i a b h0 ha hb
    by_cases h1 : i = p
    · subst h1
      rw [List.getElem?_set_self h.hp] at ha
      rw [List.getElem?_set_ne (by lia)] at hb
      cases ha
      exact hpar b h0 hb
    · rw [List.getElem?_set_ne (Ne.symm h1)] at ha
      by_cases h2 : (i - 1) / 2 = p
      · rw [h2, List.getElem?_set_self h.hp] at hb
        cases hb
        exact (h.kid i a h0 h2 ha).1
      · rw [List.getElem?_set_ne (Ne.symm h2)] at hb
        exact h.rest i a b h0 h1 h2 ha hb
  intro f
  induction f with
  | zero =>
    intro l p hf h
    exact fin l p h (fun b hb _ => by lia)
  | succ f ih =>
    intro l p hf h
    unfold sdGo
    by_cases hp0 : p = 0
    · rw [if_pos hp0]; exact fin l p h (fun b hb _ => by lia)
    · rw [if_neg hp0]
      have hq : (p - 1) / 2 < l.length := by have := h.hp; lia
      rw [List.getElem?_eq_getElem hq]
      dsimp only
      by_cases hlt : lt new l[(p - 1) / 2] = true
      · rw [if_pos hlt]
        obtain ⟨par, hpar⟩ : ∃ par, l[(p - 1) / 2] = par := ⟨_, rfl⟩
        rw [hpar] at hlt ⊢
        have hq' : l[(p - 1) / 2]? = some par := by rw [List.getElem?_eq_getElem hq, hpar]
        have pP : P par := h.allP _ (List.mem_of_getElem? hq')
        refine ih _ _ (by lia) ⟨by simpa using hq, ?_, ?_, ?_, h.newP⟩
        · intro i a b h0 hi hpi ha hb
          by_cases h1 : i = p
          · exact absurd (by rw [h1]) hpi
          · rw [List.getElem?_set_ne (Ne.symm h1)] at ha
            by_cases h2 : (i - 1) / 2 = p
            · rw [h2, List.getElem?_set_self h.hp] at hb
              cases hb
              exact (h.kid i a h0 h2 ha).2 par (by lia) hq'
            · rw [List.getElem?_set_ne (Ne.symm h2)] at hb
              exact h.rest i a b h0 h1 h2 ha hb
        · intro i a h0 hpi ha
          by_cases h1 : i = p
          · subst h1
            rw [List.getElem?_set_self h.hp] at ha
            cases ha
            refine ⟨asym _ _ h.newP pP hlt, fun b hb0 hb => ?_⟩
            rw [List.getElem?_set_ne (by lia)] at hb
            exact h.rest _ _ _ hb0 (by lia) (by lia) hq' hb
          · rw [List.getElem?_set_ne (Ne.symm h1)] at ha
            have hap : lt a par = false := h.rest i a par h0 h1 (by lia) ha (by rw [hpi]; exact hq')
            have aP := h.allP _ (List.mem_of_getElem? ha)
            refine ⟨ntr _ _ _ aP pP h.newP hap (asym _ _ h.newP pP hlt), fun b hb0 hb => ?_⟩
            rw [List.getElem?_set_ne (by lia)] at hb
            exact ntr _ _ _ aP pP (h.allP _ (List.mem_of_getElem? hb)) hap (h.rest _ _ _ hb0 (by lia) (by lia) hq' hb)
        · intro a ha
          rcases List.mem_or_eq_of_mem_set ha with h' | h'
          · exact h.allP a h'
          · rw [h']; exact pP
      · rw [if_neg hlt]
        refine fin l p h (fun b _ hb => ?_)
        rw [List.getElem?_eq_getElem hq] at hb
        cases hb
        simpa using hlt
theorem suGo_ok : ∀ (f : Nat) (l : List α) (p : Nat), l.length ≤ f + p → DownOk lt P l p →
    DownOk lt P (suGo lt f l p).1 (suGo lt f l p).2 ∧ (suGo lt f l p).1[2 * (suGo lt f l p).2 + 1]? = none
  | 0, l, p, hf, h => by have := h.hp; lia
  | f + 1, l, p, hf, h => by
    have step : ∀ (c : Nat) (cc : α), (c - 1) / 2 = p → 0 < c → l[c]? = some cc → (∀ i a, 0 < i → (i - 1) / 2 = p → i ≠ c → l[i]? = some a → lt a cc = false) → DownOk lt P (l.set p cc) c := by
      intro c cc hc hc0 hcc hmin
      have cP := h.allP _ (List.mem_of_getElem? hcc)
      refine ⟨by simpa using (List.getElem?_eq_some_iff.mp hcc).1, ?_, ?_, ?_⟩
      · intro i a b h0 hi hpi ha hb
        by_cases h1 : i = p
        · subst h1
          rw [List.getElem?_set_self h.hp] at ha
          rw [List.getElem?_set_ne (by lia)] at hb
          cases ha
          exact h.kid c cc hc0 hc hcc b h0 hb
        · rw [List.getElem?_set_ne (Ne.symm h1)] at ha
          by_cases h2 : (i - 1) / 2 = p
          · rw [h2, List.getElem?_set_self h.hp] at hb
            cases hb
            exact hmin i a h0 h2 hi ha
          · rw [List.getElem?_set_ne (Ne.symm h2)] at hb
            exact h.rest i a b h0 h1 h2 ha hb
      · intro i a h0 hpi ha b hb0 hb
        have h1 : i ≠ p := by lia
        rw [List.getElem?_set_ne (Ne.symm h1)] at ha
        rw [hc, List.getElem?_set_self h.hp] at hb
        cases hb
        exact h.rest i a cc h0 h1 (by lia) ha (by rw [hpi]; exact hcc)
      · intro a ha
        rcases List.mem_or_eq_of_mem_set ha with h' | h'
        · exact h.allP a h'
        · rw [h']; exact cP
    unfold suGo
    have hp := h.hp
    split
    · rename_i hn
      exact ⟨h, hn⟩
    · rename_i c1 h1
      split
      · rename_i h2
        refine suGo_ok f _ _ (by simp; lia) (step _ c1 (by lia) (by lia) h1 ?_)
        intro i a h0 hi hic ha
        have : i = 2 * p + 2 := by lia
        rw [this, h2] at ha; cases ha
      · rename_i c2 h2
        have p1 := h.allP _ (List.mem_of_getElem? h1)
        have p2 := h.allP _ (List.mem_of_getElem? h2)
        split
        · rename_i hlt
          refine suGo_ok f _ _ (by simp; lia) (step _ c1 (by lia) (by lia) h1 ?_)
          intro i a h0 hi hic ha
          have : i = 2 * p + 2 := by lia
          rw [this, h2] at ha; cases ha
          exact asym _ _ p1 p2 hlt
        · rename_i hlt
          refine suGo_ok f _ _ (by simp; lia) (step _ c2 (by lia) (by lia) h2 ?_)
          intro i a h0 hi hic ha
          have : i = 2 * p + 1 := by lia
          rw [this, h1] at ha; cases ha
          simpa using hlt
theorem suAll_ok {new : α} {l : List α} (hl : 0 < l.length) (h : DownOk lt P l 0) (hn : P new) : HeapOk lt (suAll lt new l) := by
  obtain ⟨hd, hk⟩ := suGo_ok asym ntr l.length l 0 (by lia) h
  unfold suAll
  dsimp only
  refine sdGo_ok asym ntr new _ _ _ (Nat.le_refl _) ⟨by simpa using hd.hp, ?_, ?_, ?_, hn⟩
  · intro i a b h0 hi hpi ha hb
    rw [List.getElem?_set_ne (Ne.symm hi)] at ha
    rw [List.getElem?_set_ne (Ne.symm hpi)] at hb
    exact hd.rest i a b h0 hi hpi ha hb
  · intro i a h0 hpi ha
    exfalso
    rw [List.getElem?_set_ne (by lia)] at ha
    have h1 := (List.getElem?_eq_some_iff.mp ha).1
    have h2 := List.getElem?_eq_none_iff.mp hk
    lia
  · intro a ha
    rcases List.mem_or_eq_of_mem_set ha with h' | h'
    · exact hd.allP a h'
    · rw [h']; exact hn
theorem heap_min {l : List α} (hh : HeapOk lt l) (hP : ∀ a ∈ l, P a) {top : α} (ht : l[0]? = some top) : ∀ a ∈ l, lt a top = false := by
  have irr : ∀ a, P a → lt a a = false := fun a ha => by
    cases e : lt a a with
    | false => rfl
    | true => rw [← e]; exact asym a a ha ha e
  have go : ∀ (n i : Nat), i < n → ∀ a, l[i]? = some a → lt a top = false := by
    intro n
    induction n with
    | zero => intro i h; lia
    | succ n ih =>
      intro i hi a ha
      by_cases h0 : i = 0
      · subst h0; rw [ht] at ha; cases ha; exact irr _ (hP _ (List.mem_of_getElem? ht))
      · have hlt : (i - 1) / 2 < l.length := by have := (List.getElem?_eq_some_iff.mp ha).1; lia
        have hb := List.getElem?_eq_getElem hlt
        exact ntr _ _ _ (hP _ (List.mem_of_getElem? ha)) (hP _ (List.mem_of_getElem? hb)) (hP _ (List.mem_of_getElem? ht)) (hh i a _ (by lia) ha hb) (ih _ (by lia) _ hb)
  intro a ha
  obtain ⟨i, hi⟩ := List.mem_iff_getElem?.mp ha
  exact go (i + 1) i (by lia) a hi
end
section
variable {α : Type} {lt : α → α → Bool}
theorem mem_swap {l : List α} {i j : Nat} {a b : α} (hij : i ≠ j) (hi : i < l.length) (hb : l[j]? = some b) (q : α) : q ∈ (l.set i b).set j a ↔ q ∈ l.set i a := by
  have hj := (List.getElem?_eq_some_iff.mp hb).1
  simp only [List.mem_iff_getElem?]
  constructor
  · rintro ⟨k, hk⟩
    by_cases h1 : k = j
    · subst h1
      rw [List.getElem?_set_self (by simpa using hj)] at hk
      exact ⟨i, by rw [List.getElem?_set_self hi]; exact hk⟩
    · rw [List.getElem?_set_ne (Ne.symm h1)] at hk
      by_cases h2 : k = i
      · subst h2
        rw [List.getElem?_set_self hi] at hk
        exact ⟨j, by rw [List.getElem?_set_ne hij, hb]; exact hk⟩
      · rw [List.getElem?_set_ne (Ne.symm h2)] at hk
        exact ⟨k, by rw [List.getElem?_set_ne (Ne.symm h2)]; exact hk⟩
  · rintro ⟨k, hk⟩
    by_cases h2 : k = i
    · subst h2
      rw [List.getElem?_set_self hi] at hk
      exact ⟨j, by rw [List.getElem?_set_self (by simpa using hj)]; exact hk⟩
    · rw [List.getElem?_set_ne (Ne.symm h2)] at hk
      by_cases h1 : k = j
      · subst h1
        rw [hb] at hk
        exact ⟨i, by rw [List.getElem?_set_ne (Ne.symm hij), List.getElem?_set_self hi]; exact hk⟩
      · exact ⟨k, by rw [List.getElem?_set_ne (Ne.symm h1), List.getElem?_set_ne (Ne.symm h2)]; exact hk⟩
theorem sdGo_mem (new : α) : ∀ (f : Nat) (l : List α) (p : Nat), p < l.length → ∀ q, q ∈ sdGo lt new f l p ↔ q ∈ l.set p new
  | 0, l, p, _, q => Iff.rfl
  | f + 1, l, p, hp, q => by
    unfold sdGo
    split
    · rfl
    · rename_i h0
      split
      · rename_i par hpar
        split
        · rw [sdGo_mem new f _ _ (by simp; lia), mem_swap (by lia) hp hpar]
        · rfl
      · rfl
theorem suGo_mem (new : α) : ∀ (f : Nat) (l : List α) (p : Nat), p < l.length → ∀ q, q ∈ (suGo lt f l p).1.set (suGo lt f l p).2 new ↔ q ∈ l.set p new
  | 0, l, p, _, q => Iff.rfl
  | f + 1, l, p, hp, q => by
    unfold suGo
    split
    · rfl
    · rename_i c1 h1
      have := (List.getElem?_eq_some_iff.mp h1).1
      split
      · rw [suGo_mem new f _ _ (by simpa using this), mem_swap (by lia) hp h1]
      · rename_i c2 h2
        have := (List.getElem?_eq_some_iff.mp h2).1
        split
        · rw [suGo_mem new f _ _ (by simp; lia), mem_swap (by lia) hp h1]
        · rw [suGo_mem new f _ _ (by simp; lia), mem_swap (by lia) hp h2]
theorem suAll_mem {new : α} {l : List α} (hl : 0 < l.length) (q : α) : q ∈ suAll lt new l ↔ q ∈ l.set 0 new := by
  unfold suAll
  dsimp only
  have h := suGo_lt lt l.length l 0 hl
  rw [sdGo_mem new _ _ _ (by rw [List.length_set, suGo_len]; exact h), List.set_set, suGo_mem new _ _ _ hl]
theorem suAll_len {new : α} {l : List α} : (suAll lt new l).length = l.length := by
  unfold suAll
  dsimp only
  rw [sdGo_len, List.length_set, suGo_len]
end
end Mine
end
/-! part P3 -/
section
example : True := by w_top off; trivial
open PySem PySem.W PyProof.Rows HeadC
namespace Mine
noncomputable abbrev Way := List Nm
noncomputable abbrev Ent := W4 × Int × Way
noncomputable def wk (cs : Way) : List Nat := wayL (cs.map Nm.chr)
noncomputable def waS (cs : Way) : Str := wayS (cs.map Nm.chr)
theorem waS_cps (cs : Way) : (waS cs).cps.toList = wk cs := wayS_cps _
noncomputable def run (cs : Way) (st : W4) : W4 := cs.foldl (fun w n => turn n w) st
theorem run_snoc (cs : Way) (n : Nm) (st : W4) : run (cs ++ [n]) st = turn n (run cs st) := by simp [run, List.foldl_append]
theorem Nm.chr_inj {a b : Nm} (h : a.chr = b.chr) : a = b := by cases a <;> cases b <;> first | rfl | (simp [Nm.chr] at h)
theorem Nm.chr_ne (a : Nm) : a.chr ≠ 47 := by cases a <;> decide
theorem wk_inj : ∀ {a b : Way}, wk a = wk b → a = b := by
  have fm : ∀ a b : List Nat, (a.flatMap fun c => [47, c]) = (b.flatMap fun c => [47, c]) → a = b := by
    intro a
    induction a with
    | nil => intro b h; cases b with
      | nil => rfl
      | cons d b => simp at h
    | cons c a ih => intro b h; cases b with
      | nil => simp at h
      | cons d b =>
        simp only [List.flatMap_cons, List.cons_append, List.nil_append, List.cons.injEq, true_and] at h
        rw [h.1, ih b h.2]
  have mp : ∀ a b : Way, a.map Nm.chr = b.map Nm.chr → a = b := by
    intro a
    induction a with
    | nil => intro b h; cases b with
      | nil => rfl
      | cons d b => simp at h
    | cons c a ih => intro b h; cases b with
      | nil => simp at h
      | cons d b =>
        simp only [List.map_cons, List.cons.injEq] at h
        rw [Nm.chr_inj h.1, ih b h.2]
  intro a b h
  refine mp a b ?_
  unfold wk at h
  generalize a.map Nm.chr = x at h
  generalize b.map Nm.chr = y at h
  cases x with
  | nil => cases y with
    | nil => rfl
    | cons d y => simp [wayL] at h
  | cons c x => cases y with
    | nil => simp [wayL] at h
    | cons d y => exact fm _ _ h
theorem waS_inj {a b : Way} (h : waS a = waS b) : a = b := wk_inj (by rw [← waS_cps, ← waS_cps, h])
noncomputable def itm (e : Ent) : Item := (e.2.1, waS e.2.2, e.1.arr)
noncomputable def ELt (a b : Int × Way) : Prop := a.1 < b.1 ∨ a.1 = b.1 ∧ wk a.2 < wk b.2
theorem ELt.asym {a b : Int × Way} (h : ELt a b) : ¬ ELt b a := by
  rcases h with h | ⟨h, h'⟩
  · rintro (k | ⟨k, _⟩) <;> lia
  · rintro (k | ⟨_, k⟩)
    · lia
    · exact List.lt_asymm h' k
theorem ELt.ntr {a b c : Int × Way} (h1 : ¬ ELt a b) (h2 : ¬ ELt b c) : ¬ ELt a c := by
  unfold ELt at *
  simp only [not_or, not_and] at h1 h2
  rintro (k | ⟨k, k'⟩)
  · lia
  · have e1 : a.1 = b.1 := by lia
    have e2 : b.1 = c.1 := by lia
    have l1 := List.not_lt.mp (h1.2 e1)
    have l2 := List.not_lt.mp (h2.2 e2)
    exact List.not_lt.mpr (List.le_trans l2 l1) k'
open Classical in
theorem itemLt_itm {st : W4} {e f : Ent} (he : e.1 = run e.2.2 st) (hf : f.1 = run f.2.2 st) : itemLt (itm e) (itm f) = decide (ELt e.2 f.2) := by
  obtain ⟨w, p, cs⟩ := e
  obtain ⟨v, r, ds⟩ := f
  dsimp only at he hf
  unfold itemLt itm ELt
  dsimp only
  by_cases h1 : p = r
  · rw [if_pos h1]
    by_cases h2 : waS cs = waS ds
    · have := waS_inj h2
      subst this
      rw [if_pos rfl, he, hf, if_pos rfl]
      have : ¬ (p < r ∨ p = r ∧ wk cs < wk cs) := by
        rintro (k | ⟨_, k⟩)
        · lia
        · exact List.lt_irrefl _ k
      simp [this]
    · rw [if_neg h2, waS_cps, waS_cps]
      have : ¬ p < r := by lia
      simp [this, h1]
  · rw [if_neg h1]
    simp [h1]

noncomputable def Good (st : W4) (q : VI) : Prop := ∃ e : Ent, e.1 = run e.2.2 st ∧ q.2 = itm e
open Classical in
theorem vi_asym {st : W4} (a b : VI) (ha : Good st a) (hb : Good st b) (h : viLt a b = true) : viLt b a = false := by
  refine Exists.elim ha ?_
  clear ha
  intro e
  refine And.elim ?_
  intro he
  intro e1
  refine Exists.elim hb ?_
  clear hb
  intro f
  refine And.elim ?_
  intro hf
  intro f1
  unfold viLt at h ⊢
  rw [e1, f1] at h
  rw [f1, e1]
  rw [itemLt_itm he hf] at h
  rw [itemLt_itm hf he]
  exact decide_eq_false (ELt.asym (of_decide_eq_true h))
open Classical in
theorem vi_ntr {st : W4} (a b c : VI) (ha : Good st a) (hb : Good st b) (hc : Good st c) (h1 : viLt a b = false) (h2 : viLt b c = false) : viLt a c = false := by
  refine Exists.elim ha ?_
  clear ha
  intro e
  refine And.elim ?_
  intro he
  intro e1
  refine Exists.elim hb ?_
  clear hb
  intro f
  refine And.elim ?_
  intro hf
  intro f1
  refine Exists.elim hc ?_
  clear hc
  intro g
  refine And.elim ?_
  intro hg
  intro g1
  unfold viLt at h1 h2 ⊢
  rw [e1, f1] at h1
  rw [f1, g1] at h2
  rw [e1, g1]
  rw [itemLt_itm he hf] at h1
  rw [itemLt_itm hf hg] at h2
  rw [itemLt_itm he hg]
  exact decide_eq_false (ELt.ntr (of_decide_eq_false h1) (of_decide_eq_false h2))

/-! ### what holds between the turns of the settling loop -/
noncomputable def inK (S : List Ent) (w : W4) : Prop := ∃ e ∈ S, e.1 = w
noncomputable def Cov (c : Nm → Int) (S H : List Ent) (e : Ent) (n : Nm) : Prop :=
  (∃ f ∈ S, f.1 = turn n e.1 ∧ ¬ ELt (e.2.1 + c n, e.2.2 ++ [n]) f.2) ∨ (turn n e.1, e.2.1 + c n, e.2.2 ++ [n]) ∈ H
noncomputable def From (st : W4) (c : Nm → Int) (S : List Ent) (e : Ent) : Prop :=
  e = (st, 0, []) ∨ ∃ f ∈ S, ∃ n, e.1 = turn n f.1 ∧ e.2.1 = f.2.1 + c n ∧ e.2.2 = f.2.2 ++ [n]
structure DInv (st : W4) (c : Nm → Int) (S H : List Ent) (R : Ent → Nm → Prop) : Prop where
  nodup : (S.map (·.1)).Nodup
  runS : ∀ e ∈ S, e.1 = run e.2.2 st
  runH : ∀ e ∈ H, e.1 = run e.2.2 st
  mono : ∀ e ∈ S, ∀ h ∈ H, e.2.1 ≤ h.2.1
  dom : ∀ h ∈ H, ∀ e ∈ S, e.1 = h.1 → ¬ ELt h.2 e.2
  cov : ∀ e ∈ S, ∀ n, R e n ∨ Cov c S H e n
  start : (S = [] ∧ (st, 0, []) ∈ H ∧ ∀ h ∈ H, h = (st, 0, [])) ∨ (st, 0, []) ∈ S
  fromS : ∀ e ∈ S, From st c S e
  fromH : ∀ h ∈ H, From st c S h
  lenS : ∀ e ∈ S, e.2.2.length < S.length
  lenH : ∀ h ∈ H, h.2.2.length ≤ S.length
  posS : ∀ e ∈ S, 0 ≤ e.2.1
variable {st : W4} {c : Nm → Int} {S H H' : List Ent} {R : Ent → Nm → Prop} {top : Ent}
theorem DInv.init : DInv st c [] [(st, 0, [])] (fun _ _ => False) where
  nodup := .nil
  runS := fun _ h => nomatch h
  runH := fun e h => by rw [List.mem_singleton.mp h]; rfl
  mono := fun _ h => nomatch h
  dom := fun _ _ _ h => nomatch h
  cov := fun _ h => nomatch h
  start := .inl ⟨rfl, .head _, fun h hh => List.mem_singleton.mp hh⟩
  fromS := fun _ h => nomatch h
  fromH := fun e h => .inl (List.mem_singleton.mp h)
  lenS := fun _ h => nomatch h
  lenH := fun e h => by rw [List.mem_singleton.mp h]; exact Nat.zero_le _
  posS := fun _ h => nomatch h
/-- the least comes off the heap; its word is settled already -/
theorem DInv.skip (D : DInv st c S H (fun _ _ => False)) (hs : ∀ h ∈ H', h ∈ H) (hs2 : ∀ h ∈ H, h = top ∨ h ∈ H') (ht : top ∈ H) (hin : inK S top.1) : DInv st c S H' (fun _ _ => False) where
  nodup := D.nodup
  runS := D.runS
  runH := fun e h => D.runH e (hs e h)
  mono := fun e he h hh => D.mono e he h (hs h hh)
  dom := fun h hh => D.dom h (hs h hh)
  cov := fun e he n => by
    rcases D.cov e he n with h | h | h
    · exact h.elim
    · exact .inr (.inl h)
    · rcases hs2 _ h with h | h
      · refine Exists.elim hin ?_
        clear hin
        intro f
        refine And.elim ?_
        intro hf
        intro e1
        refine .inr (.inl ⟨f, hf, by rw [e1, ← h], ?_⟩)
        have := D.dom top ht f hf e1
        rw [← h] at this
        exact this
      · exact .inr (.inr h)
  start := by
    rcases D.start with ⟨h, _⟩ | h
    · subst h; obtain ⟨f, hf, _⟩ := hin; nomatch hf
    · exact .inr h
  fromS := D.fromS
  fromH := fun h hh => D.fromH h (hs h hh)
  lenS := D.lenS
  lenH := fun h hh => D.lenH h (hs h hh)
  posS := D.posS
theorem From.mono {S S' : List Ent} {e : Ent} (h : From st c S e) (hs : ∀ f ∈ S, f ∈ S') : From st c S' e := by
  rcases h with h | ⟨f, hf, r⟩
  · exact .inl h
  · exact .inr ⟨f, hs f hf, r⟩
/-- the least comes off the heap and is settled -/
theorem DInv.settle (hc : ∀ n, 1 ≤ c n) (D : DInv st c S H (fun _ _ => False)) (hs : ∀ h ∈ H', h ∈ H) (hs2 : ∀ h ∈ H, h = top ∨ h ∈ H') (ht : top ∈ H) (hmin : ∀ h ∈ H, ¬ ELt h.2 top.2) (hin : ¬ inK S top.1) :
    DInv st c (S ++ [top]) H' (fun e _ => e = top) ∧ (∀ e ∈ S ++ [top], e.2.1 ≤ top.2.1) where
  left := {
    nodup := by
      rw [List.map_append, List.nodup_append]
      refine ⟨D.nodup, by simp, fun a ha b hb => ?_⟩
      refine Exists.elim (List.mem_map.mp ha) ?_
      intro e
      refine And.elim ?_
      intro he
      intro hR1
      subst hR1
      simp only [List.map_cons, List.map_nil, List.mem_singleton] at hb
      subst hb
      exact fun h => hin ⟨e, he, h⟩
    runS := fun e he => by
      rcases List.mem_append.mp he with he | he
      · exact D.runS e he
      · rw [List.mem_singleton.mp he]; exact D.runH top ht
    runH := fun e h => D.runH e (hs e h)
    mono := fun e he h hh => by
      rcases List.mem_append.mp he with he | he
      · exact D.mono e he h (hs h hh)
      · rw [List.mem_singleton.mp he]
        have := hmin h (hs h hh)
        unfold ELt at this
        lia
    dom := fun h hh e he e1 => by
      rcases List.mem_append.mp he with he | he
      · exact D.dom h (hs h hh) e he e1
      · rw [List.mem_singleton.mp he]; exact hmin h (hs h hh)
    cov := fun e he n => by
      rcases List.mem_append.mp he with he | he
      · rcases D.cov e he n with h | ⟨f, hf, r⟩ | h
        · exact h.elim
        · exact .inr (.inl ⟨f, List.mem_append_left _ hf, r⟩)
        · rcases hs2 _ h with h | h
          · refine .inr (.inl ⟨top, by simp, by rw [← h], ?_⟩)
            rw [← h]
            exact fun k => ELt.asym k k
          · exact .inr (.inr h)
      · exact .inl (List.mem_singleton.mp he)
    start := by
      rcases D.start with ⟨h, _, k⟩ | h
      · rw [k top ht]; exact .inr (by simp)
      · exact .inr (List.mem_append_left _ h)
    fromS := fun e he => by
      rcases List.mem_append.mp he with he | he
      · exact (D.fromS e he).mono fun f hf => List.mem_append_left _ hf
      · rw [List.mem_singleton.mp he]; exact (D.fromH top ht).mono fun f hf => List.mem_append_left _ hf
    fromH := fun h hh => (D.fromH h (hs h hh)).mono fun f hf => List.mem_append_left _ hf
    lenS := fun e he => by
      rw [List.length_append, List.length_singleton]
      rcases List.mem_append.mp he with he | he
      · have := D.lenS e he; lia
      · rw [List.mem_singleton.mp he]; have := D.lenH top ht; lia
    lenH := fun h hh => by
      rw [List.length_append]; have := D.lenH h (hs h hh); lia
    posS := fun e he => by
      rcases List.mem_append.mp he with he | he
      · exact D.posS e he
      · rw [List.mem_singleton.mp he]
        rcases D.fromH top ht with h | ⟨f, hf, n, _, h, _⟩
        · rw [h]; exact Int.le_refl _
        · have := D.posS f hf; have := hc n; lia }
  right := fun e he => by
    rcases List.mem_append.mp he with he | he
    · exact D.mono e he top ht
    · rw [List.mem_singleton.mp he]; exact Int.le_refl _
/-- a word that was not settled is pushed -/
theorem DInv.push (hc : ∀ n, 1 ≤ c n) {n : Nm} (D : DInv st c S H R) (ht : top ∈ S) (hle : ∀ e ∈ S, e.2.1 ≤ top.2.1) (hin : ¬ inK S (turn n top.1)) :
    DInv st c S ((turn n top.1, top.2.1 + c n, top.2.2 ++ [n]) :: H) (fun e k => R e k ∧ ¬ (e = top ∧ k = n)) where
  nodup := D.nodup
  runS := D.runS
  runH := fun e he => by
    rcases List.mem_cons.mp he with rfl | he
    · dsimp only; rw [run_snoc, ← D.runS top ht]
    · exact D.runH e he
  mono := fun e he h hh => by
    rcases List.mem_cons.mp hh with rfl | hh
    · have := hle e he; have := hc n; dsimp only; lia
    · exact D.mono e he h hh
  dom := fun h hh e he e1 => by
    rcases List.mem_cons.mp hh with rfl | hh
    · exact absurd ⟨e, he, e1⟩ hin
    · exact D.dom h hh e he e1
  cov := fun e he k => by
    by_cases h0 : e = top ∧ k = n
    · obtain ⟨rfl, rfl⟩ := h0
      exact .inr (.inr (.head _))
    · rcases D.cov e he k with h | h | h
      · exact .inl ⟨h, h0⟩
      · exact .inr (.inl h)
      · exact .inr (.inr (.tail _ h))
  start := by
    rcases D.start with ⟨h, _⟩ | h
    · subst h; nomatch ht
    · exact .inr h
  fromS := D.fromS
  fromH := fun h hh => by
    rcases List.mem_cons.mp hh with rfl | hh
    · exact .inr ⟨top, ht, n, rfl, rfl, rfl⟩
    · exact D.fromH h hh
  lenS := D.lenS
  lenH := fun h hh => by
    rcases List.mem_cons.mp hh with rfl | hh
    · have := D.lenS top ht; simp; lia
    · exact D.lenH h hh
  posS := D.posS
theorem DInv.over (hc : ∀ n, 1 ≤ c n) {n : Nm} (D : DInv st c S H R) (_ht : top ∈ S) (hle : ∀ e ∈ S, e.2.1 ≤ top.2.1) (hin : inK S (turn n top.1)) :
    DInv st c S H (fun e k => R e k ∧ ¬ (e = top ∧ k = n)) := { D with
  cov := fun e he k => by
    by_cases h0 : e = top ∧ k = n
    · obtain ⟨rfl, rfl⟩ := h0
      refine Exists.elim hin ?_
      clear hin
      intro f
      refine And.elim ?_
      intro hf
      intro e1
      refine .inr (.inl ⟨f, hf, e1, ?_⟩)
      have := hle f hf; have := hc k
      rintro (k1 | ⟨k1, _⟩) <;> dsimp only at k1 <;> lia
    · rcases D.cov e he k with h | h
      · exact .inl ⟨h, h0⟩
      · exact .inr h }
theorem DInv.weak {R' : Ent → Nm → Prop} (D : DInv st c S H R) (h : ∀ e k, R e k → R' e k) : DInv st c S H R' := { D with
  cov := fun e he k => (D.cov e he k).imp (h e k) id }
theorem DInv.perm (D : DInv st c S H R) (h : ∀ e, e ∈ H' ↔ e ∈ H) : DInv st c S H' R := { D with
  runH := fun e he => D.runH e ((h e).mp he)
  mono := fun e he k hk => D.mono e he k ((h k).mp hk)
  dom := fun k hk => D.dom k ((h k).mp hk)
  cov := fun e he n => (D.cov e he n).imp id fun x => x.imp id fun y => (h _).mpr y
  start := D.start.imp (fun x => ⟨x.1, (h _).mpr x.2.1, fun k hk => x.2.2 k ((h k).mp hk)⟩) id
  fromH := fun k hk => D.fromH k ((h k).mp hk)
  lenH := fun k hk => D.lenH k ((h k).mp hk) }
/-- the words are among the orders of the first one -/
noncomputable def pk (s : W4) : Nat → UInt8
  | 0 => s.a | 1 => s.b | 2 => s.c | _ => s.d
noncomputable def ap (s : W4) (p : Nat × Nat × Nat × Nat) : W4 := ⟨pk s p.1, pk s p.2.1, pk s p.2.2.1, pk s p.2.2.2⟩
noncomputable def tp : Nm → Nat × Nat × Nat × Nat → Nat × Nat × Nat × Nat
  | .n2, (a, b, c, d) => (b, a, c, d)
  | .n3, (a, b, c, d) => (c, b, a, d)
  | .nx, (a, b, c, d) => (b, a, d, c)
noncomputable def ords : List (Nat × Nat × Nat × Nat) := [0, 1, 2, 3].flatMap fun a => ([0, 1, 2, 3].filter (· != a)).flatMap fun b => ([0, 1, 2, 3].filter fun c => c != a && c != b).flatMap fun c => ([0, 1, 2, 3].filter fun d => d != a && d != b && d != c).map fun d => (a, b, c, d)
noncomputable def univ (s : W4) : List W4 := ords.map (ap s)
theorem univ_len (s : W4) : (univ s).length = 24 := by rw [univ, List.length_map]; decide
theorem univ_start (s : W4) : s ∈ univ s := List.mem_map.mpr ⟨(0, 1, 2, 3), by decide, rfl⟩
theorem ords_turn : ∀ n, ∀ p ∈ ords, tp n p ∈ ords := fun n => by cases n <;> decide +kernel
theorem univ_turn {s w : W4} (n : Nm) (h : w ∈ univ s) : turn n w ∈ univ s := by
  refine Exists.elim (List.mem_map.mp h) ?_
  intro p
  refine And.elim ?_
  intro hp
  intro hR2
  subst hR2
  exact List.mem_map.mpr ⟨tp n p, ords_turn n p hp, by cases n <;> rfl⟩
theorem univ_run {s : W4} (cs : Way) : run cs s ∈ univ s := by
  have : ∀ (cs : Way) (w : W4), w ∈ univ s → run cs w ∈ univ s := by
    intro cs
    induction cs with
    | nil => exact fun w h => h
    | cons n cs ih => exact fun w h => ih _ (univ_turn n h)
  exact this cs s (univ_start s)
theorem DInv.size (D : DInv st c S H R) : S.length ≤ 24 := by
  have : (S.map (·.1)).length ≤ (univ st).length := List.Nodup.length_le_of_subset D.nodup fun w hw => by
    refine Exists.elim (List.mem_map.mp hw) ?_
    intro e
    refine And.elim ?_
    intro he
    intro hR3
    subst hR3
    rw [D.runS e he]
    exact univ_run _
  rwa [univ_len, List.length_map] at this
end Mine
end
/-! part B6 -/
section
open PySem PySem.W PyProof.Rows HeadC
namespace Mine
/-! ### min and max of a list of strs -/
theorem argBest_ord {bt : Nat → Nat → Bool} (asym : ∀ a b, bt a b = true → bt b a = false) (ntr : ∀ a b c, bt a b = false → bt b c = false → bt a c = false) :
    ∀ k, argBest bt k ≤ k ∧ ∀ j, j ≤ k → bt j (argBest bt k) = false
  | 0 => ⟨Nat.le_refl _, fun j hj => by
      obtain rfl : j = 0 := by lia
      cases h : bt 0 (argBest bt 0) with
      | false => rfl
      | true => exact absurd (asym _ _ h) (by rw [show bt (argBest bt 0) 0 = true from h]; simp)⟩
  | k + 1 => by
    obtain ⟨h1, h2⟩ := argBest_ord asym ntr k
    have irr : ∀ a, bt a a = false := fun a => by
      cases h : bt a a with
      | false => rfl
      | true => exact absurd (asym _ _ h) (by rw [h]; simp)
    unfold argBest
    cases h : bt (k + 1) (argBest bt k) with
    | true =>
      rw [if_pos rfl]
      refine ⟨Nat.le_refl _, fun j hj => ?_⟩
      rcases Nat.eq_or_lt_of_le hj with rfl | hj
      · exact irr _
      · exact ntr _ _ _ (h2 j (by lia)) (asym _ _ h)
    | false =>
      rw [if_neg (by simp)]
      refine ⟨by lia, fun j hj => ?_⟩
      rcases Nat.eq_or_lt_of_le hj with rfl | hj
      · exact h
      · exact h2 j (by lia)
section
variable {prog : Program} {w : World} {A : Around} {E : Value → Shared → Prop} {s : Shared} {h₀ : Heap} {L l : Addr} {m : Str → Option Value} {news : List (Addr × Obj)} {vs : List Value} {xs : List Str} {n : Nat}
noncomputable def strGet (xs : List Str) (i : Nat) : List Nat := (xs.getD i "").cps.toList
theorem iter_anyList {items : Array Value} {Q : Value → Shared → Prop} (hl : s.heap.IsList l items)
    (h : ∀ s₂ : Shared, s₂ = { s with heap := s.heap.push { cls := .type "list_iterator", data := .fields #[.ref l, .int 0 0] } } →
      (s₂.heap.IsListIter s.heap.objs.size l 0 ∧ s₂.heap.IsList l items) → (∀ b ∈ [s.heap.objs.size, l], b < s₂.heap.objs.size) → l ≠ s.heap.objs.size → Q (.ref s.heap.objs.size) s₂) :
    wpAny (model prog w) A (pyIter (.ref l)) Q E s := by
  have hlt : l < s.heap.objs.size := by obtain ⟨_, e, _⟩ := hl; exact Heap.lt_size e
  refine wpAny_pyIter_list hl (h _ rfl ⟨⟨_, Heap.get?_push_size _ rfl, rfl, rfl⟩, hl.push _⟩ (fun b hb => ?_) (Nat.ne_of_lt hlt))
  show b < (s.heap.push _).objs.size
  rw [Heap.size_push]
  rcases List.mem_cons.mp hb with rfl | hb
  · exact Nat.lt_succ_self _
  · rcases List.mem_cons.mp hb with rfl | hb
    · exact Nat.lt_succ_of_lt hlt
    · cases hb
theorem strGet_at (hS : StrsAre vs xs) {i : Nat} {v : Value} (h : vs.toArray[i]? = some v) : ∃ t x, v = .str x t ∧ xs[i]? = some x ∧ strGet xs i = x.cps.toList := by
  refine Mine.E2 ?_ (hS.item i v (by simpa using h))
  intro y t
  refine And.elim ?_
  intro e
  intro hy
  exact Mine.I2 t y ⟨e, hy, by unfold strGet; rw [List.getD_eq_getElem?_getD, hy]; rfl⟩
theorem nlt_trans {a b c : List Nat} (h1 : ¬ a < b) (h2 : ¬ b < c) : ¬ a < c := List.not_lt.mpr (List.le_trans (List.not_lt.mp h2) (List.not_lt.mp h1))
theorem min_strs {Q : Value → Shared → Prop} (hh : A.handled = none) (F : Fr h₀ L s.heap m) (N : News h₀ L s.heap news) (hl : (l, listOf vs.toArray n) ∈ news) (hS : StrsAre vs xs) (hne : xs ≠ [])
    (h : ∀ h' x (t : Tok) tk, Fr h₀ L h' m → News h₀ L h' news → x ∈ xs → (∀ y ∈ xs, ¬ y.cps.toList < x.cps.toList) → Q (.str x t) { s with heap := h', toks := tk }) :
    wpAny (model prog w) A (call (.builtin "min") [.ref l]) Q E s := by
  have hlen : vs.length = xs.length := hS.length
  have hpos : 0 < xs.length := List.length_pos_iff.mpr hne
  refine call_min_walk (iter_anyList (N.isList hl) fun s₂ e st hfp hlI => ?_)
  subst e
  refine Mine.I6 _ _ _ _ _ _ ⟨fun i j => decide (strGet xs i < strGet xs j), ⟨rfl, Walks.list (A := A.in1) hh _ l hlI vs.toArray, st, hfp, (by rw [List.size_toArray]; lia), ?_, fun v h' tk hP hk => ?_⟩⟩
  · intro i j vi vj s Q E hi hj hQ
    refine Mine.E2 ?_ (strGet_at hS hi)
    intro t x
    refine Mine.A3 ?_
    intro hR1
    subst hR1
    intro _
    intro ex
    refine Mine.E2 ?_ (strGet_at hS hj)
    intro u y
    refine Mine.A3 ?_
    intro hR2
    subst hR2
    intro _
    intro ey
    dsimp only at hQ
    rw [ex, ey] at hQ
    exact lt_str hQ
  · refine Mine.E2 ?_ (strGet_at hS hP)
    intro t x
    refine Mine.A3 ?_
    intro hR3
    subst hR3
    intro hx
    intro ex
    have hb := (argBest_ord (bt := fun i j => decide (strGet xs i < strGet xs j)) (fun a b h => decide_eq_false (List.lt_asymm (of_decide_eq_true h))) (fun a b c h1 h2 => decide_eq_false (nlt_trans (of_decide_eq_false h1) (of_decide_eq_false h2))) (vs.toArray.size - 1)).2
    refine h _ x t tk (F.grownK (old_kept hk)) (N.grown (old_kept hk)) (List.mem_of_getElem? hx) fun y hy => ?_
    obtain ⟨j, hj⟩ := List.mem_iff_getElem?.mp hy
    have hj2 := (List.getElem?_eq_some_iff.mp hj).1
    have := of_decide_eq_false (hb j (by rw [List.size_toArray]; lia))
    rw [ex] at this
    have e2 : strGet xs j = y.cps.toList := by unfold strGet; rw [List.getD_eq_getElem?_getD, hj]; rfl
    rw [e2] at this
    exact this
end
end Mine
end
/-! part G1 -/
section
open PySem PySem.W PyProof.Rows HeadC
open PySem.SeqAt MeetsSeq MeetsSeq2 MeetsSeq3
open AutoSeq1 (wpAny_loadPart')
set_option maxRecDepth 100000
namespace Mine
/-! ### lists of names: <, >, min, max -/
noncomputable def nmLt : Way → Way → Bool
  | _, [] => false
  | [], _ :: _ => true
  | a :: as, b :: bs => if a = b then nmLt as bs else decide (a.chr < b.chr)
noncomputable def IsNames (h : Heap) (D : Addr) (c : Way) : Prop := ∃ vs n, h.get? D = some (listOf vs.toArray n) ∧ StrsAre vs (c.map Nm.txt)
theorem txt_inj {a b : Nm} (h : a.txt = b.txt) : a = b := by cases a <;> cases b <;> first | rfl | exact absurd h (by decide)
theorem txt_lt (a b : Nm) : (decide (a.txt.cps.toList < b.txt.cps.toList)) = decide (a.chr < b.chr) := by cases a <;> cases b <;> decide +kernel
theorem names_at {vs : List Value} {c : Way} (h : StrsAre vs (c.map Nm.txt)) {i : Nat} (hi : i < c.length) : ∃ t, vs.toArray[i]? = some (.str (c[i].txt) t) := by
  have hl : vs.length = c.length := by rw [h.length]; simp
  try ((fail_if_success (with_reducible show Gz)); with_reducible (first | (refine letW ?_; intro Gz) | (refine letWC ?_; intro Gz)))
  obtain ⟨v, hv⟩ : ∃ v, vs[i]? = some v := ⟨_, List.getElem?_eq_getElem (by lia)⟩
  try ((fail_if_success (with_reducible show Gz)); with_reducible (first | (refine letW ?_; intro Gz) | (refine letWC ?_; intro Gz)))
  refine Mine.E2 ?_ (h.item i v hv)
  intro y t
  refine And.elim ?_
  intro hR1
  subst hR1
  intro hy
  rw [List.getElem?_map, List.getElem?_eq_getElem hi] at hy
  cases hy
  exact ⟨t, by simpa using hv⟩
set_option maxHeartbeats 4000000 in
theorem lt_loop (l b : Addr) (ca cb : Way) (va vb : List Value) (na nb : Nat) (ha : StrsAre va (ca.map Nm.txt)) (hb' : StrsAre vb (cb.map Nm.txt)) (k : Nat) :
    ∀ i : Nat, ca.length - i = k → i ≤ ca.length → i ≤ cb.length → Meets (Builtin.«list.__eq__.loop» ⟨[.ref l, .ref b, rawInt i, rawInt 0], []⟩)
      (fun _ R s => s.heap.get? l = some (listOf va.toArray na) ∧ s.heap.get? b = some (listOf vb.toArray nb) ∧ R (.ok (.ret (.bool (nmLt (ca.drop i) (cb.drop i))))) s) := by
  have la : va.length = ca.length := by rw [ha.length]; simp
  have lb : vb.length = cb.length := by rw [hb'.length]; simp
  induction k with
  | zero =>
    intro i hk hi hj prog w A R s h
    try ((fail_if_success (with_reducible show Gz)); with_reducible (first | (refine letW ?_; intro Gz) | (refine letWC ?_; intro Gz)))
    obtain ⟨hp, g, d, tk, os⟩ := s; obtain ⟨hl, hb, h⟩ := h
    wp_walk using wpAny_loadPart' hl, wpAny_loadPart' hb
    have hi1 : va.toArray[((i : Nat) : Int).toNat]? = none := by simp; lia
    rw [hi1]
    wp_walk using wpAny_loadPart' hl, wpAny_loadPart' hb
    have e : nmLt (ca.drop i) (cb.drop i) = decide (va.toArray.size < vb.toArray.size) := by
      rw [List.drop_of_length_le (by lia)]
      rcases Nat.lt_or_ge i cb.length with h1 | h1
      · rw [List.drop_eq_getElem_cons h1]; simp [nmLt]; lia
      · rw [List.drop_of_length_le (by lia)]; simp [nmLt]; lia
    rw [e] at h
    exact h
  | succ k ih =>
    intro i hk hi hj prog w A R s h
    try ((fail_if_success (with_reducible show Gz)); with_reducible (first | (refine letW ?_; intro Gz) | (refine letWC ?_; intro Gz)))
    obtain ⟨hp, g, d, tk, os⟩ := s; obtain ⟨hl, hb, h⟩ := h
    wp_walk using wpAny_loadPart' hl, wpAny_loadPart' hb
    have hlt : i < ca.length := by lia
    obtain ⟨t1, h1⟩ := names_at ha hlt
    have hi1 : va.toArray[((i : Nat) : Int).toNat]? = some (.str (ca[i].txt) t1) := by simpa using h1
    rw [hi1]
    rcases Nat.lt_or_ge i cb.length with hlt2 | hge
    · skip
      obtain ⟨t2, h2⟩ := names_at hb' hlt2
      have hi2 : vb.toArray[((i : Nat) : Int).toNat]? = some (.str (cb[i].txt) t2) := by simpa using h2
      rw [hi2]
      refine wpAny_bind (wpAny_eqBool_str ?_)
      have hc : ((i : Int) + 1) = ((i + 1 : Nat) : Int) := by push_cast; rfl
      rw [List.drop_eq_getElem_cons hlt, List.drop_eq_getElem_cons hlt2] at h
      by_cases he : ca[i] = cb[i]
      · have h' : R (.ok (.ret (.bool (nmLt (ca.drop (i + 1)) (cb.drop (i + 1)))))) ⟨hp, g, d, tk, os⟩ := by
          rw [show nmLt (ca[i] :: ca.drop (i + 1)) (cb[i] :: cb.drop (i + 1)) = nmLt (ca.drop (i + 1)) (cb.drop (i + 1)) by rw [nmLt, if_pos he]] at h; exact h
        rw [show decide (ca[i].txt = cb[i].txt) = true by rw [he]; simp]
        wp_walk
        rw [hc]
        exact ⟨plainId_quiet plain_eq_loop _, codeAny_builtin entry_eq_loop (by
          rw [Around.under_plainId plain_eq_loop _]
          exact ih (i + 1) (by lia) (by lia) (by lia) prog w A R _ ⟨hl, hb, h'⟩)⟩
      · have h' : R (.ok (.ret (.bool (decide (ca[i].txt.cps.toList < cb[i].txt.cps.toList))))) ⟨hp, g, d, tk, os⟩ := by
          rw [show nmLt (ca[i] :: ca.drop (i + 1)) (cb[i] :: cb.drop (i + 1)) = decide (ca[i].chr < cb[i].chr) by rw [nmLt, if_neg he]] at h; rw [txt_lt]; exact h
        rw [show decide (ca[i].txt = cb[i].txt) = false by simp; exact fun h => he (txt_inj h)]
        wp_walk using wpAny_loadPart' hl, wpAny_loadPart' hb
        rw [hi1, hi2]
        show wpAny _ A.in1 (compareOp .Lt (.str ca[i].txt t1) (.str cb[i].txt t2) >>= fun v => ret v) _ _ _
        exact wpAny_bind (PyProof.Rows.lt_str (wpAny_pure h'))
    · have hi2 : vb.toArray[((i : Nat) : Int).toNat]? = none := by simp; lia
      rw [hi2]
      wp_walk using wpAny_loadPart' hl, wpAny_loadPart' hb
      have e : nmLt (ca.drop i) (cb.drop i) = decide (va.toArray.size < vb.toArray.size) := by
        rw [List.drop_of_length_le (l := cb) (by lia)]
        have : nmLt (ca.drop i) [] = false := by cases ca.drop i <;> rfl
        rw [this]; simp; lia
      rw [e] at h
      exact h
end Mine
end
/-! part Q1 -/
section
example : True := by w_top off; trivial
open PySem PySem.W PyProof.Rows HeadC
set_option maxRecDepth 100000
namespace Mine
/-! ### more sources for loops; comprehensions over any source -/
section
variable {prog : Program} {w : World} {A : Around} {E : Value → Shared → Prop} {s : Shared} {h₀ : Heap} {L : Addr} {m : Str → Option Value} {news : List (Addr × Obj)}
theorem str_at {value slice : PySem.Expr} {x : Str} {t u : Tok} {i : Int} {r : Str} {Q : Value → Shared → Prop} (hi : Txt.item x i = r) (hr : fitsSsize i = true) (hin : (Txt.charAt x i).isSome = true)
    (h : Q (.str r s.toks) { s with toks := s.toks + 1 })
    (hs : subscripted slice false (.str x t) (.int i u) = operate [.str x t, .int i u] (getItem (.str x t) (.int i u)) := by with_unfolding_all rfl) (ht : ∀ r, letTemporaryGo value (.str x t) r = pure () := by intro _; with_unfolding_all rfl) :
    wpAny (model prog w) A (subscriptTail value slice (.str x t) (.int i u)) Q E s := by
  subst hi
  exact tail_of_ItemOn (SB.item hr hin h) hs ht
theorem src_bytes {b : Array UInt8} {t : Tok} {n : Nat} (hn : b.size = n) (hh : A.handled = none) (F : Fr h₀ L s.heap m) (N : News h₀ L s.heap news) :
    wpAny (model prog w) A (pyIter (.bytes b t)) (LoopSrc prog w A h₀ L m news [] n (fun i v => ∃ c u, b[i]? = some c ∧ v = .int (c.toNat : Int) u) s) E s := by
  subst hn
  refine KBw.pyIter_bytes ?_
  refine Mine.I4 _ _ _ s.toks ⟨rfl, rfl, KBw.walks hh _ b t, ⟨_, Heap.get?_push_size _ rfl, rfl, rfl⟩, F.push _, (fun p hp => ⟨Heap.get?_push_of_some _ (N p hp).1, (N p hp).2⟩), (fun _ h => nomatch h), Nat.ne_of_gt F.ns.lt, next_is_new F, (fun p hp => Heap.lt_size (N p hp).1), (fun _ h => nomatch h), ?_⟩
  rintro i h hz2
  try ((fail_if_success (with_reducible show Gz)); with_reducible (first | (refine letW ?_; intro Gz) | (refine letWC ?_; intro Gz)))
  refine Exists.elim hz2 ?_
  clear hz2
  intro o
  refine And.elim ?_
  intro ho
  intro _
  try ((fail_if_success (with_reducible show wpAny _ _ _ Qz _ _)); with_reducible (first | (refine letQ ?_; intro Qz) | (refine letQC ?_; intro Qz)))
  try ((fail_if_success (with_reducible show wpAny _ _ _ _ _ Sz)); with_reducible (first | (refine letS ?_; intro Sz) | (refine letSC ?_; intro Sz)))
  exact ⟨o, ho⟩
theorem src_dict {d : Addr} {o : Obj} {kvs : List (Str × Value)} (hh : A.handled = none) (F : Fr h₀ L s.heap m) (N : News h₀ L s.heap news) (hm : (d, o) ∈ news) (hd : o.IsDictOf (PySem.strKind prog w) kvs) (lo : (d == sysModules) = false) :
    wpAny (model prog w) A (pyIter (.ref d)) (LoopSrc prog w A h₀ L m news [(d, o)] kvs.length (fun i v => ∃ k x t, kvs[i]? = some (k, x) ∧ v = .str k t) s) E s := by
  try ((fail_if_success (with_reducible show Gz)); with_reducible (first | (refine letW ?_; intro Gz) | (refine letWC ?_; intro Gz)))
  obtain ⟨ep, ha⟩ := KdkAt.of hd
  have hat := ha.dictAt (N _ hm).1
  have hne : d ≠ s.heap.objs.size := Nat.ne_of_lt (Heap.lt_size (N _ hm).1)
  refine wpAny_pyIter_dict lo hat ?_
  have W := (Walks.dictKeys (knd := PySem.strKind prog w) hh s.heap.objs.size d hne kvs ep).weaken (P' := fun i v => ∃ k x t, kvs[i]? = some (k, x) ∧ v = .str k t) (fun i v ⟨k, x, h1, h2⟩ => by
    try ((fail_if_success (with_reducible show Gz)); with_reducible (first | (refine letW ?_; intro Gz) | (refine letWC ?_; intro Gz)))
    obtain ⟨t, e⟩ := PySem.Value.isStrOf_shape h2
    exact Mine.I3 k x t ⟨h1, e⟩)
  refine Mine.I4 _ _ _ s.toks ⟨rfl, rfl, W, ⟨⟨_, Heap.get?_push_size _ rfl, rfl, rfl⟩, hat.at' fun o e => Heap.get?_push_of_some _ e⟩, F.push _, (fun p hp => ⟨Heap.get?_push_of_some _ (N p hp).1, (N p hp).2⟩), ?_, Nat.ne_of_gt F.ns.lt, next_is_new F, (fun p hp => Heap.lt_size (N p hp).1), ?_, ?_⟩
  · intro p hp
    rw [List.mem_singleton.mp hp]
    exact Heap.get?_push_of_some _ (N _ hm).1
  · intro p hp
    rw [List.mem_singleton.mp hp]
    exact hne
  · rintro i h hz2
    try ((fail_if_success (with_reducible show Gz)); with_reducible (first | (refine letW ?_; intro Gz) | (refine letWC ?_; intro Gz)))
    obtain ⟨⟨o, ho, _⟩, _⟩ := hz2
    try ((fail_if_success (with_reducible show wpAny _ _ _ Qz _ _)); with_reducible (first | (refine letQ ?_; intro Qz) | (refine letQC ?_; intro Qz)))
    try ((fail_if_success (with_reducible show wpAny _ _ _ _ _ Sz)); with_reducible (first | (refine letS ?_; intro Sz) | (refine letSC ?_; intro Sz)))
    exact ⟨o, ho⟩
/-- the objects fx stand -/
noncomputable def FxIn (h₀ : Heap) (fx nw : List (Addr × Obj)) : Prop := ∀ p ∈ fx, h₀.get? p.1 = some p.2 ∨ p ∈ nw
theorem walks_fx {I : Addr} {fx : List (Addr × Obj)} {n : Nat} {P : Nat → Value → Prop} {St : Nat → Heap → Prop} (W : Walks prog w A I (I :: fx.map (·.1)) [I] n P St) (hne : ∀ p ∈ fx, p.1 ≠ I) :
    Walks prog w A I (I :: fx.map (·.1)) [I] n P (fun i h => St i h ∧ ∀ p ∈ fx, h.get? p.1 = some p.2) where
  sub := W.sub
  frame := fun i h h' st hk => ⟨W.frame i h h' st.1 hk, fun p hp => hk _ (.tail _ (List.mem_map_of_mem hp)) _ (st.2 p hp)⟩
  item := fun i s Q E hi st hQ => W.item i s Q E hi st.1 fun v h' tk hP hst hk => hQ v h' tk hP ⟨hst, fun p hp => hk _ _ (by simpa using hne p hp) (st.2 p hp)⟩ hk
  done := fun s Q E st hQ => W.done s Q E st.1 hQ
  self := fun i s Q E st h => W.self i s Q E st.1 h
end
section
variable {prog : Program} {w : World} {A : Around} {E : Value → Shared → Prop} {s : Shared} {h₀ : Heap} {L : Addr} {m : Str → Option Value} {env : Env}
/-- what a comprehension's source hands on -/
noncomputable def CSrc (prog : Program) (w : World) (A : Around) (h₀ : Heap) (L : Addr) (m : Str → Option Value) (R : Shared → List (Addr × Obj) → List (Addr × Obj) → Nat → (Nat → Value → Prop) → Prop) (xv : Value) (s₁ : Shared) : Prop :=
  ∃ news fx n P, News h₀ L s₁.heap news ∧ wpAny (model prog w) A (pyIter xv) (LoopSrc prog w A h₀ L m news fx n P s₁) (fun _ _ => False) s₁ ∧ FxIn h₀ fx news ∧ n ≤ sizeLine ∧ ∀ g tk, R { s₁ with heap := g, toks := tk } news fx n P
theorem CSrc.intro {R : Shared → List (Addr × Obj) → List (Addr × Obj) → Nat → (Nat → Value → Prop) → Prop} {xv : Value} {s₁ : Shared} {news fx : List (Addr × Obj)} {n : Nat} {P : Nat → Value → Prop} (N : News h₀ L s₁.heap news)
    (src : wpAny (model prog w) A (pyIter xv) (LoopSrc prog w A h₀ L m news fx n P s₁) (fun _ _ => False) s₁) (hfx : FxIn h₀ fx news) (hn : n ≤ sizeLine) (h : ∀ g tk, R { s₁ with heap := g, toks := tk } news fx n P) : CSrc prog w A h₀ L m R xv s₁ :=
  Mine.I4 news fx n P ⟨N, src, hfx, hn, h⟩
theorem comp_src {elt iter : Expr} {x : Str} {px : Pos} {scope : Scope} {cl : List (Str × Addr)} {pos : Pos} {Q : Value → Shared → Prop} (_F₀ : Fr h₀ L s.heap m)
    (hclos : closureFor scope env = pure cl) (hcell : ∀ y ∈ scope.names, y.2 ≠ .cell) (hkind : scope.kind = .function)
    (hnames : ∀ y ∈ scope.names, y.2 = .local → scope.names.lookup y.1 = some .local) (hx : scope.names.lookup x = some .local)
    (h : wpAny (model prog w) A (eval iter env) (CSrc prog w A h₀ L m (fun s₂ news fx n P => LCg.CompRest prog w A h₀ L m env elt x scope cl s₂ (FxIn h₀ fx) P (LCg.FinE h₀ L m s₂ Q) n 0 [] news)) E s)
    (hs : ∀ x, foldedSetIterable iter env x = pure x := by intro _; rfl) :
    wpAny (model prog w) A (eval (.ListComp elt [⟨.Name x px, iter, [], 0⟩] scope pos) env) Q E s := by
  rw [eval_ListComp]
  refine wpAny_comprehension_free (use := none) rfl hs hclos hkind hnames (wpAny_mono h (fun xv s₁ h₁ => ?_) fun _ _ e => e)
  try ((fail_if_success (with_reducible show Gz)); with_reducible (first | (refine letW ?_; intro Gz) | (refine letWC ?_; intro Gz)))
  refine Mine.E4 ?_ h₁
  clear h₁
  intro news fx n P
  refine Mine.A5 ?_
  intro N src hfx hn
  intro R
  refine wpAny_noRaise (wpAny_mono src (fun it s₂ hs₂ => ?_) fun _ _ e => e)
  try ((fail_if_success (with_reducible show Gz)); with_reducible (first | (refine letW ?_; intro Gz) | (refine letWC ?_; intro Gz)))
  refine Mine.E4 ?_ hs₂
  clear hs₂
  intro I St h₂ tk₂
  refine Mine.A8 ?_
  intro hR1
  subst hR1
  intro hR2
  subst hR2
  intro W hst F N₂ hfix
  refine Mine.A5 ?_
  intro hIL hI0 hlt hne
  intro hSt
  have hIf : I ∈ I :: fx.map (·.1) := .head _
  try ((fail_if_success (with_reducible show Gz)); with_reducible (first | (refine letW ?_; intro Gz) | (refine letWC ?_; intro Gz)))
  obtain ⟨oI, hoI⟩ := hSt _ _ hst
  have hIlt : I < h₂.objs.size := Heap.lt_size hoI
  refine LCg.block_U (walks_fx W hne) hn (fun i h st => hSt i h st.1) ?_ hcell hkind hx ⟨hst, hfix⟩ (fun b hb => ?_) F N₂ hIL.symm hI0 (fun p hp => Nat.ne_of_lt (hlt p hp)) hfx (R h₂ tk₂) ?_
  · intro i h h' o nw st e e' k N' S
    refine ⟨W.frame _ _ _ st.1 fun b hb ob eb => ?_, fun p hp => ?_⟩
    · rcases List.mem_cons.mp hb with rfl | hb
      · rw [e] at eb; cases eb; exact e'
      · try ((fail_if_success (with_reducible show Gz)); with_reducible (first | (refine letW ?_; intro Gz) | (refine letWC ?_; intro Gz)))
        refine Exists.elim (List.mem_map.mp hb) ?_
        intro p
        refine And.elim ?_
        intro hp
        intro hR3
        subst hR3
        rw [st.2 p hp] at eb; cases eb
        rcases S p hp with h | h
        · exact k _ _ h
        · exact (N' p h).1
    · rcases S p hp with h | h
      · exact k _ _ h
      · exact (N' p h).1
  · rcases List.mem_cons.mp hb with rfl | hb
    · exact hIlt
    · try ((fail_if_success (with_reducible show Gz)); with_reducible (first | (refine letW ?_; intro Gz) | (refine letWC ?_; intro Gz)))
      refine Exists.elim (List.mem_map.mp hb) ?_
      intro p
      refine And.elim ?_
      intro hp
      intro hR4
      subst hR4
      exact Heap.lt_size (hfix p hp)
  · intro D C h tk m' ys news' F' N' o1 hn' hC₀ hD₀ hCL hDL hCD offC fin
    refine ⟨m', hn', fun h'' hs'' => fin D h'' tk (F'.change hs'' hCL hC₀) (fun p hp => ?_) o1⟩
    refine ⟨hs''.extBut _ _ ?_ (N' p hp).1, (N' p hp).2⟩
    rcases List.mem_cons.mp hp with rfl | hp
    · exact Ne.symm hCD
    · exact offC p hp
/-- a comprehension's turns by an invariant -/
theorem comp_rest_inv {elt : Expr} {x : Str} {scope : Scope} {cl : List (Str × Addr)} {S : List (Addr × Obj) → Prop} {P : Nat → Value → Prop} {Fin : List Value → List (Addr × Obj) → Prop} {n : Nat} (J : Nat → List Value → List (Addr × Obj) → Prop)
    (turn : ∀ i ys news v I oI C oC D m₂ h tk (E' : Value → Shared → Prop), i < n → J i ys news → P i v → LCg.NsObj oC m₂ → m₂ x = some v → Fr h₀ L h m → News h₀ L h ((I, oI) :: (C, oC) :: (D, LCg.lst ys) :: news) → LCg.Off3 I C D news → ((@Ne Nat I C) ∧ (@Ne Nat I D) ∧ (@Ne Nat C D)) →
      wpAny (model prog w) A (eval elt (compEnvC scope cl C env)) (LCg.CompEnd h₀ L m { s with heap := h, toks := tk } I oI C oC D (LCg.lst ys) S (fun y news' => J (i + 1) (ys ++ [y]) news')) E' { s with heap := h, toks := tk })
    (fin : ∀ ys news, J n ys news → Fin ys news) :
    ∀ (k i : Nat) (ys : List Value) (news : List (Addr × Obj)), i + k = n → J i ys news → LCg.CompRest prog w A h₀ L m env elt x scope cl s S P Fin k i ys news
  | 0, i, ys, news, hi, hJ => LCg.CompRest.zero (fin _ _ (by rw [show n = i by lia]; exact hJ))
  | k + 1, i, ys, news, hi, hJ => LCg.CompRest.succ fun v I oI C oC D m₂ h tk E' hP hC hx F N off ne =>
    wpAny_mono (turn i ys news v I oI C oC D m₂ h tk E' (by lia) hJ hP hC hx F N off ne) (fun y s₂ he => by
      try ((fail_if_success (with_reducible show Gz)); with_reducible (first | (refine letW ?_; intro Gz) | (refine letWC ?_; intro Gz)))
      refine Mine.E3 ?_ he
      clear he
      intro h' tk' news'
      refine Mine.A6 ?_
      intro hR5
      subst hR5
      intro F' N' off' hS
      intro hJ'
      exact Mine.I3 h' tk' news' ⟨rfl, F', N', off', hS, comp_rest_inv J turn fin k (i + 1) _ _ (by lia) hJ'⟩) fun _ _ e => e
end
end Mine
end
/-! part G2 -/
section
open PySem PySem.W PyProof.Rows HeadC
open PySem.SeqAt MeetsSeq MeetsSeq2 MeetsSeq3
open AutoSeq1 (wpAny_loadPart')
set_option maxRecDepth 100000
namespace Mine
set_option maxHeartbeats 4000000 in
theorem gt_loop (l b : Addr) (ca cb : Way) (va vb : List Value) (na nb : Nat) (ha : StrsAre va (ca.map Nm.txt)) (hb' : StrsAre vb (cb.map Nm.txt)) (k : Nat) :
    ∀ i : Nat, ca.length - i = k → i ≤ ca.length → i ≤ cb.length → Meets (Builtin.«list.__eq__.loop» ⟨[.ref l, .ref b, rawInt i, rawInt 4], []⟩)
      (fun _ R s => s.heap.get? l = some (listOf va.toArray na) ∧ s.heap.get? b = some (listOf vb.toArray nb) ∧ R (.ok (.ret (.bool (nmLt (cb.drop i) (ca.drop i))))) s) := by
  have la : va.length = ca.length := by rw [ha.length]; simp
  have lb : vb.length = cb.length := by rw [hb'.length]; simp
  induction k with
  | zero =>
    intro i hk hi hj prog w A R s h
    try ((fail_if_success (with_reducible show Gz)); with_reducible (first | (refine letW ?_; intro Gz) | (refine letWC ?_; intro Gz)))
    obtain ⟨hp, g, d, tk, os⟩ := s; obtain ⟨hl, hb, h⟩ := h
    wp_walk using wpAny_loadPart' hl, wpAny_loadPart' hb
    have hi1 : va.toArray[((i : Nat) : Int).toNat]? = none := by simp; omega
    rw [hi1]
    wp_walk using wpAny_loadPart' hl, wpAny_loadPart' hb
    have e : nmLt (cb.drop i) (ca.drop i) = decide (va.toArray.size > vb.toArray.size) := by
      rw [List.drop_of_length_le (l := ca) (by omega)]
      have : nmLt (cb.drop i) [] = false := by cases cb.drop i <;> rfl
      rw [this]; simp; omega
    rw [e] at h
    exact h
  | succ k ih =>
    intro i hk hi hj prog w A R s h
    try ((fail_if_success (with_reducible show Gz)); with_reducible (first | (refine letW ?_; intro Gz) | (refine letWC ?_; intro Gz)))
    obtain ⟨hp, g, d, tk, os⟩ := s; obtain ⟨hl, hb, h⟩ := h
    wp_walk using wpAny_loadPart' hl, wpAny_loadPart' hb
    have hlt : i < ca.length := by omega
    obtain ⟨t1, h1⟩ := names_at ha hlt
    have hi1 : va.toArray[((i : Nat) : Int).toNat]? = some (.str (ca[i].txt) t1) := by simpa using h1
    rw [hi1]
    rcases Nat.lt_or_ge i cb.length with hlt2 | hge
    · skip
      obtain ⟨t2, h2⟩ := names_at hb' hlt2
      have hi2 : vb.toArray[((i : Nat) : Int).toNat]? = some (.str (cb[i].txt) t2) := by simpa using h2
      rw [hi2]
      refine wpAny_bind (wpAny_eqBool_str ?_)
      have hc : ((i : Int) + 1) = ((i + 1 : Nat) : Int) := by push_cast; rfl
      rw [List.drop_eq_getElem_cons hlt, List.drop_eq_getElem_cons hlt2] at h
      by_cases he : ca[i] = cb[i]
      · have h' : R (.ok (.ret (.bool (nmLt (cb.drop (i + 1)) (ca.drop (i + 1)))))) ⟨hp, g, d, tk, os⟩ := by
          rw [show nmLt (cb[i] :: cb.drop (i + 1)) (ca[i] :: ca.drop (i + 1)) = nmLt (cb.drop (i + 1)) (ca.drop (i + 1)) by rw [nmLt, if_pos he.symm]] at h; exact h
        rw [show decide (ca[i].txt = cb[i].txt) = true by rw [he]; simp]
        wp_walk
        rw [hc]
        exact ⟨plainId_quiet plain_eq_loop _, codeAny_builtin entry_eq_loop (by
          rw [Around.under_plainId plain_eq_loop _]
          exact ih (i + 1) (by omega) (by omega) (by omega) prog w A R _ ⟨hl, hb, h'⟩)⟩
      · have h' : R (.ok (.ret (.bool (decide (cb[i].txt.cps.toList < ca[i].txt.cps.toList))))) ⟨hp, g, d, tk, os⟩ := by
          rw [show nmLt (cb[i] :: cb.drop (i + 1)) (ca[i] :: ca.drop (i + 1)) = decide (cb[i].chr < ca[i].chr) by rw [nmLt, if_neg (fun q => he q.symm)]] at h; rw [txt_lt]; exact h
        rw [show decide (ca[i].txt = cb[i].txt) = false by simp; exact fun h => he (txt_inj h)]
        wp_walk using wpAny_loadPart' hl, wpAny_loadPart' hb
        rw [hi1, hi2]
        show wpAny _ A.in1 (compareOp .Gt (.str ca[i].txt t1) (.str cb[i].txt t2) >>= fun v => ret v) _ _ _
        exact wpAny_bind (PySem.P.gt_str (wpAny_pure h'))
    · have hi2 : vb.toArray[((i : Nat) : Int).toNat]? = none := by simp; omega
      rw [hi2]
      wp_walk using wpAny_loadPart' hl, wpAny_loadPart' hb
      have e : nmLt (cb.drop i) (ca.drop i) = decide (va.toArray.size > vb.toArray.size) := by
        rw [List.drop_of_length_le (l := cb) (by omega), List.drop_eq_getElem_cons hlt]
        simp [nmLt]; omega
      rw [e] at h
      exact h
theorem list_lt (l b : Addr) (ca cb : Way) (va vb : List Value) (na nb : Nat) (ha : StrsAre va (ca.map Nm.txt)) (hb' : StrsAre vb (cb.map Nm.txt)) : Meets (Builtin.«list.__lt__» ⟨[.ref l, .ref b], []⟩)
      (fun _ R s => s.heap.get? l = some (listOf va.toArray na) ∧ s.heap.get? b = some (listOf vb.toArray nb) ∧ R (.ok (.ret (.bool (nmLt ca cb)))) s) := by
  intro prog w A R s h
  try ((fail_if_success (with_reducible show Gz)); with_reducible (first | (refine letW ?_; intro Gz) | (refine letWC ?_; intro Gz)))
  obtain ⟨hp, g, d, tk, os⟩ := s; obtain ⟨hl, hb, h⟩ := h
  have f3 := AutoSeq1.sub_list_list
  wp_walk using wpAny_loadPart' hl, wpAny_loadPart' hb
  exact ⟨plainId_quiet plain_eq_loop _, codeAny_builtin entry_eq_loop (by
    rw [Around.under_plainId plain_eq_loop _]
    exact lt_loop l b ca cb va vb na nb ha hb' _ 0 rfl (Nat.zero_le _) (Nat.zero_le _) prog w A R _ ⟨hl, hb, h⟩)⟩
theorem lt_names {prog : Program} {w : World} {A : Around} {E : Value → Shared → Prop} {s : Shared} {l b : Addr} {ca cb : Way} {Q : Value → Shared → Prop} (hu : A.units < cLine) (ha : IsNames s.heap l ca) (hb : IsNames s.heap b cb)
    (h : Q (.bool (nmLt ca cb)) s) : wpAny (model prog w) A (richCompare .Lt (.ref l) (.ref b)) Q E s := by
  try ((fail_if_success (with_reducible show Gz)); with_reducible (first | (refine letW ?_; intro Gz) | (refine letWC ?_; intro Gz)))
  refine Mine.E2 ?_ ha
  clear ha
  intro va na
  refine And.elim ?_
  intro ho
  intro hS
  try ((fail_if_success (with_reducible show Gz)); with_reducible (first | (refine letW ?_; intro Gz) | (refine letWC ?_; intro Gz)))
  refine Mine.E2 ?_ hb
  clear hb
  intro vb nb
  refine And.elim ?_
  intro ho2
  intro hS2
  exact richCompare_meets_room (op := .Lt) ⟨_, ho, rfl⟩ ⟨_, ho2, rfl⟩ PySem.F.slot_list_lt PySem.F.entry_list_lt (PySem.F.args_list_lt_2 _ _) (list_lt l b ca cb va vb na nb hS hS2)
    ⟨ho, ho2, ⟨(fun e => nomatch e), h⟩⟩ hu
section
variable {prog : Program} {w : World} {A : Around} {E : Value → Shared → Prop} {s : Shared} {h₀ : Heap} {L l : Addr} {m : Str → Option Value} {news : List (Addr × Obj)} {vs : List Value} {n : Nat}
theorem min_loopN {I S : Addr} {R : Result → Shared → Prop} {bt : Nat → Nat → Bool} (hh : A.handled = none) (hlm : (l, listOf vs.toArray n) ∈ news) (hIL : L ≠ I) (hI0 : h₀.get? I = none) (hnI : ∀ p ∈ news, p.1 ≠ I) (hSI : S ≠ I) (hnS : ∀ p ∈ news, p.1 ≠ S)
    (hcmp : ∀ i j vi vj h tk (Q E : Value → Shared → Prop), vs[i]? = some vi → vs[j]? = some vj → News h₀ L h news → Q (.bool (bt i j)) { s with heap := h, toks := tk } → wpAny (model prog w) A.in1 (richCompare .Lt vi vj) Q E { s with heap := h, toks := tk })
    (hR : ∀ h tk v, Fr h₀ L h m → News h₀ L h news → vs[argBest bt (vs.length - 1)]? = some v → R (.ok (.ret v)) { s with heap := h, toks := tk }) :
    ∀ (k j : Nat) (h : Heap) (tk : Nat) (vb : Value) (c : Nat), vs.length - (j + 1) = k → j + 1 ≤ vs.length → h.IsListIter I l (j + 1) → vs[argBest bt j]? = some vb → Fr h₀ L h m → News h₀ L h ((S, listOf #[vb, vb] c) :: news) →
      codeAny (model prog w) A (.builtin "min.loop" ⟨[.ref I, .none, .ref S], []⟩) R { s with heap := h, toks := tk } := by
  have hname : (toString "min" ++ toString ".loop" : String) = "min.loop" := by decide
  have hlI : l ≠ I := hnI _ hlm
  have W := Walks.list (prog := prog) (w := w) (A := A.in1) hh I l hlI vs.toArray
  simp only [List.size_toArray, List.getElem?_toArray] at W
  have offI : ∀ {o : Obj}, ∀ p ∈ (S, o) :: news, p.1 ≠ I := fun p hp => by
    rcases List.mem_cons.mp hp with rfl | hp
    · exact hSI
    · exact hnI p hp
  intro k
  induction k with
  | zero =>
    intro j h tk vb c hk hj hit hvb F N
    refine codeAny_builtin PySem.F.entry_min_loop ?_
    rw [Around.under_plainId PySem.F.plain_min_loop _]
    show wpAny _ A.in1 (seqItems? (.ref S) >>= _) _ _ _
    refine wpAny_bind (wpAny_seqItems (N _ (.head _)).1 rfl ?_)
    show wpAny _ A.in1 (tryCatch (pyNext (.ref I)) _ >>= _) _ _ _
    refine wpAny_bind (wpAny_tryCatch (W.done _ _ _ ⟨(by rw [show vs.length = j + 1 by omega]; exact hit), (News.sub N fun p hp => .tail _ hp).isList hlm⟩ fun h' tk' hk' => ?_))
    have F1 := LCg.fr_but F hk' hIL hI0
    have N1 := LCg.news_but N hk' offI
    have z := N1 (S, listOf #[vb, vb] c) (.head _)
    show wpAny _ A.in1 (updateSeq S (fun _ => #[]) >>= _) _ _ _
    refine wpAny_bind ?_
    refine wpAny_updateSeq z.1 rfl (wpAny_bind (wpAny_letGo (wpAny_pure ?_)))
    have s3 := Heap.SameBut.update h' S (Obj.mapSeq fun _ => #[])
    refine hR _ tk' vb (F1.change s3 z.2.1 z.2.2) (fun p hp => ?_) (by rw [show vs.length - 1 = j by omega]; exact hvb)
    have zp := N1 p (.tail _ hp)
    exact ⟨s3.extBut _ _ (hnS p hp) zp.1, zp.2⟩
  | succ k ih =>
    intro j h tk vb c hk hj hit hvb F N
    have hlt : j + 1 < vs.length := by omega
    refine codeAny_builtin PySem.F.entry_min_loop ?_
    rw [Around.under_plainId PySem.F.plain_min_loop _]
    show wpAny _ A.in1 (seqItems? (.ref S) >>= _) _ _ _
    refine wpAny_bind (wpAny_seqItems (N _ (.head _)).1 rfl ?_)
    show wpAny _ A.in1 (tryCatch (pyNext (.ref I)) _ >>= _) _ _ _
    refine wpAny_bind (wpAny_tryCatch (W.item (j + 1) _ _ _ hlt ⟨hit, (News.sub N fun p hp => .tail _ hp).isList hlm⟩ fun v h' tk' hP hst' hk' => ?_))
    have F1 := LCg.fr_but F hk' hIL hI0
    have N1 := LCg.news_but N hk' offI
    have z := N1 (S, listOf #[vb, vb] c) (.head _)
    show wpAny _ A.in1 (tryCatch (holding [v, v] (richCompare .Lt v vb >>= _)) _ >>= _) _ _ _
    refine wpAny_bind (wpAny_tryCatch (wpAny_holding (wpAny_bind (hcmp (j + 1) (argBest bt j) v vb _ _ _ _ hP hvb (News.sub N1 fun p hp => .tail _ hp) ?_))))
    refine wpAny_bind (wpAny_holding (wpAny_truthy_bool ?_))
    refine wpAny_bind (wpAny_letGo (wpAny_pure ?_))
    cases hb : bt (j + 1) (argBest bt j) with
    | true =>
      simp only [if_true]
      refine wpAny_bind ?_
      refine wpAny_updateSeq z.1 rfl (wpAny_bind (wpAny_letGo ?_))
      rw [hname]
      have s3 := Heap.SameBut.update h' S (Obj.mapSeq fun _ => #[v, v])
      try ((fail_if_success (with_reducible show Gz)); with_reducible (first | (refine letW ?_; intro Gz) | (refine letWC ?_; intro Gz)))
      refine Exists.elim hst'.1 ?_
      intro oI
      refine Mine.A3 ?_
      intro hoI hcI
      intro hdI
      refine wpAny_pure ⟨plainId_quiet PySem.F.plain_min_loop _, ih (j + 1) _ _ v c (by omega) hlt ⟨oI, s3.extBut _ _ hSI.symm hoI, hcI, hdI⟩ (by simp only [argBest, hb, if_true]; exact hP) (F1.change s3 z.2.1 z.2.2) (fun p hp => ?_)⟩
      rcases List.mem_cons.mp hp with rfl | hp
      · exact ⟨Heap.get?_update_self _ z.1 rfl, z.2⟩
      · have zp := N1 p (.tail _ hp)
        exact ⟨s3.extBut _ _ (hnS p hp) zp.1, zp.2⟩
    | false =>
      simp only [Bool.false_eq_true, if_false]
      refine wpAny_bind (wpAny_letGo ?_)
      rw [hname]
      exact wpAny_pure ⟨plainId_quiet PySem.F.plain_min_loop _, ih (j + 1) _ _ vb c (by omega) hlt hst'.1 (by simp only [argBest, hb, Bool.false_eq_true, if_false]; exact hvb) F1 N1⟩
theorem min_refs {bt : Nat → Nat → Bool} {Q : Value → Shared → Prop} (hh : A.handled = none) (F : Fr h₀ L s.heap m) (N : News h₀ L s.heap news) (hlm : (l, listOf vs.toArray n) ∈ news) (hpos : 0 < vs.length)
    (hcmp : ∀ i j vi vj h tk (Q E : Value → Shared → Prop), vs[i]? = some vi → vs[j]? = some vj → News h₀ L h news → Q (.bool (bt i j)) { s with heap := h, toks := tk } → wpAny (model prog w) A.in1 (richCompare .Lt vi vj) Q E { s with heap := h, toks := tk })
    (hQ : ∀ h tk v, Fr h₀ L h m → News h₀ L h news → vs[argBest bt (vs.length - 1)]? = some v → Q v { s with heap := h, toks := tk }) :
    wpAny (model prog w) A (call (.builtin "min") [.ref l]) Q E s := by
  have hname : (toString "min" ++ toString ".loop" : String) = "min.loop" := by decide
  refine call_function_tree PySem.F.kind_min PySem.F.plain_min PySem.F.entry_min (PySem.F.args_min1 _) ?_
  show wpAny _ A.in1 (Builtin.Builtins.bindParams "min" ["key", "default"] 0 ⟨[], []⟩ >>= _) _ _ s
  refine wpAny_bind (wpAny_of_eq (show Builtin.Builtins.bindParams "min" ["key", "default"] 0 ⟨[], []⟩ = pure [none, none] from rfl) ?_)
  refine wpAny_bind (wpAny_pure ?_)
  refine wpAny_bind (wpAny_pyIter_list (N.isList hlm) ?_)
  try ((fail_if_success (with_reducible show Gz)); with_reducible (first | (refine letW ?_; intro Gz) | (refine letWC ?_; intro Gz)))
  obtain ⟨I, hI⟩ : ∃ I, I = s.heap.objs.size := ⟨_, rfl⟩
  have hIL : L ≠ I := by rw [hI]; exact Nat.ne_of_lt F.ns.lt
  have hI0 : h₀.get? I = none := by rw [hI]; exact next_is_new F
  have hnI : ∀ p ∈ news, p.1 ≠ I := fun p hp => by rw [hI]; exact Nat.ne_of_lt (Heap.lt_size (N p hp).1)
  have hlI : l ≠ I := hnI _ hlm
  have F1 := F.push (itOf l 0)
  have N1 : News h₀ L (s.heap.push (itOf l 0)) ((I, itOf l 0) :: news) := by rw [hI]; exact N.push F _
  refine wpAny_bind (wpAny_newObj_type ?_)
  rw [hname]
  dsimp only
  show wpAny _ A.in1 (again (.builtin "min.loop" ⟨[.ref s.heap.objs.size, .none, .ref (s.heap.push (itOf l 0)).objs.size], []⟩)) _ _ _
  rw [← hI]
  have N2 := N1.push F1 ({ cls := .type "list", data := .seq ([] : List Value).toArray } : Obj)
  have F2 := F1.push ({ cls := .type "list", data := .seq ([] : List Value).toArray } : Obj)
  have hlt : ∀ p ∈ (I, itOf l 0) :: news, p.1 < (s.heap.push (itOf l 0)).objs.size := fun p hp => Heap.lt_size (N1 p hp).1
  generalize (s.heap.push (itOf l 0)).objs.size = S at N2 hlt ⊢
  have hSI : S ≠ I := Nat.ne_of_gt (hlt _ (.head _))
  have hnS : ∀ p ∈ news, p.1 ≠ S := fun p hp => Nat.ne_of_lt (hlt p (.tail _ hp))
  have offI : ∀ {o : Obj}, ∀ p ∈ (S, o) :: news, p.1 ≠ I := fun p hp => by
    rcases List.mem_cons.mp hp with rfl | hp
    · exact hSI
    · exact hnI p hp
  have W := Walks.list (prog := prog) (w := w) (A := A.in1) hh I l hlI vs.toArray
  simp only [List.size_toArray, List.getElem?_toArray] at W
  refine wpAny_pure ⟨plainId_quiet PySem.F.plain_min_loop _, codeAny_builtin PySem.F.entry_min_loop ?_⟩
  rw [Around.under_plainId PySem.F.plain_min_loop _]
  show wpAny _ A.in1 (seqItems? (.ref S) >>= _) _ _ _
  refine wpAny_bind (wpAny_seqItems (N2 _ (.head _)).1 rfl ?_)
  show wpAny _ A.in1 (tryCatch (pyNext (.ref I)) _ >>= _) _ _ _
  have zI := N2 (I, itOf l 0) (.tail _ (.head _))
  have N3 : News h₀ L ((s.heap.push (itOf l 0)).push ({ cls := .type "list", data := .seq ([] : List Value).toArray } : Obj)) ((S, ({ cls := .type "list", data := .seq ([] : List Value).toArray } : Obj)) :: news) := fun p hp => by
    rcases List.mem_cons.mp hp with rfl | hp
    · exact N2 _ (.head _)
    · exact N2 _ (.tail _ (.tail _ hp))
  refine wpAny_bind (wpAny_tryCatch (W.item 0 _ _ _ hpos ⟨⟨_, zI.1, rfl, rfl⟩, (News.sub N3 fun p hp => .tail _ hp).isList hlm⟩ fun v h' tk' hP hst' hk' => ?_))
  have F4 := LCg.fr_but F2 hk' hIL hI0
  have N4 := LCg.news_but N3 hk' offI
  have z := N4 _ (.head _)
  show wpAny _ A.in1 (updateSeq S (fun _ => #[v, v]) >>= _) _ _ _
  refine wpAny_bind ?_
  refine wpAny_updateSeq z.1 rfl ?_
  rw [hname]
  have s3 := Heap.SameBut.update h' S (Obj.mapSeq fun _ => #[v, v])
  try ((fail_if_success (with_reducible show Gz)); with_reducible (first | (refine letW ?_; intro Gz) | (refine letWC ?_; intro Gz)))
  refine Exists.elim hst'.1 ?_
  intro oI
  refine Mine.A3 ?_
  intro hoI hcI
  intro hdI
  refine wpAny_pure ⟨plainId_quiet PySem.F.plain_min_loop _, min_loopN (bt := bt) (s := s) (I := I) (S := S) hh hlm hIL hI0 hnI hSI hnS hcmp hQ _ 0 _ _ v 1 rfl hpos ⟨oI, s3.extBut _ _ hSI.symm hoI, hcI, hdI⟩ hP (F4.change s3 z.2.1 z.2.2) (fun p hp => ?_)⟩
  rcases List.mem_cons.mp hp with rfl | hp
  · exact ⟨Heap.get?_update_self _ z.1 rfl, z.2⟩
  · have zp := N4 p (.tail _ hp)
    exact ⟨s3.extBut _ _ (hnS p hp) zp.1, zp.2⟩
end
theorem list_gt (l b : Addr) (ca cb : Way) (va vb : List Value) (na nb : Nat) (ha : StrsAre va (ca.map Nm.txt)) (hb' : StrsAre vb (cb.map Nm.txt)) : Meets (Builtin.«list.__gt__» ⟨[.ref l, .ref b], []⟩)
      (fun _ R s => s.heap.get? l = some (listOf va.toArray na) ∧ s.heap.get? b = some (listOf vb.toArray nb) ∧ R (.ok (.ret (.bool (nmLt cb ca)))) s) := by
  intro prog w A R s h
  try ((fail_if_success (with_reducible show Gz)); with_reducible (first | (refine letW ?_; intro Gz) | (refine letWC ?_; intro Gz)))
  obtain ⟨hp, g, d, tk, os⟩ := s; obtain ⟨hl, hb, h⟩ := h
  have f3 := AutoSeq1.sub_list_list
  wp_walk using wpAny_loadPart' hl, wpAny_loadPart' hb
  exact ⟨plainId_quiet plain_eq_loop _, codeAny_builtin entry_eq_loop (by
    rw [Around.under_plainId plain_eq_loop _]
    exact gt_loop l b ca cb va vb na nb ha hb' _ 0 rfl (Nat.zero_le _) (Nat.zero_le _) prog w A R _ ⟨hl, hb, h⟩)⟩
theorem gt_names {prog : Program} {w : World} {A : Around} {E : Value → Shared → Prop} {s : Shared} {l b : Addr} {ca cb : Way} {Q : Value → Shared → Prop} (hu : A.units < cLine) (ha : IsNames s.heap l ca) (hb : IsNames s.heap b cb)
    (h : Q (.bool (nmLt cb ca)) s) : wpAny (model prog w) A (richCompare .Gt (.ref l) (.ref b)) Q E s := by
  try ((fail_if_success (with_reducible show Gz)); with_reducible (first | (refine letW ?_; intro Gz) | (refine letWC ?_; intro Gz)))
  refine Mine.E2 ?_ ha
  clear ha
  intro va na
  refine And.elim ?_
  intro ho
  intro hS
  try ((fail_if_success (with_reducible show Gz)); with_reducible (first | (refine letW ?_; intro Gz) | (refine letWC ?_; intro Gz)))
  refine Mine.E2 ?_ hb
  clear hb
  intro vb nb
  refine And.elim ?_
  intro ho2
  intro hS2
  exact richCompare_meets_room (op := .Gt) ⟨_, ho, rfl⟩ ⟨_, ho2, rfl⟩ PySem.F.slot_list_gt PySem.F.entry_list_gt (PySem.F.args_list_gt_2 _ _) (list_gt l b ca cb va vb na nb hS hS2)
    ⟨ho, ho2, ⟨(fun e => nomatch e), h⟩⟩ hu
section
variable {prog : Program} {w : World} {A : Around} {E : Value → Shared → Prop} {s : Shared} {h₀ : Heap} {L l : Addr} {m : Str → Option Value} {news : List (Addr × Obj)} {vs : List Value} {n : Nat}
theorem max_loopN {I S : Addr} {R : Result → Shared → Prop} {bt : Nat → Nat → Bool} (hh : A.handled = none) (hlm : (l, listOf vs.toArray n) ∈ news) (hIL : L ≠ I) (hI0 : h₀.get? I = none) (hnI : ∀ p ∈ news, p.1 ≠ I) (hSI : S ≠ I) (hnS : ∀ p ∈ news, p.1 ≠ S)
    (hcmp : ∀ i j vi vj h tk (Q E : Value → Shared → Prop), vs[i]? = some vi → vs[j]? = some vj → News h₀ L h news → Q (.bool (bt i j)) { s with heap := h, toks := tk } → wpAny (model prog w) A.in1 (richCompare .Gt vi vj) Q E { s with heap := h, toks := tk })
    (hR : ∀ h tk v, Fr h₀ L h m → News h₀ L h news → vs[argBest bt (vs.length - 1)]? = some v → R (.ok (.ret v)) { s with heap := h, toks := tk }) :
    ∀ (k j : Nat) (h : Heap) (tk : Nat) (vb : Value) (c : Nat), vs.length - (j + 1) = k → j + 1 ≤ vs.length → h.IsListIter I l (j + 1) → vs[argBest bt j]? = some vb → Fr h₀ L h m → News h₀ L h ((S, listOf #[vb, vb] c) :: news) →
      codeAny (model prog w) A (.builtin "max.loop" ⟨[.ref I, .none, .ref S], []⟩) R { s with heap := h, toks := tk } := by
  have hname : (toString "max" ++ toString ".loop" : String) = "max.loop" := by decide
  have hlI : l ≠ I := hnI _ hlm
  have W := Walks.list (prog := prog) (w := w) (A := A.in1) hh I l hlI vs.toArray
  simp only [List.size_toArray, List.getElem?_toArray] at W
  have offI : ∀ {o : Obj}, ∀ p ∈ (S, o) :: news, p.1 ≠ I := fun p hp => by
    rcases List.mem_cons.mp hp with rfl | hp
    · exact hSI
    · exact hnI p hp
  intro k
  induction k with
  | zero =>
    intro j h tk vb c hk hj hit hvb F N
    refine codeAny_builtin PySem.F.entry_max_loop ?_
    rw [Around.under_plainId PySem.F.plain_max_loop _]
    show wpAny _ A.in1 (seqItems? (.ref S) >>= _) _ _ _
    refine wpAny_bind (wpAny_seqItems (N _ (.head _)).1 rfl ?_)
    show wpAny _ A.in1 (tryCatch (pyNext (.ref I)) _ >>= _) _ _ _
    refine wpAny_bind (wpAny_tryCatch (W.done _ _ _ ⟨(by rw [show vs.length = j + 1 by omega]; exact hit), (News.sub N fun p hp => .tail _ hp).isList hlm⟩ fun h' tk' hk' => ?_))
    have F1 := LCg.fr_but F hk' hIL hI0
    have N1 := LCg.news_but N hk' offI
    have z := N1 (S, listOf #[vb, vb] c) (.head _)
    show wpAny _ A.in1 (updateSeq S (fun _ => #[]) >>= _) _ _ _
    refine wpAny_bind ?_
    refine wpAny_updateSeq z.1 rfl (wpAny_bind (wpAny_letGo (wpAny_pure ?_)))
    have s3 := Heap.SameBut.update h' S (Obj.mapSeq fun _ => #[])
    refine hR _ tk' vb (F1.change s3 z.2.1 z.2.2) (fun p hp => ?_) (by rw [show vs.length - 1 = j by omega]; exact hvb)
    have zp := N1 p (.tail _ hp)
    exact ⟨s3.extBut _ _ (hnS p hp) zp.1, zp.2⟩
  | succ k ih =>
    intro j h tk vb c hk hj hit hvb F N
    have hlt : j + 1 < vs.length := by omega
    refine codeAny_builtin PySem.F.entry_max_loop ?_
    rw [Around.under_plainId PySem.F.plain_max_loop _]
    show wpAny _ A.in1 (seqItems? (.ref S) >>= _) _ _ _
    refine wpAny_bind (wpAny_seqItems (N _ (.head _)).1 rfl ?_)
    show wpAny _ A.in1 (tryCatch (pyNext (.ref I)) _ >>= _) _ _ _
    refine wpAny_bind (wpAny_tryCatch (W.item (j + 1) _ _ _ hlt ⟨hit, (News.sub N fun p hp => .tail _ hp).isList hlm⟩ fun v h' tk' hP hst' hk' => ?_))
    have F1 := LCg.fr_but F hk' hIL hI0
    have N1 := LCg.news_but N hk' offI
    have z := N1 (S, listOf #[vb, vb] c) (.head _)
    show wpAny _ A.in1 (tryCatch (holding [v, v] (richCompare .Gt v vb >>= _)) _ >>= _) _ _ _
    refine wpAny_bind (wpAny_tryCatch (wpAny_holding (wpAny_bind (hcmp (j + 1) (argBest bt j) v vb _ _ _ _ hP hvb (News.sub N1 fun p hp => .tail _ hp) ?_))))
    refine wpAny_bind (wpAny_holding (wpAny_truthy_bool ?_))
    refine wpAny_bind (wpAny_letGo (wpAny_pure ?_))
    cases hb : bt (j + 1) (argBest bt j) with
    | true =>
      simp only [if_true]
      refine wpAny_bind ?_
      refine wpAny_updateSeq z.1 rfl (wpAny_bind (wpAny_letGo ?_))
      rw [hname]
      have s3 := Heap.SameBut.update h' S (Obj.mapSeq fun _ => #[v, v])
      try ((fail_if_success (with_reducible show Gz)); with_reducible (first | (refine letW ?_; intro Gz) | (refine letWC ?_; intro Gz)))
      refine Exists.elim hst'.1 ?_
      intro oI
      refine Mine.A3 ?_
      intro hoI hcI
      intro hdI
      refine wpAny_pure ⟨plainId_quiet PySem.F.plain_max_loop _, ih (j + 1) _ _ v c (by omega) hlt ⟨oI, s3.extBut _ _ hSI.symm hoI, hcI, hdI⟩ (by simp only [argBest, hb, if_true]; exact hP) (F1.change s3 z.2.1 z.2.2) (fun p hp => ?_)⟩
      rcases List.mem_cons.mp hp with rfl | hp
      · exact ⟨Heap.get?_update_self _ z.1 rfl, z.2⟩
      · have zp := N1 p (.tail _ hp)
        exact ⟨s3.extBut _ _ (hnS p hp) zp.1, zp.2⟩
    | false =>
      simp only [Bool.false_eq_true, if_false]
      refine wpAny_bind (wpAny_letGo ?_)
      rw [hname]
      exact wpAny_pure ⟨plainId_quiet PySem.F.plain_max_loop _, ih (j + 1) _ _ vb c (by omega) hlt hst'.1 (by simp only [argBest, hb, Bool.false_eq_true, if_false]; exact hvb) F1 N1⟩
theorem max_refs {bt : Nat → Nat → Bool} {Q : Value → Shared → Prop} (hh : A.handled = none) (F : Fr h₀ L s.heap m) (N : News h₀ L s.heap news) (hlm : (l, listOf vs.toArray n) ∈ news) (hpos : 0 < vs.length)
    (hcmp : ∀ i j vi vj h tk (Q E : Value → Shared → Prop), vs[i]? = some vi → vs[j]? = some vj → News h₀ L h news → Q (.bool (bt i j)) { s with heap := h, toks := tk } → wpAny (model prog w) A.in1 (richCompare .Gt vi vj) Q E { s with heap := h, toks := tk })
    (hQ : ∀ h tk v, Fr h₀ L h m → News h₀ L h news → vs[argBest bt (vs.length - 1)]? = some v → Q v { s with heap := h, toks := tk }) :
    wpAny (model prog w) A (call (.builtin "max") [.ref l]) Q E s := by
  have hname : (toString "max" ++ toString ".loop" : String) = "max.loop" := by decide
  refine call_function_tree PySem.F.kind_max PySem.F.plain_max PySem.F.entry_max (PySem.F.args_max1 _) ?_
  show wpAny _ A.in1 (Builtin.Builtins.bindParams "max" ["key", "default"] 0 ⟨[], []⟩ >>= _) _ _ s
  refine wpAny_bind (wpAny_of_eq (show Builtin.Builtins.bindParams "max" ["key", "default"] 0 ⟨[], []⟩ = pure [none, none] from rfl) ?_)
  refine wpAny_bind (wpAny_pure ?_)
  refine wpAny_bind (wpAny_pyIter_list (N.isList hlm) ?_)
  try ((fail_if_success (with_reducible show Gz)); with_reducible (first | (refine letW ?_; intro Gz) | (refine letWC ?_; intro Gz)))
  obtain ⟨I, hI⟩ : ∃ I, I = s.heap.objs.size := ⟨_, rfl⟩
  have hIL : L ≠ I := by rw [hI]; exact Nat.ne_of_lt F.ns.lt
  have hI0 : h₀.get? I = none := by rw [hI]; exact next_is_new F
  have hnI : ∀ p ∈ news, p.1 ≠ I := fun p hp => by rw [hI]; exact Nat.ne_of_lt (Heap.lt_size (N p hp).1)
  have hlI : l ≠ I := hnI _ hlm
  have F1 := F.push (itOf l 0)
  have N1 : News h₀ L (s.heap.push (itOf l 0)) ((I, itOf l 0) :: news) := by rw [hI]; exact N.push F _
  refine wpAny_bind (wpAny_newObj_type ?_)
  rw [hname]
  dsimp only
  show wpAny _ A.in1 (again (.builtin "max.loop" ⟨[.ref s.heap.objs.size, .none, .ref (s.heap.push (itOf l 0)).objs.size], []⟩)) _ _ _
  rw [← hI]
  have N2 := N1.push F1 ({ cls := .type "list", data := .seq ([] : List Value).toArray } : Obj)
  have F2 := F1.push ({ cls := .type "list", data := .seq ([] : List Value).toArray } : Obj)
  have hlt : ∀ p ∈ (I, itOf l 0) :: news, p.1 < (s.heap.push (itOf l 0)).objs.size := fun p hp => Heap.lt_size (N1 p hp).1
  generalize (s.heap.push (itOf l 0)).objs.size = S at N2 hlt ⊢
  have hSI : S ≠ I := Nat.ne_of_gt (hlt _ (.head _))
  have hnS : ∀ p ∈ news, p.1 ≠ S := fun p hp => Nat.ne_of_lt (hlt p (.tail _ hp))
  have offI : ∀ {o : Obj}, ∀ p ∈ (S, o) :: news, p.1 ≠ I := fun p hp => by
    rcases List.mem_cons.mp hp with rfl | hp
    · exact hSI
    · exact hnI p hp
  have W := Walks.list (prog := prog) (w := w) (A := A.in1) hh I l hlI vs.toArray
  simp only [List.size_toArray, List.getElem?_toArray] at W
  refine wpAny_pure ⟨plainId_quiet PySem.F.plain_max_loop _, codeAny_builtin PySem.F.entry_max_loop ?_⟩
  rw [Around.under_plainId PySem.F.plain_max_loop _]
  show wpAny _ A.in1 (seqItems? (.ref S) >>= _) _ _ _
  refine wpAny_bind (wpAny_seqItems (N2 _ (.head _)).1 rfl ?_)
  show wpAny _ A.in1 (tryCatch (pyNext (.ref I)) _ >>= _) _ _ _
  have zI := N2 (I, itOf l 0) (.tail _ (.head _))
  have N3 : News h₀ L ((s.heap.push (itOf l 0)).push ({ cls := .type "list", data := .seq ([] : List Value).toArray } : Obj)) ((S, ({ cls := .type "list", data := .seq ([] : List Value).toArray } : Obj)) :: news) := fun p hp => by
    rcases List.mem_cons.mp hp with rfl | hp
    · exact N2 _ (.head _)
    · exact N2 _ (.tail _ (.tail _ hp))
  refine wpAny_bind (wpAny_tryCatch (W.item 0 _ _ _ hpos ⟨⟨_, zI.1, rfl, rfl⟩, (News.sub N3 fun p hp => .tail _ hp).isList hlm⟩ fun v h' tk' hP hst' hk' => ?_))
  have F4 := LCg.fr_but F2 hk' hIL hI0
  have N4 := LCg.news_but N3 hk' offI
  have z := N4 _ (.head _)
  show wpAny _ A.in1 (updateSeq S (fun _ => #[v, v]) >>= _) _ _ _
  refine wpAny_bind ?_
  refine wpAny_updateSeq z.1 rfl ?_
  rw [hname]
  have s3 := Heap.SameBut.update h' S (Obj.mapSeq fun _ => #[v, v])
  try ((fail_if_success (with_reducible show Gz)); with_reducible (first | (refine letW ?_; intro Gz) | (refine letWC ?_; intro Gz)))
  refine Exists.elim hst'.1 ?_
  intro oI
  refine Mine.A3 ?_
  intro hoI hcI
  intro hdI
  refine wpAny_pure ⟨plainId_quiet PySem.F.plain_max_loop _, max_loopN (bt := bt) (s := s) (I := I) (S := S) hh hlm hIL hI0 hnI hSI hnS hcmp hQ _ 0 _ _ v 1 rfl hpos ⟨oI, s3.extBut _ _ hSI.symm hoI, hcI, hdI⟩ hP (F4.change s3 z.2.1 z.2.2) (fun p hp => ?_)⟩
  rcases List.mem_cons.mp hp with rfl | hp
  · exact ⟨Heap.get?_update_self _ z.1 rfl, z.2⟩
  · have zp := N4 p (.tail _ hp)
    exact ⟨s3.extBut _ _ (hnS p hp) zp.1, zp.2⟩
end
end Mine
end
/-! part D0 -/
section
open PySem PySem.W PyProof.Rows HeadC
set_option maxRecDepth 100000
namespace Mine
theorem kind_issub_nested : builtinKind "issubclass.nested" = none := by decide +kernel
theorem plain_issub_nested : plainId "issubclass.nested" = true := by decide +kernel
theorem args_issub_nested_3 (a b c : Value) : argsOk "issubclass.nested" ⟨[a, b, c], []⟩ := by unfold argsOk; kernel_rfl
theorem sub_str_str : isSubtype (.type "str") (.type "str") = pure true := by rw [isSubtype_type]; kernel_rfl
theorem issub_nested_str (dep : Int) (tk : Tok) : Meets (Builtin.«issubclass.nested» ⟨[.type "str", .type "str", .int dep tk], []⟩) (fun _ R s => R (.ok (.ret (.bool true))) s) :=
  fun prog w A R s hs => by
    obtain ⟨h, g, d, t, os⟩ := s
    have hm : (Value.type "type" == Value.type "type") = true := rfl
    have hself := sub_str_str
    repeat (any_goals (first | assumption | (rw [if_pos hm]) | (rw [hself]) | wp_step))
section
variable {prog : Program} {w : World} {A : Around} {E : Value → Shared → Prop} {s : Shared}
theorem issub_tuple {tp : Addr} {cs its : List Value} {tk : Tok} {Q : PySem.Fin → Shared → Prop} (htp : s.heap.get? tp = some { cls := .type "tuple", data := .seq its.toArray }) (he : its = Value.type "str" :: cs)
    (hq : Q (.done (.ret (.bool true))) s) : wpAny (model prog w) A (Builtin.«issubclass.nested» ⟨[.type "str", .ref tp, .int 0 tk], []⟩) Q E s := by
  obtain ⟨h, g, d, t, os⟩ := s
  have hT2 : (⟨h, g, d, t, os⟩ : Shared).TypeIs (.ref tp) "tuple" := ⟨_, htp, rfl⟩
  have f1 := F.isi_sub_tuple
  repeat (any_goals (first | assumption | wp_step))
  refine wpAny_arrayLoop ?_
  subst he
  simp only [Option.getD_some, List.toList_toArray, List.forIn_cons]
  refine wpAny_bind (wpAny_bind (call_function_meets kind_issub_nested plain_issub_nested F.entry_issubclass_nested (args_issub_nested_3 _ _ _) (issub_nested_str _ _) ?_))
  show wpAny _ _ (truthy (.bool true) >>= _) _ _ _
  refine wpAny_bind (m := truthy (.bool true)) (wpAny_pure ?_)
  exact wpAny_bind (wpAny_pure (wpAny_pure (wpAny_pure (wpAny_pure hq))))
theorem issub_str {tp : Addr} {cs : List Value} {Q : Value → Shared → Prop} (htp : s.heap.get? tp = some { cls := .type "tuple", data := .seq (Value.type "str" :: cs).toArray })
    (h : Q (.bool true) s) : wpAny (model prog w) A (call (.builtin "issubclass") [.type "str", .ref tp]) Q E s :=
  call_issubclass (S := fun _ R s => s.heap.get? tp = some { cls := .type "tuple", data := .seq (Value.type "str" :: cs).toArray } ∧ R (.ok (.ret (.bool true))) s) (fun _ _ _ _ _ hs => issubclass_outer (issub_tuple hs.1 rfl hs.2)) ⟨htp, h⟩
end
end Mine
end
/-! part D1 -/
section
example : True := by w_top off; trivial
open PySem PySem.W PyProof.Rows HeadC
set_option maxRecDepth 100000
namespace Mine
theorem k_fill_nowD1 {w : World} : ∃ _ : Challenge.rw_pd0166_01 = Challenge.rw_pd0166_01, hd.heap_1 w.params = hd.heap_1 w.params := by
  k_fill
  exact ⟨rfl, rfl⟩

set_option maxHeartbeats 8000000 in
theorem c_fspath {prog : Program} {w : World} {mean : ExcName → Option Value} {mg mb : Str → Option Value} {news : List (Addr × Obj)} {x : Str} {t : Tok} :
    CallC prog w mean mg mb 1 122 [.str x t] news (fun r news' => r = .str x t ∧ news' = news) := by
  intro dp un gd cn cs a ccd cl outer A₀ base h₀ L m s Q E B F X N T hk hdp hun hret
  refine wpAny_call ?_
  k_dflt ktr_enter
  rename_i g' L' h' FG F' N' B' X' T' 
  iterate 29 walk1
  rename_i h1 D h2 F2 N2 l1
  refine issub_str (cs := [.type "bytes"]) (N2.get (.head _)) ?_
  iterate 5 walk1
  exact leaveK_ F2 (news' := news) (fun p hp => N2 p (.tail _ hp)) (fun F N => hret _ _ _ _ F N ⟨rfl, rfl⟩)

set_option maxHeartbeats 8000000 in
theorem c_getsep {prog : Program} {w : World} {mean : ExcName → Option Value} {mg mb : Str → Option Value} {news : List (Addr × Obj)} {x : Str} {t : Tok} :
    CallC prog w mean mg mb 1 136 [.str x t] news (fun r news' => (∃ t', r = .str "/" t') ∧ news' = news) := by
  intro dp un gd cn cs a ccd cl outer A₀ base h₀ L m s Q E B F X N T hk hdp hun hret
  refine wpAny_call ?_
  k_dflt ktr_enter
  rename_i g' L' h' FG F' N' B' X' T' 
  iterate 19 walk1
  exact leaveK_ F' N' (fun F N => hret _ _ _ _ F N ⟨⟨_, rfl⟩, rfl⟩)

noncomputable def joinS (x y : Str) : Str := if Txt.endswith x "/" then x ++ y else x ++ ("/" ++ y)
set_option maxHeartbeats 8000000 in
theorem c_join {prog : Program} {w : World} {mean : ExcName → Option Value} {mg mb : Str → Option Value} {news : List (Addr × Obj)} {x y : Str} {t u : Tok} (hy : Txt.startswith y "/" = false) (hx : x.length ≠ 0) (hzx : x.length < 2 ^ 20) (hzy : y.length < 2 ^ 20) :
    CallC prog w mean mg mb 2 143 [.str x t, .str y u] news (fun r news' => (∃ t', r = .str (joinS x y) t') ∧ news' = news) := by
  intro dp un gd cn cs a ccd cl outer A₀ base h₀ L m s Q E B F X N T hk hdp hun hret
  refine wpAny_call ?_
  k_dflt (refine' kp_rest ?k1 ?k2 ?k3 ?k4 ?k5 ?kA ?kF ?kK ?k6 ?k7 ?k8 ?kV ?kP ?kG ?kB ?_ ?c2 ?c3 ?c4 ?c5; (case kA => exact rfl); (case kF => exact rfl); (case kK => assumption); (case k1 => k_asm); (case k2 => k_asm); (case k3 => k_asm); (case k4 => k_asm); (case k5 => k_asm); (case k6 => k_is); (case k7 => k_is); (case k8 => ktr_room); (case kV => kl_lit); (case kP => exact rfl); (case kG => exact fun _ => rfl); (case kB => exact fun _ => locs rfl); (case c5 => decide); (case c2 => exact rfl); (case c3 => exact rfl); (case c4 => exact rfl); k_whole)
  intro D g' L' h' l1 FG F' N' B' X' T'
  try dsimp only
  (repeat ((fail_if_success (with_reducible show wpAny _ _ (PySem.call (Value.ref _) _) _ _ _)); walk1))
  refine CallC.use (c_fspath (x := x) (t := t)) B' F' X' N' T' rfl (by show dp + 1 + 1 < recursionLimit; lia) (by show un + 3 + 8 * 1 < cLine; lia) ?_
  rintro r news' h1 tk1 F1 N1 ⟨rfl, rfl⟩
  (repeat ((fail_if_success (with_reducible show wpAny _ _ (PySem.call (Value.ref _) _) _ _ _)); walk1))
  rename_i h2 F2 N2
  refine CallC.use (c_getsep (x := x) (t := t)) B' F2 X' N2 T' rfl (by show dp + 1 + 1 < recursionLimit; lia) (by show un + 3 + 8 * 1 < cLine; lia) ?_
  rintro r news' h3 tk3 F3 N3 ⟨⟨ts, rfl⟩, rfl⟩
  iterate 10 walk1
  rename_i h4 F4 N4
  refine wpAny_For ?_
  walk1
  refine iter_loop (fun i m1 news1 => ∃ (tP : Tok), news1 = (D, ({ cls := .type "tuple", data := .seq [Value.str y u].toArray } : Obj)) :: news ∧ Has m1 [("sep", .str "/" ts), ("path", .str (if i = 0 then x else joinS x y) tP)])
    (fun m1 news1 => ∃ (tP : Tok), news1 = (D, ({ cls := .type "tuple", data := .seq [Value.str y u].toArray } : Obj)) :: news ∧ Has m1 [("path", .str (joinS x y) tP)])
    (src_tuple rfl F4 N4 (.head _)) ?_ ?_ ?_ ?_ ?_
  · intro p hp
    rw [List.mem_singleton.mp hp]
    exact .inr (fun i m1 news1 ⟨_, e, _⟩ => by rw [e]; exact .head _)
  · exact ⟨_, rfl, rfl, rfl, trivial⟩
  · rintro i v m1 news1 h5 tk5 I oI hi hv hlt hnI ⟨tP, rfl, hm⟩ F5 N5
    obtain rfl : i = 0 := by simpa using hi
    obtain rfl : v = .str y u := by simpa using hv.symm
    refine frsG F5 (l := [("b", .str y u), ("sep", .str "/" ts), ("path", .str x tP)]) ⟨rfl, hm.1, hm.2.1, trivial⟩ ?_; clear F5; intro _ F5
    (repeat ((fail_if_success (with_reducible show wpAny _ _ (PySem.call (Value.ref _) _) _ _ _)); walk1))
    refine CallC.use (c_fspath (x := y) (t := u)) B' F5 X' N5 T' rfl (by show dp + 1 + 1 < recursionLimit; lia) (by show un + 3 + 8 * 1 < cLine; lia) ?_
    rintro r news' h6 tk6 F6 N6 ⟨rfl, rfl⟩
    iterate 15 walk1
    rw [hy, if_neg (by simp)]
    iterate 5 walk1
    rw [if_neg (by simpa using hx)]
    iterate 15 walk1
    by_cases he : Txt.endswith x "/" = true
    · rw [if_pos he]
      iterate 8 walk1
      rename_i h7 F7 N7
      refine wpAny_execs_nil ?_
      refine Mine.I4 _ _ _ _ ⟨rfl, F7, N7, hnI, ?_⟩
      have e : joinS x y = x ++ y := by simp [joinS, he]
      rw [if_neg (by lia), e]
      exact ⟨_, rfl, rfl, rfl, trivial⟩
    · rw [if_neg he]
      iterate 10 walk1
      rename_i h7 F7 N7
      refine wpAny_execs_nil (wpAny_execs_nil ?_)
      refine Mine.I4 _ _ _ _ ⟨rfl, F7, N7, hnI, ?_⟩
      have e : joinS x y = x ++ ("/" ++ y) := by simp [joinS, he]
      rw [if_neg (by lia), e]
      exact ⟨_, rfl, rfl, rfl, trivial⟩
  · rintro m1 news1 ⟨tP, rfl, hm⟩
    exact ⟨tP, rfl, hm.2.1, trivial⟩
  · rintro m1 news1 h5 tk5 F5 N5 ⟨tP, rfl, hm⟩
    refine frsG F5 hm ?_; clear F5; intro _ F5
    iterate 5 walk1
    exact leaveK_ F5 (news' := news) (fun p hp => N5 p (.tail _ hp)) (fun F N => hret _ _ _ _ F N ⟨⟨_, rfl⟩, rfl⟩)
end Mine
end
/-! part P4 -/
section
open PySem PySem.W PyProof.Rows HeadC
namespace Mine
/-! ### a dict keyed by the texts of words -/
inductive TabR {α : Type} (R : α → Value → Prop) : List (W4 × α) → List (Str × Value) → Prop
  | nil : TabR R [] []
  | cons {w : W4} {a : α} {v : Value} {L : List (W4 × α)} {kvs : List (Str × Value)} : R a v → TabR R L kvs → TabR R ((w, a) :: L) ((w.txt, v) :: kvs)
section
variable {α : Type} {R R' : α → Value → Prop} {L : List (W4 × α)} {kvs : List (Str × Value)}
theorem TabR.mono (h : TabR R L kvs) (hR : ∀ a v, R a v → R' a v) : TabR R' L kvs := by
  induction h with
  | nil => exact .nil
  | cons r _ ih => exact .cons (hR _ _ r) ih
theorem TabR.len (h : TabR R L kvs) : kvs.length = L.length := by
  induction h with
  | nil => rfl
  | cons _ _ ih => simp [ih]
theorem TabR.absent (h : TabR R L kvs) {w : W4} (hn : ¬ ∃ e ∈ L, e.1 = w) : valueAt kvs w.txt = none := by
  induction h with
  | nil => rfl
  | @cons v a x L kvs r t ih =>
    have h1 : ¬ v.txt = w.txt := fun e => hn ⟨_, .head _, W4.txt_inj e⟩
    have := ih fun ⟨e, he, e1⟩ => hn ⟨e, .tail _ he, e1⟩
    unfold valueAt at this ⊢
    rw [List.find?_cons]
    simp only [h1, decide_false]
    exact this
theorem TabR.here (h : TabR R L kvs) (hn : (L.map (·.1)).Nodup) {w : W4} {a : α} (he : (w, a) ∈ L) : ∃ v, valueAt kvs w.txt = some v ∧ R a v := by
  induction h with
  | nil => nomatch he
  | @cons v b x L kvs r t ih =>
    rw [List.map_cons, List.nodup_cons] at hn
    rcases List.mem_cons.mp he with e | he
    · cases e
      exact ⟨x, by unfold valueAt; simp, r⟩
    · have h1 : ¬ v.txt = w.txt := fun e => hn.1 (List.mem_map.mpr ⟨_, he, (W4.txt_inj e).symm⟩)
      refine Exists.elim (ih hn.2 he) ?_
      intro y
      refine And.elim ?_
      intro hy
      intro ry
      refine ⟨y, ?_, ry⟩
      unfold valueAt at hy ⊢
      rw [List.find?_cons]
      simp only [h1, decide_false]
      exact hy
theorem TabR.has (h : TabR R L kvs) (w : W4) : (valueAt kvs w.txt).isSome = decide (∃ e ∈ L, e.1 = w) := by
  by_cases hh : ∃ e ∈ L, e.1 = w
  · rw [decide_eq_true hh, valueAt_isSome_eq_any]
    refine Exists.elim hh ?_
    clear hh
    intro e
    refine And.elim ?_
    intro he
    intro hR1
    subst hR1
    induction h with
    | nil => nomatch he
    | @cons v b x L kvs r t ih =>
      rcases List.mem_cons.mp he with rfl | he
      · simp
      · rw [List.any_cons, ih he, Bool.or_true]
  · rw [decide_eq_false hh, h.absent hh]; rfl
theorem TabR.snoc (h : TabR R L kvs) {w : W4} {a : α} {v : Value} (hn : ¬ ∃ e ∈ L, e.1 = w) (r : R a v) : TabR R (L ++ [(w, a)]) (stored kvs w.txt v) := by
  rw [stored_absent (h.absent hn)]
  clear hn
  induction h with
  | nil => exact .cons r .nil
  | cons r' _ ih => exact .cons r' ih
/-- an entry put right, or a new one -/
noncomputable def putA (L : List (W4 × α)) (w : W4) (a : α) : List (W4 × α) := if L.any (fun e => e.1 = w) then L.map (fun e => if e.1 = w then (e.1, a) else e) else L ++ [(w, a)]
theorem TabR.put (h : TabR R L kvs) {w : W4} {a : α} {v : Value} (r : R a v) : TabR R (putA L w a) (stored kvs w.txt v) := by
  by_cases hh : ∃ e ∈ L, e.1 = w
  · have h1 : L.any (fun e => e.1 = w) = true := by
      refine Exists.elim hh ?_
      clear hh
      intro e
      refine And.elim ?_
      intro he
      intro hR2
      subst hR2
      exact List.any_eq_true.mpr ⟨e, he, by simp⟩
    have h2 : (kvs.any fun kv => kv.1 = w.txt) = true := by
      rw [← valueAt_isSome_eq_any, h.has, decide_eq_true hh]
    unfold putA stored
    rw [if_pos h1, if_pos h2]
    clear h1 h2 hh
    induction h with
    | nil => exact .nil
    | @cons u b x L kvs r' t ih =>
      rw [List.map_cons, List.map_cons]
      by_cases e : u = w
      · subst e
        simp only [if_true]
        exact .cons r ih
      · have e' : ¬ u.txt = w.txt := fun h => e (W4.txt_inj h)
        simp only [e, e', if_false]
        exact .cons r' ih
  · have h1 : ¬ L.any (fun e => e.1 = w) = true := by
      intro h
      refine Exists.elim (List.any_eq_true.mp h) ?_
      intro e
      refine And.elim ?_
      intro he
      intro h
      exact hh ⟨e, he, by simpa using h⟩
    unfold putA
    rw [if_neg h1]
    exact h.snoc hh r
theorem TabR.at (h : TabR R L kvs) {i : Nat} {k : Str} {v : Value} (hx : kvs[i]? = some (k, v)) : ∃ w a, L[i]? = some (w, a) ∧ k = w.txt ∧ R a v := by
  induction h generalizing i with
  | nil => simp at hx
  | @cons u b x L kvs r t ih =>
    cases i with
    | zero =>
      simp only [List.getElem?_cons_zero, Option.some.injEq, Prod.mk.injEq] at hx
      obtain ⟨rfl, rfl⟩ := hx
      exact Mine.I2 u b ⟨rfl, rfl, r⟩
    | succ i => exact ih (by simpa using hx)
end
/-- a settled word's value: a price and a way -/
noncomputable def EntV (news : List (Addr × Obj)) (e : Int × Way) (v : Value) : Prop :=
  ∃ a t u n, v = .ref a ∧ (a, ({ cls := .type "tuple", data := .seq #[.int e.1 t, .str (waS e.2) u] n } : Obj)) ∈ news
theorem EntV.mono {news news' : List (Addr × Obj)} (hs : ∀ p ∈ news, p ∈ news') (e : Int × Way) (v : Value) (h : EntV news e v) : EntV news' e v := by
  refine Mine.E4 ?_ h
  clear h
  intro a t u n
  refine And.elim ?_
  intro e1
  intro h1
  exact Mine.I4 a t u n ⟨e1, hs _ h1⟩
theorem IsItem.mono {news news' : List (Addr × Obj)} (hs : ∀ p ∈ news, p ∈ news') {v : Value} {x : Item} (h : IsItem news v x) : IsItem news' v x := by
  refine Mine.E5 ?_ h
  clear h
  intro a t u z n
  refine And.elim ?_
  intro e1
  intro h1
  exact Mine.I5 a t u z n ⟨e1, hs _ h1⟩
/-- the table of the three prices -/
structure PriceTab (prog : Program) (w : World) (c : Nm → Int) (dP : Addr) (oP : Obj) : Prop where
  dict : ∃ pk, oP.IsDictOf (PySem.strKind prog w) pk ∧ ∀ n : Nm, ∃ t, valueAt pk n.txt = some (.int (c n) t)
  low : (dP == sysModules) = false
  pos : ∀ n, 1 ≤ c n
  top : ∀ n, c n ≤ 9
theorem waS_len (cs : Way) : (waS cs).length = if cs = [] then 1 else 2 * cs.length := by
  unfold waS
  rw [wayS_len, List.length_map]
  cases cs <;> simp
theorem waS_join (cs : Way) (n : Nm) : joinS (waS cs) n.txt = waS (cs ++ [n]) := by
  have hn : n.txt.cps.toList = [n.chr] := by cases n <;> decide
  have hs : (Str.ofString "/").cps.toList = [47] := slash_cps
  apply Str.ext_list
  unfold joinS
  have key : Txt.endswith (waS cs) (Str.ofString "/") = ((wk cs).getLast? == some 47) := by rw [endswith_iff, waS_cps]
  rw [waS_cps]
  have e : wk (cs ++ [n]) = ((cs.map Nm.chr).flatMap fun c => [47, c]) ++ [47, n.chr] := by
    unfold wk; rw [List.map_append, List.map_cons, List.map_nil, wayL_snoc]
  rw [e]
  cases cs with
  | nil =>
    have : Txt.endswith (waS []) (Str.ofString "/") = true := by rw [key]; rfl
    show (if Txt.endswith (waS []) (Str.ofString "/") = true then _ else _ : Str).cps.toList = _
    rw [if_pos this, Str.cps_append, Array.toList_append, waS_cps, hn]
    rfl
  | cons m cs =>
    have hl : ∃ l d, wk (m :: cs) = l ++ [d] ∧ d ≠ 47 := by
      rcases List.eq_nil_or_concat (m :: cs) with h | ⟨ds, d, h⟩
      · cases h
      · rw [List.concat_eq_append] at h
        refine Mine.I2 (((ds.map Nm.chr).flatMap fun c => [47, c]) ++ [47]) d.chr ⟨?_, Nm.chr_ne d⟩
        rw [h]; unfold wk; rw [List.map_append, List.map_cons, List.map_nil, wayL_snoc]; simp
    refine Mine.E2 ?_ hl
    clear hl
    intro l d
    refine And.elim ?_
    intro hl
    intro hd
    have : Txt.endswith (waS (m :: cs)) (Str.ofString "/") = false := by
      rw [key, hl]
      simp [hd]
    show (if Txt.endswith (waS (m :: cs)) (Str.ofString "/") = true then _ else _ : Str).cps.toList = _
    rw [this, if_neg (by simp)]
    rw [Str.cps_append, Array.toList_append, Str.cps_append, Array.toList_append, waS_cps, hn]
    show wk (m :: cs) ++ ((Str.ofString "/").cps.toList ++ [n.chr]) = _
    rw [hs]
    rfl
theorem nm_start (n : Nm) : Txt.startswith n.txt "/" = false := by cases n <;> decide
end Mine
end
/-! part P12 -/
section
open PySem PySem.W PyProof.Rows HeadC
open PySem.Builtin.Str (strSliceIndices)
set_option maxRecDepth 10000
namespace Mine
/-- the names of a way, as one text -/
noncomputable def nmS (cs : Way) : Str := ⟨(cs.map Nm.chr).toArray⟩
theorem nmS_len (cs : Way) : (nmS cs).length = cs.length := by simp [nmS, Str.length]
theorem nmS_cps (cs : Way) : (nmS cs).cps.toList = cs.map Nm.chr := by simp [nmS]
/-- the names that three ways begin with -/
noncomputable def com3 : Way → Way → Way → Way
  | a :: as, b :: bs, c :: cs => if a = b ∧ b = c then a :: com3 as bs cs else []
  | _, _, _ => []
theorem com3_take : ∀ (i : Nat) {c0 c1 c2 : Way}, i ≤ c0.length → i ≤ c1.length → i ≤ c2.length → (∀ j, j < i → c0[j]? = c1[j]? ∧ c1[j]? = c2[j]?) →
    (∀ a b c, c0[i]? = some a → c1[i]? = some b → c2[i]? = some c → ¬ (a = b ∧ b = c)) → com3 c0 c1 c2 = c0.take i
  | 0, c0, c1, c2, _, _, _, _, hn => by
    cases c0 with
    | nil => rfl
    | cons a c0 => cases c1 with
      | nil => rfl
      | cons b c1 => cases c2 with
        | nil => rfl
        | cons c c2 =>
          show (if a = b ∧ b = c then _ else []) = _
          rw [if_neg (hn a b c rfl rfl rfl)]; rfl
  | i + 1, c0, c1, c2, h0, h1, h2, hj, hn => by
    cases c0 with
    | nil => simp at h0
    | cons a c0 => cases c1 with
      | nil => simp at h1
      | cons b c1 => cases c2 with
        | nil => simp at h2
        | cons c c2 =>
          have := hj 0 (by lia)
          simp only [List.getElem?_cons_zero, Option.some.injEq] at this
          show (if a = b ∧ b = c then _ else []) = _
          rw [if_pos this, List.take_succ_cons, com3_take i (by simpa using h0) (by simpa using h1) (by simpa using h2) (fun j h => by simpa using hj (j + 1) (by lia)) (fun x y z hx hy hz => hn x y z (by simpa using hx) (by simpa using hy) (by simpa using hz))]
theorem odd_idx (k : Nat) (h : k ≤ 25) : strSliceIndices (some 1) none 2 (2 * k) = (List.range k).map fun j => 1 + 2 * j := by
  have : ∀ k : Fin 26, strSliceIndices (some 1) none 2 (2 * (k : Nat)) = (List.range (k : Nat)).map fun j => 1 + 2 * j := by decide
  exact this ⟨k, by lia⟩
theorem flat_odd (l : List Nat) (j : Nat) : (l.flatMap fun c => [47, c])[1 + 2 * j]? = l[j]? := by
  induction l generalizing j with
  | nil => simp
  | cons a l ih =>
    cases j with
    | zero => rfl
    | succ j =>
      have := ih j
      rw [List.flatMap_cons, show 1 + 2 * (j + 1) = (1 + 2 * j) + 1 + 1 by lia]
      simpa using this
theorem fm_range (l : List Nat) : ((List.range l.length).filterMap fun j => l[j]?) = l := by
  induction l with
  | nil => rfl
  | cons a l ih =>
    rw [List.length_cons, List.range_succ_eq_map, List.filterMap_cons]
    simp only [List.getElem?_cons_zero, List.filterMap_map]
    congr 1
theorem way_odd (cs : Way) (h : cs.length ≤ 25) (u v : Tok) : Txt.sliceBy (waS cs) (some (1, u)) none (2, v) = nmS cs := by
  have key : (Txt.sliceBy (waS cs) (some (1, u)) none (2, v)).cps.toList = (strSliceIndices (some 1) none 2 (waS cs).length).filterMap ((waS cs).cps[·]?) := by
    unfold Txt.sliceBy slicePicked
    rw [if_neg (by
      have : ((((some ((2 : Int), v)).map (·.1)).getD 1 == 1)) = false := rfl
      rw [this]; simp)]
    rfl
  apply Str.ext_list
  rw [key, nmS_cps]
  cases cs with
  | nil => decide +kernel
  | cons m cs =>
    rw [waS_len, if_neg (by simp), odd_idx _ h, List.filterMap_map]
    have e : ∀ j, ((fun i => (waS (m :: cs)).cps[i]?) ∘ fun j => 1 + 2 * j) j = ((m :: cs).map Nm.chr)[j]? := fun j => by
      show (waS (m :: cs)).cps[1 + 2 * j]? = _
      rw [← Array.getElem?_toList, waS_cps]
      exact flat_odd _ j
    rw [funext e]
    have := fm_range ((m :: cs).map Nm.chr)
    rw [List.length_map] at this
    exact this
theorem join_signs : ∀ (l : List Nat) (a : Nat), (Str.join (Str.ofString "/") ((a :: l).map fun n => (⟨#[n]⟩ : Str))).cps.toList = a :: l.flatMap fun c => [47, c]
  | [], a => rfl
  | b :: l, a => by
    have := join_signs l b
    show ((⟨#[a]⟩ ++ Str.ofString "/") ++ Str.join (Str.ofString "/") ((b :: l).map fun n => (⟨#[n]⟩ : Str)) : Str).cps.toList = _
    rw [Str.cps_append, Array.toList_append, this, Str.cps_append, Array.toList_append, show (Str.ofString "/").cps.toList = [47] from slash_cps]
    simp
theorem way_join (ds : Way) : (Str.ofString "/") ++ Txt.join (Str.ofString "/") (signs (nmS ds)) = waS ds := by
  apply Str.ext_list
  rw [Str.cps_append, Array.toList_append, waS_cps, show (Str.ofString "/").cps.toList = [47] from slash_cps]
  unfold Txt.join signs
  rw [nmS_cps, StrLaws.glued_eq_join]
  cases ds with
  | nil => rfl
  | cons d ds =>
    rw [List.map_cons, join_signs]
    rfl
theorem nmS_take (cs : Way) (i : Nat) (h : i ≤ cs.length) : Txt.slice (nmS cs) none (some (i : Int)) = nmS (cs.take i) := by
  apply Str.ext_list
  rw [slice_ns _ _ (by rw [nmS_len]; exact h), nmS_cps, nmS_cps, List.map_take]
end Mine
end
/-! part G3 -/
section
open PySem PySem.W PyProof.Rows HeadC
set_option maxRecDepth 100000
namespace Mine
theorem nmLt_eq : ∀ (a b : Way), nmLt a b = decide (a.map Nm.chr < b.map Nm.chr)
  | a, [] => by cases a <;> simp [nmLt]
  | [], b :: bs => by simp [nmLt]
  | a :: as, b :: bs => by
    rw [nmLt]
    by_cases h : a = b
    · subst h
      rw [if_pos rfl, nmLt_eq as bs]
      simp [List.cons_lt_cons_iff]
    · rw [if_neg h]
      have : ¬ a.chr = b.chr := fun q => h (Nm.chr_inj q)
      simp [List.cons_lt_cons_iff, this]
theorem nmLt_asym (a b : Way) (h : nmLt a b = true) : nmLt b a = false := by
  rw [nmLt_eq] at h ⊢
  exact decide_eq_false (List.lt_asymm (of_decide_eq_true h))
theorem nmLt_ntr (a b c : Way) (h1 : nmLt a b = false) (h2 : nmLt b c = false) : nmLt a c = false := by
  rw [nmLt_eq] at h1 h2 ⊢
  exact decide_eq_false (nlt_trans (of_decide_eq_false h1) (of_decide_eq_false h2))
theorem between : ∀ (i : Nat) {lo x hi : Way}, i ≤ lo.length → i ≤ hi.length → (∀ j, j < i → lo[j]? = hi[j]?) → nmLt x lo = false → nmLt hi x = false → i ≤ x.length ∧ ∀ j, j < i → x[j]? = lo[j]?
  | 0, _, _, _, _, _, _, _, _ => ⟨Nat.zero_le _, fun _ h => nomatch h⟩
  | i + 1, lo, x, hi, h1, h2, hj, hl, hh => by
    cases lo with
    | nil => simp at h1
    | cons a lo => cases hi with
      | nil => simp at h2
      | cons b hi =>
        have e0 := hj 0 (by lia)
        simp only [List.getElem?_cons_zero, Option.some.injEq] at e0
        subst e0
        cases x with
        | nil => simp [nmLt] at hl
        | cons c x =>
          have : c = a := by
            by_cases q : c = a
            · exact q
            · rw [nmLt, if_neg q] at hl
              rw [nmLt, if_neg (fun z => q z.symm)] at hh
              have hl := of_decide_eq_false hl
              have hh := of_decide_eq_false hh
              exact Nm.chr_inj (by lia)
          subst this
          rw [nmLt, if_pos rfl] at hl hh
          obtain ⟨r1, r2⟩ := between i (by simpa using h1) (by simpa using h2) (fun j h => by simpa using hj (j + 1) (by lia)) hl hh
          refine ⟨by simpa using r1, fun j h => ?_⟩
          cases j with
          | zero => rfl
          | succ j => simpa using r2 j (by lia)
theorem hi_long : ∀ (i : Nat) {lo hi : Way}, i < lo.length → i ≤ hi.length → (∀ j, j < i → lo[j]? = hi[j]?) → nmLt hi lo = false → i < hi.length
  | 0, lo, hi, h1, _, _, hl => by
    cases hi with
    | nil => cases lo with
      | nil => simp at h1
      | cons a lo => simp [nmLt] at hl
    | cons b hi => simp
  | i + 1, lo, hi, h1, h2, hj, hl => by
    cases lo with
    | nil => simp at h1
    | cons a lo => cases hi with
      | nil => simp at h2
      | cons b hi =>
        have e0 := hj 0 (by lia)
        simp only [List.getElem?_cons_zero, Option.some.injEq] at e0
        subst e0
        rw [nmLt, if_pos rfl] at hl
        simpa using hi_long i (by simpa using h1) (by simpa using h2) (fun j h => by simpa using hj (j + 1) (by lia)) hl
/-- the least and the greatest of three ways part where the three do -/
theorem com3_lohi {c0 c1 c2 lo hi : Way} (hlo : lo ∈ [c0, c1, c2]) (hhi : hi ∈ [c0, c1, c2]) (l : ∀ x ∈ [c0, c1, c2], nmLt x lo = false) (g : ∀ x ∈ [c0, c1, c2], nmLt hi x = false)
    {i : Nat} (hi0 : i ≤ lo.length) (hi1 : i ≤ hi.length) (hj : ∀ j, j < i → lo[j]? = hi[j]?) (hn : ∀ a b, lo[i]? = some a → hi[i]? = some b → a ≠ b) : com3 c0 c1 c2 = lo.take i := by
  have B : ∀ x ∈ [c0, c1, c2], i ≤ x.length ∧ ∀ j, j < i → x[j]? = lo[j]? := fun x hx => between i hi0 hi1 hj (l x hx) (g x hx)
  have b0 := B c0 (.head _)
  have b1 := B c1 (.tail _ (.head _))
  have b2 := B c2 (.tail _ (.tail _ (.head _)))
  have := com3_take i b0.1 b1.1 b2.1 (fun j h => ⟨(b0.2 j h).trans (b1.2 j h).symm, (b1.2 j h).trans (b2.2 j h).symm⟩) (fun a b c e0 e1 e2 => ?_)
  · rw [this]
    apply List.ext_getElem?
    intro j
    rw [List.getElem?_take, List.getElem?_take]
    split
    · rename_i h; exact b0.2 j h
    · rfl
  · rintro ⟨rfl, rfl⟩
    have key : ∀ x ∈ [c0, c1, c2], x[i]? = some a := fun x hx => by
      simp only [List.mem_cons, List.not_mem_nil, or_false] at hx
      rcases hx with rfl | rfl | rfl <;> assumption
    exact hn a a (key lo hlo) (key hi hhi) rfl
section
variable {prog : Program} {w : World} {A : Around} {E : Value → Shared → Prop} {s : Shared} {h₀ : Heap} {L l : Addr} {m : Str → Option Value} {news : List (Addr × Obj)} {n : Nat}
noncomputable def NamesIn (news : List (Addr × Obj)) (p : Addr × Way) : Prop := ∃ vs n, (p.1, listOf vs.toArray n) ∈ news ∧ StrsAre vs (p.2.map Nm.txt)
theorem NamesIn.at {h : Heap} {p : Addr × Way} (x : NamesIn news p) (N : News h₀ L h news) : IsNames h p.1 p.2 := by
  refine Mine.E2 ?_ x
  clear x
  intro vs n
  refine And.elim ?_
  intro hm
  intro hS
  exact Mine.I2 vs n ⟨(N _ hm).1, hS⟩
theorem refs_at {Ds : List (Addr × Way)} {i : Nat} {v : Value} (h : (Ds.map fun p => Value.ref p.1)[i]? = some v) : ∃ p, Ds[i]? = some p ∧ v = .ref p.1 ∧ (Ds.getD i (0, [])) = p := by
  rw [List.getElem?_map] at h
  cases e : Ds[i]? with
  | none => rw [e] at h; cases h
  | some p => rw [e] at h; cases h; exact ⟨p, rfl, rfl, by rw [List.getD_eq_getElem?_getD, e]; rfl⟩
theorem min_names {Ds : List (Addr × Way)} {Q : Value → Shared → Prop} (hh : A.handled = none) (hu : A.units + 1 < cLine) (F : Fr h₀ L s.heap m) (N : News h₀ L s.heap news) (hlm : (l, listOf (Ds.map fun p => Value.ref p.1).toArray n) ∈ news) (hpos : 0 < Ds.length)
    (hD : ∀ p ∈ Ds, NamesIn news p)
    (hQ : ∀ h tk p, Fr h₀ L h m → News h₀ L h news → p ∈ Ds → (∀ q ∈ Ds, nmLt q.2 p.2 = false) → Q (.ref p.1) { s with heap := h, toks := tk }) :
    wpAny (model prog w) A (call (.builtin "min") [.ref l]) Q E s := by
  refine min_refs (bt := fun i j => nmLt (Ds.getD i (0, [])).2 (Ds.getD j (0, [])).2) hh F N hlm (by simpa using hpos) ?_ ?_
  · intro i j vi vj h tk Q E hi hj N1 hQ
    refine Exists.elim (refs_at hi) ?_
    intro p
    refine Mine.A3 ?_
    intro hp hR1
    subst hR1
    intro ep
    refine Exists.elim (refs_at hj) ?_
    intro q
    refine Mine.A3 ?_
    intro hq hR2
    subst hR2
    intro eq
    rw [ep, eq] at hQ
    exact lt_names hu ((hD p (List.mem_of_getElem? hp)).at N1) ((hD q (List.mem_of_getElem? hq)).at N1) hQ
  · intro h tk v F1 N1 hv
    refine Exists.elim (refs_at hv) ?_
    intro p
    refine Mine.A3 ?_
    intro hp hR3
    subst hR3
    intro ep
    refine hQ h tk p F1 N1 (List.mem_of_getElem? hp) fun q hq => ?_
    have hb := (argBest_ord (bt := fun i j => nmLt (Ds.getD i (0, [])).2 (Ds.getD j (0, [])).2) (fun a b => nmLt_asym _ _) (fun a b c => nmLt_ntr _ _ _) ((Ds.map fun p => Value.ref p.1).length - 1)).2
    obtain ⟨j, hj⟩ := List.mem_iff_getElem?.mp hq
    have hj2 := (List.getElem?_eq_some_iff.mp hj).1
    have := hb j (by rw [List.length_map]; lia)
    rw [ep] at this
    rwa [show Ds.getD j (0, []) = q by rw [List.getD_eq_getElem?_getD, hj]; rfl] at this
theorem max_names {Ds : List (Addr × Way)} {Q : Value → Shared → Prop} (hh : A.handled = none) (hu : A.units + 1 < cLine) (F : Fr h₀ L s.heap m) (N : News h₀ L s.heap news) (hlm : (l, listOf (Ds.map fun p => Value.ref p.1).toArray n) ∈ news) (hpos : 0 < Ds.length)
    (hD : ∀ p ∈ Ds, NamesIn news p)
    (hQ : ∀ h tk p, Fr h₀ L h m → News h₀ L h news → p ∈ Ds → (∀ q ∈ Ds, nmLt p.2 q.2 = false) → Q (.ref p.1) { s with heap := h, toks := tk }) :
    wpAny (model prog w) A (call (.builtin "max") [.ref l]) Q E s := by
  refine max_refs (bt := fun i j => nmLt (Ds.getD j (0, [])).2 (Ds.getD i (0, [])).2) hh F N hlm (by simpa using hpos) ?_ ?_
  · intro i j vi vj h tk Q E hi hj N1 hQ
    refine Exists.elim (refs_at hi) ?_
    intro p
    refine Mine.A3 ?_
    intro hp hR4
    subst hR4
    intro ep
    refine Exists.elim (refs_at hj) ?_
    intro q
    refine Mine.A3 ?_
    intro hq hR5
    subst hR5
    intro eq
    rw [ep, eq] at hQ
    exact gt_names hu ((hD p (List.mem_of_getElem? hp)).at N1) ((hD q (List.mem_of_getElem? hq)).at N1) hQ
  · intro h tk v F1 N1 hv
    refine Exists.elim (refs_at hv) ?_
    intro p
    refine Mine.A3 ?_
    intro hp hR6
    subst hR6
    intro ep
    refine hQ h tk p F1 N1 (List.mem_of_getElem? hp) fun q hq => ?_
    have hb := (argBest_ord (bt := fun i j => nmLt (Ds.getD j (0, [])).2 (Ds.getD i (0, [])).2) (fun a b => nmLt_asym _ _) (fun a b c h1 h2 => nmLt_ntr _ _ _ h2 h1) ((Ds.map fun p => Value.ref p.1).length - 1)).2
    obtain ⟨j, hj⟩ := List.mem_iff_getElem?.mp hq
    have hj2 := (List.getElem?_eq_some_iff.mp hj).1
    have := hb j (by rw [List.length_map]; lia)
    rw [ep] at this
    rwa [show Ds.getD j (0, []) = q by rw [List.getD_eq_getElem?_getD, hj]; rfl] at this
end
end Mine
end
/-! part B1 -/
section
open PySem PySem.W PyProof.Rows HeadC
set_option maxRecDepth 100000
namespace Mine
theorem ba_mro : mroOf (.type "bytearray") = pure [.type "bytearray", .type "object"] := by rw [mroOf_type]; kernel_rfl
theorem ba_lookup_new : typeLookup (.type "bytearray") "__new__" = pure (some (.builtin "bytearray.__new__")) := by rw [typeLookup_type, builtinLookup_eq_fast]; kernel_rfl
theorem ba_slot_init : Slot "bytearray" "__init__" "bytearray.__init__" :=
  .of (owner := "bytearray") (n := "__init__") (by rw [typeLookup_type, builtinLookup_eq_fast]; kernel_rfl) (by decide +kernel) (by decide +kernel) (by decide +kernel)
    (by first | exact .inl (by decide +kernel) | exact .inr (by decide +kernel)) (by rw [isSubtype_type]; kernel_rfl)
theorem ba_called : TypeCalled "bytearray" "bytearray.__new__" "bytearray.__init__" :=
  ⟨by decide +kernel, by decide +kernel, ⟨_, _, ba_mro⟩, madeBy_type ba_mro ba_lookup_new (by decide +kernel), by decide +kernel, by rw [isSubtype_type]; kernel_rfl, ba_slot_init⟩
theorem ba_typeCall (a : Value) : checkTypeCall "bytearray" ⟨[a], []⟩ = pure () := by kernel_rfl
theorem ba_newCall (a : Value) : checkBuiltinCall "bytearray.__new__" ⟨[.type "bytearray", a], []⟩ = pure () := by kernel_rfl
theorem ba_entry_init : entryFor table "bytearray.__init__" = some Builtin.«bytearray.__init__» := entryFor_of_tree (by kernel_rfl)
theorem ba_plain_init : plainId "bytearray.__init__" = true := by decide +kernel
theorem ba_plain_new : plainId "bytearray.__new__" = true := by decide +kernel
theorem ba_entry_new : entryFor table "bytearray.__new__" = some Builtin.«list.__new__» :=
  entryFor_alias (id' := "list.__new__") (by kernel_rfl) (by first | rfl | decide +kernel | (unfold String.splitOn; simp +decide [String.splitOnAux])) (by decide +kernel) (by kernel_rfl)
set_option maxRecDepth 1000000 in
set_option maxHeartbeats 4000000 in
theorem ba_owner_new : ("bytearray.__new__".splitOn ".__new__").headD "" = "bytearray" := by simp +decide [String.splitOn, String.splitOnAux]
theorem ba_sub : isSubtype (.type "bytearray") (.type "bytearray") = pure true := by rw [isSubtype_type]; kernel_rfl
section
variable {prog : Program} {w : World} {A : Around} {E : Value → Shared → Prop} {s : Shared}
theorem code_ba_new (a : Value) {Q₁ : Value → Shared → Prop}
    (h : Q₁ (.ref s.heap.objs.size) { s with heap := s.heap.push { cls := .type "bytearray", data := .bytearray #[] } }) :
    codeAny (model prog w) A (.call (.builtin "bytearray.__new__") ⟨[.type "bytearray", a], []⟩) (wants Q₁ E) s := by
  refine codeAny_of_tree ?_
  show wpAny _ A.in1 (do checkBuiltinCall "bytearray.__new__" ⟨[.type "bytearray", a], []⟩; again (.builtin "bytearray.__new__" ⟨[.type "bytearray", a], []⟩)) _ _ s
  refine wpAny_bind (wpAny_of_eq (ba_newCall a) (wpAny_pure ⟨plainId_quiet ba_plain_new _, codeAny_builtin_stack ba_entry_new rfl fun p st => ?_⟩))
  rw [Around.under_plainId ba_plain_new _]
  have hsub := ba_sub
  have hown := ba_owner_new
  obtain ⟨hp, g, d, tk, os⟩ := s
  simp only [hown]
  wp_walk
  exact h
end
end Mine
end
/-! part B2 -/
section
open PySem PySem.W PyProof.Rows HeadC
set_option maxRecDepth 100000
namespace Mine
theorem ba_bind (v : Value) : Builtin.Bytes.bindOptional "bytearray.__init__" "bytearray" ["source", "encoding", "errors"] [v] [] = pure [some v, none, none] := by kernel_rfl
theorem ba_release : typeLookup (.type "bytearray") "__release_buffer__" = pure (some (.builtin "bytearray.__release_buffer__")) := by rw [typeLookup_type, builtinLookup_eq_fast]; kernel_rfl
theorem ba_ends : (("bytearray.__release_buffer__" : String).endsWith ("." ++ "__release_buffer__")) = true := by decide +kernel
theorem ba_drop : (("bytearray.__release_buffer__" : String).dropRight ("__release_buffer__".length + 1)) = "bytearray" := by decide +kernel
theorem int_index : typeLookup (.type "int") "__index__" = pure (some (.builtin "int.__index__")) := by rw [typeLookup_type, builtinLookup_eq_fast]; kernel_rfl
noncomputable abbrev baOf (b : Array UInt8) : Obj := { cls := .type "bytearray", data := .bytearray b }
section
variable {M : Model} {prog : Program} {w : World} {A : Around} {E : Value → Shared → Prop} {s : Shared}
theorem int_special {n : Int} {t : Tok} {Q : Option Value → Shared → Prop} (h : Q (some (.builtin "int.__index__")) s) : wpAny M A (specialOf (.int n t) "__index__") Q E s :=
  wpAny_specialOf_val (T := "int") rfl int_index h
theorem ba_ownRelease {b : Addr} {Q : Bool → Shared → Prop} (hT : s.TypeIs (.ref b) "bytearray") (h : Q false s) : wpAny M A (Builtin.Bytes.ownRelease (.ref b)) Q E s := by
  unfold Builtin.Bytes.ownRelease Builtin.Bytes.slotIsOwn
  refine wpAny_bind (wpAny_bind (wpAny_specialOf hT ba_release ?_))
  dsimp only
  rw [ba_ends, ba_drop]
  simp only [Bool.not_true, Bool.false_eq_true, if_false]
  exact wpAny_isInstance hT ba_sub (wpAny_pure h)
theorem ba_write {b : Addr} {x : Array UInt8} {f : Array UInt8 → Array UInt8} {Q : Unit → Shared → Prop} (ho : s.heap.get? b = some (baOf x)) (hz : (f x).size ≤ sizeLine)
    (h : ∀ h', Heap.SameBut b s.heap h' → h'.get? b = some (baOf (f x)) → Q () { s with heap := h' }) : wpAny M A (Builtin.Bytes.write (.ref b) f) Q E s := by
  show wpAny M A (updateBytearray b f) Q E s
  unfold updateBytearray
  refine wpAny_bind (wpAny_load ho ?_)
  show wpAny _ _ (update b (Obj.mapBytearray f) >>= fun _ => lookBehind b) _ _ _
  have hS : (s.heap.update b (Obj.mapBytearray f)).get? b = some (baOf (f x)) := Heap.get?_update_self (Obj.mapBytearray f) ho rfl
  refine wpAny_bind (wpAny_update ho (wpAny_lookBehind hS ?_ (h _ (Heap.SameBut.update ..) hS)))
  show (if (f x).size > sizeLine then some "bytearray:memory" else none) = none
  rw [if_neg (by lia)]
theorem ba_init {b : Addr} {n : Nat} {t : Tok} {Q : PySem.Fin → Shared → Prop} (ho : s.heap.get? b = some (baOf #[])) (hn : n ≤ 1048576)
    (h : ∀ h', Heap.SameBut b s.heap h' → h'.get? b = some (baOf (Array.replicate n 0)) → Q (.done (.ret .none)) { s with heap := h' }) :
    wpC M A (Builtin.«bytearray.__init__» ⟨[.ref b, .int n t], []⟩) Q E s := by
  have hT : s.TypeIs (.ref b) "bytearray" := ⟨_, ho, rfl⟩
  unfold Builtin.«bytearray.__init__»
  dsimp only
  refine wpC_bind (wpC_of (ba_ownRelease hT ?_))
  simp only [Bool.false_eq_true, if_false]
  refine wpC_bind (wpC_of (wpAny_of_eq (ba_bind _) ?_))
  dsimp only
  refine wpC_bind (wpC_of (wpAny_of_eq (a := ()) rfl ?_))
  refine wpC_bind (wpC_of (wpAny_of_eq (a := ()) rfl ?_))
  refine wpC_bind (wpC_bind (wpC_exported ?_))
  show wpC M A (Builtin.Bytes.exportsOf (Value.ref b) >>= fun x => pure (decide (x > 0))) _ _ _
  refine wpC_bind (wpC_of ?_)
  unfold Builtin.Bytes.exportsOf
  refine wpAny_bind (wpAny_load ho (wpAny_pure (wpC_pure ?_)))
  simp only [Nat.lt_irrefl, gt_iff_lt, decide_false, Bool.false_eq_true, if_false]
  refine wpC_of ?_
  refine wpAny_bind (ba_write ho (by simp) (fun h1 hs1 ho1 => ?_))
  have ha : asStr? (Value.int (n : Int) t) = pure none := rfl
  rw [ha]
  simp only [pure_bind, Option.isSome_none, Bool.false_eq_true, if_false]
  refine wpAny_bind ?_
  refine int_special ?_
  have hi : asIndex (.int n t) = pure (n : Int) := rfl
  have e1 : Builtin.Bytes.fitsIndex (n : Int) = true := by
    simp only [Builtin.Bytes.fitsIndex, Bool.and_eq_true, decide_eq_true_eq]; lia
  have e2 : ((n : Int) == 2 ^ 63 - 1) = false := by simp only [beq_eq_false_iff_ne, ne_eq]; lia
  have e3 : Builtin.Bytes.tooLong (n : Int).toNat = false := by
    simp only [Builtin.Bytes.tooLong, decide_eq_false_iff_not, sizeLine_eq]; lia
  simp only [Option.isSome_some, if_true]
  rw [hi]
  refine wpAny_bind ?_
  refine wpAny_attempt ?_
  refine wpAny_pure ?_
  dsimp only
  rw [e1, e2, e3]
  simp only [Bool.not_true, Bool.false_eq_true, if_false]
  rw [if_neg (by lia)]
  refine wpAny_bind (wpAny_rule ?_)
  by_cases hn0 : n = 0
  · rw [if_neg (by lia)]
    subst hn0
    exact wpAny_pure (h _ hs1 ho1)
  · rw [if_pos (by lia)]
    refine wpAny_bind (ba_write ho1 (by simp; rw [sizeLine_eq]; lia) (fun h2 hs2 ho2 => ?_))
    exact wpAny_pure (h _ (hs1.trans hs2) ho2)
end
end Mine
end
/-! part B3 -/
section
example : True := by w_top off; trivial
open PySem PySem.W PyProof.Rows HeadC
set_option maxRecDepth 100000
namespace Mine
section
variable {prog : Program} {w : World} {A : Around} {E : Value → Shared → Prop} {R : Result → Shared → Prop} {s : Shared}
theorem codeC_builtin {id : String} {args : Args} {b : Builtin} (ok : okCode (.builtin id args)) (hb : entryFor table id = some b)
    (h : wpC (model prog w) (A.under (.builtin id args)) (b args)
      (fun fin s' => match fin with | .done f => R (.ok f) s' | .again c' => c'.quiet = true ∧ codeC (model prog w) A c' R s') (fun e s' => R (.error e) s') s) :
    codeC (model prog w) A (.builtin id args) R s := by
  refine codeC_of_tree ok ?_
  show wpC _ _ (match entryFor table id with | some b => b args | none => unsupported ((withoutEnding? id "#data").getD id)) _ _ s
  rw [hb]; exact h
theorem codeC_call_builtin {id : String} {args : Args} {b : Builtin} (ok : okCode (.builtin id args)) (hq : plainId id = true) (hb : entryFor table id = some b)
    (h : wpAny (model prog w) A.in1 (checkBuiltinCall id args) (fun _ s₁ => wpC (model prog w) A.in1 (b args)
      (fun fin s' => match fin with | .done f => R (.ok f) s' | .again c' => c'.quiet = true ∧ codeC (model prog w) A c' R s') (fun e s' => R (.error e) s') s₁) (fun e s' => R (.error e) s') s) :
    codeC (model prog w) A (.call (.builtin id) args) R s := by
  refine codeC_of_tree (okCode_call _ _) ?_
  show wpC _ A.in1 (do checkBuiltinCall id args; again (.builtin id args)) _ _ s
  refine wpC_bind (wpC_mono (wpC_of h) (fun _ s₁ h₁ => wpC_pure ⟨plainId_quiet hq args, codeC_builtin ok hb ?_⟩) fun _ _ h' => h')
  rw [Around.under_plainId hq args]
  exact h₁
theorem callSpecialC {self : Value} {T : String} {name : Str} {id : String} {args : List Value}
    {Q : Option Value → Shared → Prop} (hT : s.TypeIs self T) (h : Slot T name id)
    (hc : wpC (model prog w) A (call (.builtin id) (self :: args) []) (fun v => Q (some v)) E s) : wpC (model prog w) A (callSpecial? self name args []) Q E s := by
  simp only [callSpecial?]
  refine wpC_bind (wpC_of (wpAny_specialOf hT h.lookup ?_))
  simp only [h.bind]
  exact wpC_holding (wpC_bind (wpC_pure (wpC_bind (wpC_mono hc (fun v s' h' => wpC_pure h') fun _ _ h' => h'))))
theorem ok_type_call (a : List Value) (T : String) : okCode (.builtin "type.__call__" ⟨.type T :: a, []⟩) := fun _ _ => rfl
theorem ok_ba_init (a : Addr) (l : List Value) : okCode (.builtin "bytearray.__init__" ⟨.ref a :: l, []⟩) := fun v p => by
  show (Builtin.Bytes.sameRef (.ref a) v && Builtin.Bytes.decodersThatHold.contains "bytearray.__init__") = false
  rw [show Builtin.Bytes.decodersThatHold.contains "bytearray.__init__" = false by decide +kernel, Bool.and_false]
theorem call_bytearray {n : Nat} {t : Tok} {Q : Value → Shared → Prop} (hn : n ≤ 1048576)
    (h : ∀ h', Heap.SameBut s.heap.objs.size (s.heap.push (baOf #[])) h' → h'.get? s.heap.objs.size = some (baOf (Array.replicate n 0)) → Q (.ref s.heap.objs.size) { s with heap := h' }) :
    wpC (model prog w) A (call (.type "bytearray") [.int n t]) Q E s := by
  refine wpC_call (codeC_of_tree (okCode_call _ _) ?_)
  show wpC _ _ (callAny (.type "bytearray") _) _ _ _
  refine wpC_pure ⟨Code.quiet_builtin _ (by decide +kernel), codeC_builtin (ok_type_call _ _) F.entry_type_call ?_⟩
  rw [Around.under_plain (weight_type_call_type "bytearray" [.int n t] []) (units_type_call_type "bytearray" [.int n t] [])]
  have h1 := ba_called.notType
  have h2 := ba_called.canCreate
  have h3 := ba_typeCall (.int n t)
  have h4 := ba_mro
  have h5 := ba_called.made
  unfold Builtin.«type.__call__»
  dsimp only
  rw [h1, h2]
  simp only [Bool.false_eq_true, if_false, h3, h4, h5, pure_bind, List.isEmpty_cons]
  refine wpC_bind (wpC_holding (wpC_of (wpAny_call (code_ba_new _ ?_))))
  have ho : (s.heap.push { cls := .type "bytearray", data := .bytearray #[] }).get? s.heap.objs.size = some (baOf #[]) := Heap.get?_push_size _ rfl
  have hT : ({ s with heap := s.heap.push { cls := .type "bytearray", data := .bytearray #[] } } : Shared).TypeIs (.ref s.heap.objs.size) "bytearray" := ⟨_, ho, rfl⟩
  refine wpC_bind (wpC_of (wpAny_isInstance hT ba_sub ?_))
  simp only [Bool.not_true, Bool.false_eq_true, if_false]
  refine wpC_bind (wpC_holding (callSpecialC hT ba_slot_init (wpC_call (codeC_call_builtin (ok_ba_init _ _) ba_plain_init ba_entry_init (ba_slot_init.check _ _ _ _ _ _ _ _ hT ?_ (ba_init ho hn fun h' hs hh => ?_))))))
  · unfold argsOk; kernel_rfl
  · show wpC _ _ (if (Value.none != Value.none) = true then _ else _) _ _ _
    rw [if_neg (by decide)]
    exact wpC_pure (h h' hs hh)
end
end Mine
end
/-! part B4 -/
section
open PySem PySem.W PyProof.Rows HeadC
set_option maxRecDepth 100000
namespace Mine
theorem ba_slot_set : Slot "bytearray" "__setitem__" "bytearray.__setitem__" :=
  .of (owner := "bytearray") (n := "__setitem__") (by rw [typeLookup_type, builtinLookup_eq_fast]; kernel_rfl) (by decide +kernel) (by decide +kernel) (by decide +kernel)
    (by first | exact .inl (by decide +kernel) | exact .inr (by decide +kernel)) (by rw [isSubtype_type]; kernel_rfl)
theorem ba_entry_set : entryFor table "bytearray.__setitem__" = some Builtin.«bytearray.__setitem__» := entryFor_of_tree (by kernel_rfl)
theorem ba_args_set (a b c : Value) : argsOk "bytearray.__setitem__" ⟨[a, b, c], []⟩ := by unfold argsOk; kernel_rfl
theorem ba_no_bytes : typeLookup (.type "bytearray") "__bytes__" = pure none := by rw [typeLookup_type, builtinLookup_eq_fast]; kernel_rfl
theorem ba_no_index : typeLookup (.type "bytearray") "__index__" = pure none := by rw [typeLookup_type, builtinLookup_eq_fast]; kernel_rfl
theorem ba_buffer : typeLookup (.type "bytearray") "__buffer__" = pure (some (.builtin "bytearray.__buffer__")) := by rw [typeLookup_type, builtinLookup_eq_fast]; kernel_rfl
theorem ba_ends2 : (("bytearray.__buffer__" : String).endsWith ("." ++ "__buffer__")) = true := by decide +kernel
theorem ba_drop2 : (("bytearray.__buffer__" : String).dropRight ("__buffer__".length + 1)) = "bytearray" := by decide +kernel
section
variable {M : Model} {prog : Program} {w : World} {A : Around} {E : Value → Shared → Prop} {s : Shared} {h₀ : Heap} {L : Addr} {m : Str → Option Value} {news : List (Addr × Obj)}
theorem ba_payload {b : Addr} {x : Array UInt8} {Q : Array UInt8 → Shared → Prop} (ho : s.heap.get? b = some (baOf x)) (h : Q x s) : wpAny M A (Builtin.Bytes.payload (.ref b)) Q E s := by
  unfold Builtin.Bytes.payload Builtin.Bytes.payload?
  exact wpAny_bind (wpAny_bind (wpAny_load ho (wpAny_pure (wpAny_pure h))))
theorem ba_setItem {b : Addr} {x : Array UInt8} {k : Nat} {kk : Int} {v : UInt8} {vv : Int} {t u : Tok} {Q : Unit → Shared → Prop} (ho : s.heap.get? b = some (baOf x)) (hk : kk = (k : Int)) (hv : vv = (v.toNat : Int)) (hlt : k < x.size) (hz : x.size ≤ 1048576)
    (h : ∀ h', Heap.SameBut b s.heap h' → h'.get? b = some (baOf (x.setIfInBounds k v)) → Q () { s with heap := h' }) :
    wpAny (model prog w) A (setItem (.ref b) (.int kk u) (.int vv t)) Q E s := by
  subst hk hv
  have hT : s.TypeIs (.ref b) "bytearray" := ⟨_, ho, rfl⟩
  unfold setItem
  refine wpAny_holding ?_
  refine wpAny_bind (wpAny_sequenceKey hT (by decide) ?_)
  refine wpAny_bind (wpAny_callSpecial?_slot (name := Str.ofString "__setitem__") hT ba_slot_set
    (wpAny_call_entry ba_slot_set hT ba_entry_set ?_ (ba_args_set _ _ _)))
  unfold Builtin.«bytearray.__setitem__»
  dsimp only
  unfold Builtin.Bytes.subscript?
  simp only [List.isEmpty_nil, Bool.not_true, Bool.false_eq_true, if_false, bind_assoc]
  refine wpAny_bind ?_
  refine int_special ?_
  have hi : asIndex (.int k u) = pure (k : Int) := rfl
  have e1 : Builtin.Bytes.fitsIndex (k : Int) = true := by
    simp only [Builtin.Bytes.fitsIndex, Bool.and_eq_true, decide_eq_true_eq]; lia
  simp only [Option.isNone_some, Bool.false_eq_true, if_false, hi, pure_bind, e1, Bool.not_true]
  unfold Builtin.Bytes.byteValue
  have hi2 : asIndex (.int v.toNat t) = pure (v.toNat : Int) := rfl
  have hv := v.toNat_lt
  have e2 : (decide ((v.toNat : Int) < 0) || decide ((v.toNat : Int) ≥ 256)) = false := by
    simp only [Bool.or_eq_false_iff, decide_eq_false_iff_not]; lia
  simp only [hi2, pure_bind, e2, Bool.false_eq_true, if_false]
  refine wpAny_bind (ba_payload ho ?_)
  have e3 : seqIndex? (k : Int) x.size = some k := by
    unfold seqIndex?
    dsimp only
    rw [if_neg (show ¬ (k : Int) < 0 by lia), if_pos (by simp; lia)]
    simp
  rw [e3]
  dsimp only
  refine wpAny_bind (ba_write ho (by simp; rw [sizeLine_eq]; lia) (fun h' hs hh => ?_))
  have e4 : ((v.toNat : Int).toNat.toUInt8) = v := by simp
  rw [e4] at hh
  exact wpAny_pure ⟨_, rfl, wpAny_pure (h h' hs hh)⟩
theorem ba_ownBuffer {b : Addr} {Q : Bool → Shared → Prop} (hT : s.TypeIs (.ref b) "bytearray") (h : Q true s) : wpAny M A (Builtin.Bytes.slotIsOwn (.ref b) "__buffer__") Q E s := by
  unfold Builtin.Bytes.slotIsOwn
  refine wpAny_bind (wpAny_specialOf hT ba_buffer ?_)
  dsimp only
  rw [ba_ends2, ba_drop2]
  simp only [Bool.not_true, Bool.false_eq_true, if_false]
  exact wpAny_isInstance hT ba_sub h
theorem bytes_new_ba {b : Addr} {x : Array UInt8} {Q : Value → Shared → Prop} (ho : s.heap.get? b = some (baOf x)) (hz : x.size ≤ 1048576)
    (hQ : ∀ t k, Q (.bytes x t) { s with toks := k }) :
    codeAny (model prog w) A (.call (.builtin "bytes.__new__") ⟨[.type "bytes", .ref b], []⟩) (wants Q E) s := by
  refine codeAny_of_tree ?_
  show wpAny _ A.in1 (do checkBuiltinCall "bytes.__new__" ⟨[.type "bytes", .ref b], []⟩; again (.builtin "bytes.__new__" ⟨[.type "bytes", .ref b], []⟩)) _ _ s
  refine wpAny_bind (wpAny_of_eq (F.bm_newCall _) (wpAny_pure ⟨plainId_quiet F.bm_plain _, codeAny_builtin F.bm_entry ?_⟩))
  rw [Around.under_plainId F.bm_plain _]
  have hT : s.TypeIs (.ref b) "bytearray" := ⟨_, ho, rfl⟩
  unfold Builtin.«bytes.__new__»
  refine wpAny_bind (wpAny_of_eq (a := true) rfl ?_)
  refine bm_if_false rfl ?_
  refine wpAny_bind (wpAny_of_eq F.bm_sub ?_)
  refine bm_if_false rfl ?_
  refine wpAny_bind (wpAny_of_eq (F.bm_bind _) ?_)
  refine wpAny_bind (wpAny_of_eq (a := ()) rfl ?_)
  refine wpAny_bind (wpAny_of_eq (a := ()) rfl ?_)
  refine bm_if_false rfl ?_
  refine wpAny_bind (wpAny_specialOf hT ba_no_bytes ?_)
  refine wpAny_bind (wpAny_bind ?_)
  show wpAny _ _ (load b >>= _) _ _ _
  refine wpAny_bind (wpAny_load ho ?_)
  refine wpAny_pure (wpAny_pure ?_)
  refine bm_if_false rfl ?_
  refine wpAny_bind (wpAny_specialOf hT ba_no_index ?_)
  refine bm_if_true rfl ?_
  first
    | show wpAny _ _ (Builtin.Bytes.buffer? "bytes.__new__" (.ref b) true >>= _) _ _ _
    | (refine wpAny_bind ?_; show wpAny _ _ (Builtin.Bytes.buffer? "bytes.__new__" (.ref b) true >>= _) _ _ _)
  refine wpAny_bind ?_
  unfold Builtin.Bytes.buffer?
  refine wpAny_bind (wpAny_specialOf hT ba_buffer ?_)
  dsimp only
  refine wpAny_bind (ba_ownBuffer hT ?_)
  simp only [Bool.not_true, Bool.false_eq_true, if_false]
  refine wpAny_bind (wpAny_specialOf hT ba_buffer ?_)
  refine wpAny_bind (ba_ownRelease hT ?_)
  simp only [Bool.false_eq_true, if_false]
  refine wpAny_bind (ba_payload ho (wpAny_pure ?_))
  dsimp only
  refine wpAny_bind (wpAny_rule ?_)
  refine wpAny_bind (wpAny_mkBytes ?_ (by rw [sizeLine_eq]; lia))
  show wpAny _ _ (if (Value.type "bytes" == Value.type "bytes") = true then _ else _) _ _ _
  refine bm_if_true (by decide) ?_
  exact wpAny_pure (hQ _ _)
theorem call_bytes_ba {b : Addr} {x : Array UInt8} {Q : Value → Shared → Prop} (ho : s.heap.get? b = some (baOf x)) (hz : x.size ≤ 1048576)
    (hQ : ∀ t k, Q (.bytes x t) { s with toks := k }) : wpAny (model prog w) A (call (.type "bytes") [.ref b]) Q E s := by
  refine callType_codes (Q₁ := fun obj s₁ => s₁.TypeIs obj "bytes" ∧ Q obj s₁) F.bm_called (F.bm_typeCall _) F.entry_object_init
    (bytes_new_ba ho hz fun t k => ⟨PySem.W.typeIs_bytes _ _ _, hQ t k⟩) fun obj s₁ h₁ => ?_
  exact ⟨h₁.1, F.args_object_init_2 obj _, object_init_meets F.bm_called.init.lookup F.bm_called.made (by decide) prog w A.in1 _ s₁ ⟨h₁.1, rfl, h₁.2⟩⟩
end
end Mine
end
/-! part B5 -/
section
example : True := by w_top off; trivial
open PySem PySem.W PyProof.Rows HeadC
set_option maxRecDepth 100000
namespace Mine
theorem new_at {h₀ h h' : Heap} {L : Addr} {m : Str → Option Value} {news : List (Addr × Obj)} {o o' : Obj} (F : Fr h₀ L h m) (N : News h₀ L h news) (hs : Heap.SameBut h.objs.size (h.push o) h') (ho : h'.get? h.objs.size = some o') :
    Fr h₀ L h' m ∧ News h₀ L h' ((h.objs.size, o') :: news) ∧ ∀ p ∈ news, p.1 < h.objs.size := by
  have hL : h.objs.size ≠ L := Nat.ne_of_gt F.ns.lt
  have h0 := next_is_new F
  refine ⟨(F.push o).change hs hL h0, fun p hp => ?_, fun p hp => Heap.lt_size (N p hp).1⟩
  rcases List.mem_cons.mp hp with rfl | hp
  · exact ⟨ho, hL, h0⟩
  · exact ⟨(hs.2 _ (Nat.ne_of_lt (Heap.lt_size (N p hp).1))).trans (Heap.get?_push_of_some _ (N p hp).1), (N p hp).2⟩
theorem call_bytearrayN {prog : Program} {w : World} {A : Around} {E : Value → Shared → Prop} {s : Shared} {h₀ : Heap} {L : Addr} {m : Str → Option Value} {news : List (Addr × Obj)} {n : Nat} {t : Tok} {Q : Value → Shared → Prop} (F : Fr h₀ L s.heap m) (N : News h₀ L s.heap news) (hn : n ≤ 1048576)
    (h : ∀ D h', Fr h₀ L h' m → News h₀ L h' ((D, baOf (Array.replicate n 0)) :: news) → (∀ p ∈ news, p.1 < D) → Q (.ref D) { s with heap := h' }) :
    wpC (model prog w) A (call (.type "bytearray") [.int n t]) Q E s :=
  call_bytearray hn fun h' hs ho => h _ h' (new_at F N hs ho).1 (new_at F N hs ho).2.1 (new_at F N hs ho).2.2
theorem ba_setN {prog : Program} {w : World} {A : Around} {E : Value → Shared → Prop} {s : Shared} {h₀ : Heap} {L : Addr} {m : Str → Option Value} {news : List (Addr × Obj)} {g : Obj → List (Addr × Obj)} {b : Addr} {x : Array UInt8} {k : Nat} {kk : Int} {v : UInt8} {vv : Int} {t u : Tok} {Q : Unit → Shared → Prop}
    (F : Fr h₀ L s.heap m) (N : News h₀ L s.heap news) (U : UpdF b (baOf x) news g) (hk : kk = (k : Int)) (hv : vv = (v.toNat : Int)) (hlt : k < x.size) (hz : x.size ≤ 1048576)
    (h : ∀ h', Fr h₀ L h' m → News h₀ L h' (g (baOf (x.setIfInBounds k v))) → Q () { s with heap := h' }) :
    wpAny (model prog w) A (setItem (.ref b) (.int kk u) (.int vv t)) Q E s := by
  try ((fail_if_success (with_reducible show Gz)); with_reducible (first | (refine letW ?_; intro Gz) | (refine letWC ?_; intro Gz)))
  refine Mine.E2 ?_ U.split
  intro pre post
  refine Mine.A4 ?_
  intro hR1
  subst hR1
  intro hg c1
  intro c2
  have hm := N (b, baOf x) (List.mem_append_right _ (.head _))
  refine ba_setItem hm.1 hk hv hlt hz fun h' hs ho => ?_
  exact h h' (F.change hs hm.2.1 hm.2.2) (hg _ ▸ N.setIn c1 c2 hs ho)
theorem bytes_at {prog : Program} {w : World} {A : Around} {E : Value → Shared → Prop} {s : Shared} {value slice : PySem.Expr} {d : Array UInt8} {k : Nat} {kk : Int} {t u : Tok} {Q : Value → Shared → Prop} (hk : kk = (k : Int)) (hlt : k < d.size) (hz : d.size ≤ 1048576)
    (h : Q (.int (d.getD k 0).toNat s.toks) { s with toks := s.toks + 1 })
    (hs : subscripted slice false (.bytes d t) (.int kk u) = operate [.bytes d t, .int kk u] (getItem (.bytes d t) (.int kk u)) := by with_unfolding_all rfl)
    (ht : ∀ r, letTemporaryGo value (.bytes d t) r = pure () := by intro _; with_unfolding_all rfl) :
    wpAny (model prog w) A (subscriptTail value slice (.bytes d t) (.int kk u)) Q E s := by
  subst hk
  refine subscriptTail_builtin (typeIs_bytes _ _ _) FB.slot_bytes_getitem.lookup ?_ hs ht
  have := getItem_bytes (prog := prog) (w := w) (A := A) (E := E) (s := s) (t := t) (u := u) (l := d.toList) (i := (k : Int)) (Q := Q) (by simp; lia) (by lia) (by simp; lia) (by
    have e : d.toList.getD (k : Int).toNat 0 = d.getD k 0 := by simp [Array.getD, hlt]
    rw [e]; exact h)
  simpa using this
theorem LoopSrcT.weak {prog : Program} {w : World} {A : Around} {h₀ : Heap} {L : Addr} {m : Str → Option Value} {news fx : List (Addr × Obj)} {n : Nat} {P : Nat → Value → Prop} {s s₂ : Shared} {it : Value} (h : LoopSrcT prog w A h₀ L m news fx n P s it s₂) :
    LoopSrc prog w A h₀ L m news fx n P s it s₂ := by
  try ((fail_if_success (with_reducible show Gz)); with_reducible (first | (refine letW ?_; intro Gz) | (refine letWC ?_; intro Gz)))
  refine Mine.E4 ?_ h
  clear h
  intro I St h₂ tk₂
  refine Mine.A8 ?_
  intro a1 a2 a3 a4 a5 a6 a7
  refine Mine.A5 ?_
  intro a8 a9 b1 b2
  intro b3
  exact Mine.I4 I St h₂ tk₂ ⟨a1, a2, a3, a4, a5, a6, a7, a8, a9, b1, b2, fun i h hi => (b3 i h hi).imp fun _ x => x.1⟩
theorem src_range {prog : Program} {w : World} {A : Around} {s : Shared} {h₀ : Heap} {m : Str → Option Value} {news : List (Addr × Obj)} {E : Value → Shared → Prop} {L r : Addr} {a b c : Int} {t u v : Tok} (hh : A.handled = none) (F : Fr h₀ L s.heap m) (N : News h₀ L s.heap news) (hr : IsRange s.heap r a b c t u v) (hsmall : Builtin.Range.small a b c = true) {n : Nat} (hn : Builtin.Range.rangeSize a b c = n) :
    wpAny (model prog w) A (pyIter (.ref r)) (LoopSrc prog w A h₀ L m news [] n (fun i v => ∃ t, v = .int (a + i * c) t) s) E s :=
  wpAny_mono (srcT_range hh F N hr hsmall hn) (fun _ _ h => h.weak) fun _ _ e => e
theorem k_fill_nowB5 {w : World} : ∃ _ : Challenge.rw_pd0166_01 = Challenge.rw_pd0166_01, hd.heap_1 w.params = hd.heap_1 w.params := by
  k_fill
  exact ⟨rfl, rfl⟩
noncomputable def bswI (d : Array UInt8) (wd i n : Nat) (a : Array UInt8) : Array UInt8 := (List.range n).foldl (fun a j => a.setIfInBounds (i + wd - 1 - j) (d.getD (i + j) 0)) a
noncomputable def bsw (d : Array UInt8) (wd n : Nat) : Array UInt8 := (List.range n).foldl (fun a q => bswI d wd (q * wd) wd a) (Array.replicate d.size 0)
theorem bswI_succ (d : Array UInt8) (wd i n : Nat) (a : Array UInt8) : bswI d wd i (n + 1) a = (bswI d wd i n a).setIfInBounds (i + wd - 1 - n) (d.getD (i + n) 0) := by
  unfold bswI; rw [List.range_succ, List.foldl_append]; rfl
theorem bsw_succ (d : Array UInt8) (wd n : Nat) : bsw d wd (n + 1) = bswI d wd (n * wd) wd (bsw d wd n) := by
  unfold bsw; rw [List.range_succ, List.foldl_append]; rfl
theorem bswI_size (d : Array UInt8) (wd i n : Nat) (a : Array UInt8) : (bswI d wd i n a).size = a.size := by
  induction n with
  | zero => rfl
  | succ n ih => rw [bswI_succ]; simp [ih]
theorem bsw_size (d : Array UInt8) (wd n : Nat) : (bsw d wd n).size = d.size := by
  induction n with
  | zero => simp [bsw]
  | succ n ih => rw [bsw_succ, bswI_size, ih]
theorem callWithC_type {M : Model} {A : Around} {E : Value → Shared → Prop} {s : Shared} {env : Env} {T : String} {first : List Value} {pos : Pos} {e : Expr} {rest : List Expr} {Q : Value → Shared → Prop}
    (h : wpAny M A (spliced (backTo pos (starEach (e :: rest) env))) (fun vs s₁ => wpC M A (call (.type T) (first ++ vs)) Q E s₁) E s)
    (he : starEach (e :: rest) env = (false, eval e env) :: starEach rest env := by rfl) (hplain : (backTo pos (starEach rest env)).any (·.1) = false := by rfl) :
    wpC M A (callWith pos (.type T) first (backTo pos (starEach (e :: rest) env)) []) Q E s := by
  rw [he] at h ⊢
  have hpl : (((backTo pos ((false, eval e env) :: starEach rest env)).any (·.1)) || ([] : List (Option Str × Sem Value)).any (·.1.isNone)) = false := by
    show ((false || (backTo pos (starEach rest env)).any (·.1)) || false) = false; rw [hplain]; rfl
  have h' : wpAny M A (evalArgs (.type T) true (backTo pos ((false, eval e env) :: starEach rest env)) []) (fun a s₁ => wpC M A (call (.type T) (first ++ a.pos) a.kw) Q E s₁) E s := Calls.evalArgs_plain h
  unfold callWith
  refine wpC_bind (wpC_of (wpAny_holding (wpAny_mono h' (fun a s₁ h₁ => wpC_bind (wpC_standAt ?_)) fun _ _ x => x)))
  simp only [hpl]
  refine wpC_bind (wpC_pure ?_)
  exact wpC_bind (wpC_mono h₁ (fun r s₂ hr => wpC_bind (wpC_holding (wpC_of (wpAny_point (wpC_pure hr))))) fun _ _ x => x)
set_option maxHeartbeats 8000000 in
theorem c_byteswap {prog : Program} {w : World} {mean : ExcName → Option Value} {mg mb : Str → Option Value} {news : List (Addr × Obj)} {d : Array UInt8} {wd q : Nat} {t u : Tok} (hq : d.size = q * wd) (hw : 0 < wd) (hw2 : wd < 1000) (hz : d.size < 1000) (hs1 : Builtin.Range.small 0 d.size wd = true) (hs2 : Builtin.Range.rangeSize 0 d.size wd = q) (hs3 : Builtin.Range.small 0 wd 1 = true) (hs4 : Builtin.Range.rangeSize 0 wd 1 = wd) :
    CallD prog w mean mg mb 1 169 [.bytes d t, .int wd u] news (fun r news' => (∃ t', r = .bytes (bsw d wd q) t') ∧ news' = news) := by
  intro dp un gd cn cs a ccd cl outer A₀ base h₀ L m s Q E B F X N T hk hdp hun hret
  refine wpC_call ?_
  k_dflt (refine' code_defC' ?k1 ?k2 ?k3 ?k4 ?k5 ?kA ?kF ?kK ?k6 ?k7 ?k8 ?k9 ?kB ?_ ?c2 ?c3 ?c4 ?c5; (case kA => exact rfl); (case kF => exact rfl); (case kK => assumption); (case k1 => k_asm); (case k2 => k_asm); (case k3 => k_asm); (case k4 => k_asm); (case k5 => k_asm); (case k6 => k_is); (case k7 => k_is); (case k8 => ktr_room); (case k9 => exact BindsTo.of_eq rfl); (case c5 => decide); (case kB => exact locs rfl); (case c2 => exact rfl); (case c3 => exact rfl); (case c4 => exact rfl); k_whole; intro _ _ _ _ _ _ _ _ _; (try dsimp only); (try k_fold))
  rename_i g' L' h' FG F' N' B' X' T'
  (first | refine letEnv ?_ | refine letEnvC ?_); intro Az envz Qz Ez
  refine execsC_cons (AssignC (CallC_eval ?_))
  iterate 1 walk1
  refine callWithC_type ?_
  (repeat ((fail_if_success (with_reducible show wpC _ _ _ _ _ _)); walk1))
  (rename Fr g' L' h' _ => F1)
  refine call_bytearrayN F1 N' (by lia) (fun D h2 F2 N2 l2 => ?_)
  refine wpC_of ?_
  iterate 1 walk1
  rename_i h3 F3 N3
  dsimp only
  refine wpC_of ?_
  (repeat ((fail_if_success (with_reducible show wpAny _ _ (PySem.exec (Stmt.For _ _ _ _ _) _) _ _ _)); walk1))
  refine wpAny_For ?_
  (repeat ((fail_if_success (with_reducible show wpAny _ _ (PySem.call (Value.type _) _) _ _ _)); walk1))
  (rename Fr g' L' _ _ => F3)
  refine range3_rows F3 N3 (by lia) ?_ (Or.inl (PyProof.noPylong_small (by lia)))
  intro h4 tk4 t1 u1 v1 hr4 F4 N4 k4
  dsimp only
  refine iter_loop (fun i m1 news1 => news1 = (D, baOf (bsw d wd i)) :: news ∧ Has m1 [("data", .bytes d t), ("width", .int wd u), ("swapped_data", .ref D)])
    (fun m1 news1 => news1 = (D, baOf (bsw d wd q)) :: news ∧ Has m1 [("swapped_data", .ref D)])
    (src_range rfl F4 N4 hr4 hs1 hs2) (fun _ h => nomatch h) ?_ ?_ ?_ ?_
  · exact ⟨rfl, rfl, rfl, rfl, trivial⟩
  · rintro i v m1 news1 h5 tk5 I oI hi hz9 hlt hnI hz12 F5 N5
    try ((fail_if_success (with_reducible show Gz)); with_reducible (first | (refine letW ?_; intro Gz) | (refine letWC ?_; intro Gz)))
    obtain ⟨ti, rfl⟩ := hz9
    obtain ⟨rfl, hm⟩ := hz12
    try ((fail_if_success (with_reducible show wpAny _ _ _ Qz _ _)); with_reducible (first | (refine letQ ?_; intro Qz) | (refine letQC ?_; intro Qz)))
    try ((fail_if_success (with_reducible show wpAny _ _ _ _ _ Sz)); with_reducible (first | (refine letS ?_; intro Sz) | (refine letSC ?_; intro Sz)))
    refine frsG F5 (l := [("i", .int (0 + (i : Int) * wd) ti), ("data", .bytes d t), ("width", .int wd u), ("swapped_data", .ref D)]) ⟨rfl, hm.1, hm.2.1, hm.2.2.1, trivial⟩ ?_; clear F5; intro _ F5
    (repeat ((fail_if_success (with_reducible show wpAny _ _ (PySem.exec (Stmt.For _ _ _ _ _) _) _ _ _)); walk1))
    refine wpAny_For ?_
    (repeat ((fail_if_success (with_reducible show wpAny _ _ (PySem.call (Value.type _) _) _ _ _)); walk1))
    (rename Fr g' _ h5 _ => F5)
    refine range1_rows F5 N5 ?_
    intro h6 tk6 t6 u6 v6 hr6 F6 N6 k6
    try dsimp only
    have hID : D ≠ I := Nat.ne_of_lt (hlt _ (.head _))
    have hIn : ∀ p ∈ news, p.1 ≠ I := fun p hp => hnI p (.tail _ hp)
    have hDn : ∀ p ∈ news, p.1 ≠ D := fun p hp => Nat.ne_of_lt (l2 p hp)
    refine iter_loop (fun j m1 news1 => news1 = (I, oI) :: (D, baOf (bswI d wd (i * wd) j (bsw d wd i))) :: news ∧ Has m1 [("i", .int (0 + (i : Int) * wd) ti), ("data", .bytes d t), ("width", .int wd u), ("swapped_data", .ref D)])
      (fun m1 news1 => news1 = (I, oI) :: (D, baOf (bsw d wd (i + 1))) :: news ∧ Has m1 [("data", .bytes d t), ("width", .int wd u), ("swapped_data", .ref D)])
      (src_range rfl F6 N6 hr6 hs3 hs4) (fun _ h => nomatch h) ?_ ?_ ?_ ?_
    · exact ⟨rfl, rfl, rfl, rfl, rfl, trivial⟩
    · rintro j v m1 news1 h7 tk7 J oJ hj hz9 hltJ hnJ hz12 F7 N7
      try ((fail_if_success (with_reducible show Gz)); with_reducible (first | (refine letW ?_; intro Gz) | (refine letWC ?_; intro Gz)))
      obtain ⟨tj, rfl⟩ := hz9
      obtain ⟨rfl, hmj⟩ := hz12
      try ((fail_if_success (with_reducible show wpAny _ _ _ Qz _ _)); with_reducible (first | (refine letQ ?_; intro Qz) | (refine letQC ?_; intro Qz)))
      try ((fail_if_success (with_reducible show wpAny _ _ _ _ _ Sz)); with_reducible (first | (refine letS ?_; intro Sz) | (refine letSC ?_; intro Sz)))
      refine frsG F7 (l := [("j", .int (0 + (j : Int) * 1) tj), ("i", .int (0 + (i : Int) * wd) ti), ("data", .bytes d t), ("width", .int wd u), ("swapped_data", .ref D)]) ⟨rfl, hmj.1, hmj.2.1, hmj.2.2.1, hmj.2.2.2.1, trivial⟩ ?_; clear F7; intro _ F7
      have hle : i * wd + wd ≤ d.size := by
        rw [hq, ← Nat.succ_mul]; exact Nat.mul_le_mul_right _ hi
      have hsz := bswI_size d wd (i * wd) j (bsw d wd i)
      rw [bsw_size] at hsz
      have hiw : ((i : Int) * wd) = ((i * wd : Nat) : Int) := by simp
      rw [hiw] at F7
      iterate 8 walk1
      refine bytes_at (k := i * wd + j) (by lia) (by lia) (by lia) ?_
      iterate 11 walk1
      have hDJ : J ≠ D := fun e => hnJ _ (.tail _ (.head _)) e.symm
      have hcast : ((0 : Int) + ((i * wd : Nat) : Int) + (wd : Int) - 1 - (0 + (j : Int) * 1)) = ((i * wd + wd - 1 - j : Nat) : Int) := by lia
      refine ba_setN F7 N7 (.tail hDJ (.tail (Ne.symm hID) (.head hDn))) hcast rfl (by rw [hsz]; lia) (by rw [hsz]; lia) ?_
      intro h8 F8 N8
      rw [← bswI_succ] at N8
      refine wpAny_execs_nil ?_
      refine Mine.I4 _ _ _ _ ⟨rfl, F8, N8, ?_, rfl, rfl, rfl, rfl, rfl, trivial⟩
      intro p hp
      rcases List.mem_cons.mp hp with rfl | hp
      · exact hnJ (I, oI) (.head _)
      · rcases List.mem_cons.mp hp with rfl | hp
        · exact hDJ.symm
        · exact hnJ p (.tail _ (.tail _ hp))
    · rintro m1 news1 hz2
      try ((fail_if_success (with_reducible show Gz)); with_reducible (first | (refine letW ?_; intro Gz) | (refine letWC ?_; intro Gz)))
      obtain ⟨rfl, hmj⟩ := hz2
      try ((fail_if_success (with_reducible show wpAny _ _ _ Qz _ _)); with_reducible (first | (refine letQ ?_; intro Qz) | (refine letQC ?_; intro Qz)))
      try ((fail_if_success (with_reducible show wpAny _ _ _ _ _ Sz)); with_reducible (first | (refine letS ?_; intro Sz) | (refine letSC ?_; intro Sz)))
      exact ⟨by rw [bsw_succ], hmj.2.1, hmj.2.2.1, hmj.2.2.2.1, trivial⟩
    · rintro m1 news1 h7 tk7 F7 N7 hz6
      try ((fail_if_success (with_reducible show Gz)); with_reducible (first | (refine letW ?_; intro Gz) | (refine letWC ?_; intro Gz)))
      obtain ⟨rfl, hmj⟩ := hz6
      try ((fail_if_success (with_reducible show wpAny _ _ _ Qz _ _)); with_reducible (first | (refine letQ ?_; intro Qz) | (refine letQC ?_; intro Qz)))
      try ((fail_if_success (with_reducible show wpAny _ _ _ _ _ Sz)); with_reducible (first | (refine letS ?_; intro Sz) | (refine letSC ?_; intro Sz)))
      refine wpAny_execs_nil ?_
      refine Mine.I4 _ _ _ _ ⟨rfl, F7, N7, ?_, rfl, hmj⟩
      intro p hp
      rcases List.mem_cons.mp hp with rfl | hp
      · exact hID
      · exact hIn p hp
  · rintro m1 news1 hz2
    try ((fail_if_success (with_reducible show Gz)); with_reducible (first | (refine letW ?_; intro Gz) | (refine letWC ?_; intro Gz)))
    obtain ⟨rfl, hm⟩ := hz2
    try ((fail_if_success (with_reducible show wpAny _ _ _ Qz _ _)); with_reducible (first | (refine letQ ?_; intro Qz) | (refine letQC ?_; intro Qz)))
    try ((fail_if_success (with_reducible show wpAny _ _ _ _ _ Sz)); with_reducible (first | (refine letS ?_; intro Sz) | (refine letSC ?_; intro Sz)))
    exact ⟨rfl, hm.2.2⟩
  · rintro m1 news1 h5 tk5 F5 N5 hz6
    try ((fail_if_success (with_reducible show Gz)); with_reducible (first | (refine letW ?_; intro Gz) | (refine letWC ?_; intro Gz)))
    obtain ⟨rfl, hm⟩ := hz6
    try ((fail_if_success (with_reducible show wpAny _ _ _ Qz _ _)); with_reducible (first | (refine letQ ?_; intro Qz) | (refine letQC ?_; intro Qz)))
    try ((fail_if_success (with_reducible show wpAny _ _ _ _ _ Sz)); with_reducible (first | (refine letS ?_; intro Sz) | (refine letSC ?_; intro Sz)))
    refine frsG F5 hm ?_; clear F5; intro _ F5
    (repeat ((fail_if_success (with_reducible show wpAny _ _ (PySem.call (Value.type _) _) _ _ _)); walk1))
    refine call_bytes_ba (N5 _ (.head _)).1 (by rw [bsw_size]; lia) (fun t9 k9 => ?_)
    exact leaveK_ F5 (news' := news) (fun p hp => N5 p (.tail _ hp)) (fun F N => hret _ _ _ _ F N ⟨⟨_, rfl⟩, rfl⟩)
end Mine
end
/-! part Q3 -/
section
open PySem PySem.W PyProof.Rows HeadC
set_option maxRecDepth 100000
namespace Mine
section
variable {prog : Program} {w : World} {A : Around} {E : Value → Shared → Prop} {s : Shared} {h₀ : Heap} {m : Str → Option Value} {news : List (Addr × Obj)} {env : Env} {fx : List (Addr × Obj)} {n : Nat} {P : Nat → Value → Prop}
/-- as iter_loop, for any target -/
theorem iter_loopT {v : Value} {target : Expr} {body : List Stmt} {Q : Flow → Shared → Prop} (J : Nat → (Str → Option Value) → List (Addr × Obj) → Prop) (X : (Str → Option Value) → List (Addr × Obj) → Prop)
    (src : wpAny (model prog w) A (pyIter v) (LoopSrcT prog w A h₀ env.locals m news fx n P s) (fun _ _ => False) s)
    (hfx : ∀ p ∈ fx, h₀.get? p.1 = some p.2 ∨ ∀ i m₁ news₁, J i m₁ news₁ → p ∈ news₁)
    (hJ : J 0 m news)
    (turn : ∀ i v m₁ news₁ h tk I oI, i < n → P i v → (∀ p ∈ news, p.1 < I) → (∀ p ∈ news₁, p.1 ≠ I) → J i m₁ news₁ → Fr h₀ env.locals h m₁ → News h₀ env.locals h ((I, oI) :: news₁) →
      wpAny (model prog w) A (assign target env v) (fun _ s₃ => wpAny (model prog w) A (execs body env) (FStep h₀ env.locals s I oI (J (i + 1)) X) (fun _ _ => False) s₃) (fun _ _ => False) { s with heap := h, toks := tk })
    (stop : ∀ m₁ news₁, J n m₁ news₁ → X m₁ news₁)
    (done : ∀ m₁ news₁ h₁ tk₁, Fr h₀ env.locals h₁ m₁ → News h₀ env.locals h₁ news₁ → X m₁ news₁ → Q .next { s with heap := h₁, toks := tk₁ }) :
    wpAny (model prog w) A (pyIter v) (fun it s₂ => codeAny (model prog w) A (.forLoop target it body [] env) (fun r s' => match r with | .ok f => Q f s' | .error e => cameBackBy (model prog w) A env E e s') s₂) E s := by
  refine wpAny_noRaise (wpAny_mono src (fun it s₂ hs => ?_) fun _ _ e => e)
  try ((fail_if_success (with_reducible show Gz)); with_reducible (first | (refine letW ?_; intro Gz) | (refine letWC ?_; intro Gz)))
  refine Mine.E4 ?_ hs
  clear hs
  intro I St h₂ tk₂
  refine Mine.A8 ?_
  intro hR1
  subst hR1
  intro hR2
  subst hR2
  intro W hst F N hfix
  refine Mine.A5 ?_
  intro hIL hI0 hlt hne
  intro hSt
  refine codeAny_forLoop_any (fun k s' => ∃ h' tk m' news' i, s' = { s with heap := h', toks := tk } ∧ St i h' ∧ Fr h₀ env.locals h' m' ∧ News h₀ env.locals h' news' ∧ J i m' news' ∧ i ≤ n ∧ k = n - i ∧ (∀ p ∈ news', p.1 ≠ I) ∧ (∀ p ∈ fx, h'.get? p.1 = some p.2)) ?_ (n - 0)
    (Mine.I5 h₂ tk₂ m news 0 ⟨rfl, hst, F, N, hJ, Nat.zero_le _, rfl, (fun p hp => Nat.ne_of_lt (hlt p hp)), hfix⟩)
  rintro k s' hz2
  try ((fail_if_success (with_reducible show Gz)); with_reducible (first | (refine letW ?_; intro Gz) | (refine letWC ?_; intro Gz)))
  refine Mine.E5 ?_ hz2
  clear hz2
  intro h' tk m' news' i
  refine Mine.A8 ?_
  intro hR3
  subst hR3
  intro hst' F' N' hJ' hi hR4
  subst hR4
  refine And.elim ?_
  intro hnI
  intro hfix'
  try ((fail_if_success (with_reducible show wpAny _ _ _ Qz _ _)); with_reducible (first | (refine letQ ?_; intro Qz) | (refine letQC ?_; intro Qz)))
  try ((fail_if_success (with_reducible show wpAny _ _ _ _ _ Sz)); with_reducible (first | (refine letS ?_; intro Sz) | (refine letSC ?_; intro Sz)))
  have moveF : ∀ {h''}, (∀ b o, b ∉ [I] → h'.get? b = some o → h''.get? b = some o) → Fr h₀ env.locals h'' m' := fun hk => by
    try ((fail_if_success (with_reducible show Gz)); with_reducible (first | (refine letW ?_; intro Gz) | (refine letWC ?_; intro Gz)))
    refine Mine.E3 ?_ F'.ns
    intro oL e1 e2
    refine And.elim ?_
    intro hoL
    intro r
    exact ⟨Mine.I3 oL e1 e2 ⟨hk _ _ (by simpa using fun q => hIL q.symm) hoL, r⟩, fun b o e => hk _ _ (by intro q; rw [List.mem_singleton.mp q, hI0] at e; cases e) (F'.keep b o e), F'.above⟩
  by_cases hin : i < n
  · refine wpAny_mono (W.item i _ (fun r s₁ => ∃ v h₁ tk₁, r = some v ∧ s₁ = { s with heap := h₁, toks := tk₁ } ∧ P i v ∧ St (i + 1) h₁ ∧ (∀ b o, b ∉ [I] → h'.get? b = some o → h₁.get? b = some o)) (fun _ _ => False) hin hst' fun v h₁ tk₁ hP hs₁ hk => Mine.I3 v h₁ tk₁ ⟨rfl, rfl, hP, hs₁, hk⟩) (fun r s₁ hr => ?_) (fun _ _ e => e.elim)
    try ((fail_if_success (with_reducible show Gz)); with_reducible (first | (refine letW ?_; intro Gz) | (refine letWC ?_; intro Gz)))
    refine Mine.E3 ?_ hr
    clear hr
    intro v h₁ tk₁
    refine Mine.A5 ?_
    intro hR5
    subst hR5
    intro hR6
    subst hR6
    intro hP hs₁
    intro hk
    have F₁ := moveF hk
    have N₁ : News h₀ env.locals h₁ news' := fun p hp => ⟨hk _ _ (by simpa using hnI p hp) (N' p hp).1, (N' p hp).2⟩
    have fix₁ : ∀ p ∈ fx, h₁.get? p.1 = some p.2 := fun p hp => hk _ _ (by simpa using hne p hp) (hfix' p hp)
    try ((fail_if_success (with_reducible show Gz)); with_reducible (first | (refine letW ?_; intro Gz) | (refine letWC ?_; intro Gz)))
    refine Exists.elim (hSt _ _ hs₁) ?_
    intro oI₁
    refine And.elim ?_
    intro hoI₁
    intro hown
    have NI : News h₀ env.locals h₁ ((I, oI₁) :: news') := fun p hp => by
      rcases List.mem_cons.mp hp with rfl | hp
      · exact ⟨hoI₁, hIL, hI0⟩
      · exact N₁ p hp
    refine letOwned hoI₁ hown ?_
    refine wpAny_mono (turn i v m' news' h₁ _ I oI₁ hin hP hlt hnI hJ' F₁ NI) (fun _ s₃ h₃ => wpAny_mono h₃ (fun f s₃ hf => ?_) (fun _ _ e => e.elim)) (fun _ _ e => e.elim)
    have fin : FStep h₀ env.locals s I oI₁ (J (i + 1)) X .next s₃ → ∃ k, k < n - i ∧ ∃ h' tk m' news' i, s₃ = { s with heap := h', toks := tk } ∧ St i h' ∧ Fr h₀ env.locals h' m' ∧ News h₀ env.locals h' news' ∧ J i m' news' ∧ i ≤ n ∧ k = n - i ∧ (∀ p ∈ news', p.1 ≠ I) ∧ (∀ p ∈ fx, h'.get? p.1 = some p.2) := by
      rintro hz0
      try ((fail_if_success (with_reducible show Gz)); with_reducible (first | (refine letW ?_; intro Gz) | (refine letWC ?_; intro Gz)))
      refine Mine.E4 ?_ hz0
      clear hz0
      intro h₄ tk₄ m₄ news₄
      refine Mine.A5 ?_
      intro hR7
      subst hR7
      intro F₄ N₄ hne₄
      intro J₄
      try ((fail_if_success (with_reducible show wpAny _ _ _ Qz _ _)); with_reducible (first | (refine letQ ?_; intro Qz) | (refine letQC ?_; intro Qz)))
      try ((fail_if_success (with_reducible show wpAny _ _ _ _ _ Sz)); with_reducible (first | (refine letS ?_; intro Sz) | (refine letSC ?_; intro Sz)))
      have fix₄ : ∀ p ∈ fx, h₄.get? p.1 = some p.2 := fun p hp => by
        rcases hfx p hp with h | h
        · exact F₄.keep _ _ h
        · exact (N₄ p (.tail _ (h _ _ _ J₄))).1
      refine ⟨n - (i + 1), ⟨by omega, Mine.I5 h₄ tk₄ m₄ news₄ (i + 1) ⟨rfl, W.frame _ _ _ hs₁ fun b hb o e => ?_, F₄, fun p hp => N₄ p (.tail _ hp), J₄, hin, rfl, hne₄, fix₄⟩⟩⟩
      rcases List.mem_cons.mp hb with rfl | hb
      · rw [hoI₁] at e; cases e; exact (N₄ _ (.head _)).1
      · try ((fail_if_success (with_reducible show Gz)); with_reducible (first | (refine letW ?_; intro Gz) | (refine letWC ?_; intro Gz)))
        refine Exists.elim (List.mem_map.mp hb) ?_
        intro p
        refine And.elim ?_
        intro hp
        intro hR8
        subst hR8
        rw [fix₁ p hp] at e; cases e; exact fix₄ p hp
    cases f with
    | next => exact fin hf
    | cont => exact fin hf
    | brk =>
      try ((fail_if_success (with_reducible show Gz)); with_reducible (first | (refine letW ?_; intro Gz) | (refine letWC ?_; intro Gz)))
      refine Mine.E4 ?_ hf
      clear hf
      intro h₄ tk₄ m₄ news₄
      refine Mine.A4 ?_
      intro hR9
      subst hR9
      intro F₄ N₄
      intro x₄
      exact done _ _ _ _ F₄ N₄ x₄
    | ret v => exact hf.elim
  · have hin' : i = n := by omega
    subst hin'
    refine wpAny_mono (W.done _ (fun r s₁ => ∃ h₁ tk₁, r = none ∧ s₁ = { s with heap := h₁, toks := tk₁ } ∧ (∀ b o, b ∉ [I] → h'.get? b = some o → h₁.get? b = some o)) (fun _ _ => False) hst' fun h₁ tk₁ hk => Mine.I2 h₁ tk₁ ⟨rfl, rfl, hk⟩) (fun r s₁ hr => ?_) (fun _ _ e => e.elim)
    try ((fail_if_success (with_reducible show Gz)); with_reducible (first | (refine letW ?_; intro Gz) | (refine letWC ?_; intro Gz)))
    refine Mine.E2 ?_ hr
    clear hr
    intro h₁ tk₁
    refine Mine.A3 ?_
    intro hR10
    subst hR10
    intro hR11
    subst hR11
    intro hk
    refine wpAny_execs_nil ?_
    exact done _ _ _ _ (moveF hk) (fun p hp => ⟨hk _ _ (by simpa using hnI p hp) (N' p hp).1, (N' p hp).2⟩) (stop _ _ hJ')
end
end Mine
end
/-! part C4 -/
section
open PySem PySem.W PyProof.Rows HeadC
set_option maxRecDepth 100000
namespace Mine
/-! ### set comprehensions (one Name target, no tests) -/
theorem turn_set (elt target iter : Expr) (ifs : List Expr) (scope : Scope) (pos : Pos) (it acc : Value) (env : Env) :
    compTurn (.SetComp elt [⟨target, iter, ifs, 0⟩] scope pos) 0 it acc env = (do
      standAt iter.pos
      match ← pyNext it with
      | none => pure (.done .next)
      | some v =>
        letOwnedTupleGo target it v
        assign target env v
        let mut ok := true
        for c in ifs do
          if ok then ok ← isTrue c env (eval c env)
        if ok then
          (do let v ← eval elt env; standAt elt.pos; let _ ← call (.builtin "set.add") [acc, v])
        again (.compLoop (.SetComp elt [⟨target, iter, ifs, 0⟩] scope pos) 0 it acc env)) := by rfl
section
variable {prog : Program} {w : World} {A : Around} {E : Value → Shared → Prop} {R : Result → Shared → Prop} {s : Shared}
theorem loop_set {elt target iter : Expr} {scope : Scope} {pos : Pos} {it acc : Value} {env : Env} (I : Nat → Shared → Prop)
    (turn : ∀ n s, I n s → wpAny (model prog w) A (pyNext it) (fun r s₁ => match r with
      | none => R (.ok .next) s₁
      | some v => wpAny (model prog w) A (assign target env v) (fun _ s₂ => wpAny (model prog w) A (eval elt env) (fun x s₄ =>
              wpAny (model prog w) A (call (.builtin "set.add") [acc, x]) (fun _ s₅ => ∃ m, m < n ∧ I m s₅) (fun _ _ => False) s₄) (fun _ _ => False) s₂) (fun _ _ => False) s₁) (fun _ _ => False) s)
    (n : Nat) (h : I n s) (ht : ∀ v, letOwnedTupleGo target it v = pure () := by intro _; rfl) :
    codeAny (model prog w) A (.compLoop (.SetComp elt [⟨target, iter, [], 0⟩] scope pos) 0 it acc env) R s := by
  refine codeAny_loop rfl I (fun n s hI => ?_) n h
  show wpAny _ A ((compTurn (.SetComp elt [⟨target, iter, [], 0⟩] scope pos) 0 it acc env).onRaise (fun x => do noteFrame x env; theTreesLotGoes x)) _ _ s
  refine wpAny_noted (wpAny_noRaise ?_)
  rw [turn_set]
  refine wpAny_bind (wpAny_standAt (wpAny_bind (wpAny_mono (turn n s hI) (fun r s₁ h₁ => ?_) fun _ _ h' => h')))
  cases r with
  | none => exact wpAny_pure h₁
  | some v =>
    refine wpAny_bind (wpAny_of_eq (ht v) ?_)
    refine wpAny_bind (wpAny_mono h₁ (fun _ s₂ h₂ => wpAny_bind (wpAny_tests_nil ?_)) fun _ _ h' => h')
    exact wpAny_bind (wpAny_bind (wpAny_mono h₂ (fun x s₄ h₄ => wpAny_bind (wpAny_standAt (wpAny_bind (wpAny_mono h₄ (fun _ s₅ h₅ => wpAny_pure (wpAny_pure ⟨rfl, h₅⟩)) fun _ _ h' => h')))) fun _ _ h' => h'))
end
end Mine
end
/-! part S3 -/
section
open PySem PySem.W PyProof.Rows HeadC
set_option maxRecDepth 100000
namespace Mine
section
variable {prog : Program} {w : World} {A : Around} {E : Value → Shared → Prop} {R : Result → Shared → Prop} {s : Shared}
theorem start_set {elt target iter : Expr} {scope : Scope} {pos : Pos} {it acc : Value} {env : Env}
    (h0 : codeAny (model prog w) A (.compLoop (.SetComp elt [⟨target, iter, [], 0⟩] scope pos) 0 it acc env) R s)
    (h : wpAny (model prog w) A (pyIter it) (fun it' s' => codeAny (model prog w) A (.compLoop (.SetComp elt [⟨target, iter, [], 0⟩] scope pos) 0 it' acc env) R s') (fun _ _ => False) s) :
    codeAny (model prog w) A (.compStart (.SetComp elt [⟨target, iter, [], 0⟩] scope pos) 0 it acc env) R s := by
  refine codeAny_of_tree ?_
  show wpAny _ _ ((compStart (.SetComp elt [⟨target, iter, [], 0⟩] scope pos) 0 it acc env).onRaise (fun x => do noteFrame x env; standAt theWindowsPlace)) _ _ s
  refine wpAny_notedAt (wpAny_noRaise ?_)
  unfold compStart
  show wpAny _ _ (ask >>= _) _ _ s
  refine wpAny_bind (wpAny_askSetting (wpAny_ite ?_))
  split
  · first
      | exact wpAny_pure ⟨rfl, h0⟩
      | exact wpAny_bind (wpAny_pure (wpAny_pure (And.intro rfl h0)))
  · first
      | exact wpAny_bind (wpAny_rule (wpAny_bind (wpAny_standAt (wpAny_bind (wpAny_mono h (fun it' s' h' => wpAny_pure (And.intro rfl h')) fun _ _ x => x)))))
      | (refine wpAny_bind (wpAny_rule ?_); show wpAny _ _ (standAt iter.pos >>= _) _ _ s; exact wpAny_bind (wpAny_standAt (wpAny_bind (wpAny_mono h (fun it' s' h' => wpAny_pure (And.intro rfl h')) fun _ _ x => x))))
noncomputable def sStep {K : Type} [DecidableEq K] (p : (K → Bool) × Nat) (k : K) : (K → Bool) × Nat := ((fun k' => p.1 k' || decide (k' = k)), if p.1 k then p.2 else p.2 + 1)
noncomputable def sOf {K : Type} [DecidableEq K] (key : Nat → K) : Nat → (K → Bool) × Nat
  | 0 => (fun _ => false, 0)
  | i + 1 => sStep (sOf key i) (key i)
theorem sOf_le {K : Type} [DecidableEq K] (key : Nat → K) : ∀ i, (sOf key i).2 ≤ i
  | 0 => Nat.le_refl _
  | i + 1 => by
    have := sOf_le key i
    show (if (sOf key i).1 (key i) then (sOf key i).2 else (sOf key i).2 + 1) ≤ i + 1
    split <;> lia
variable {h₀ : Heap} {L : Addr} {m : Str → Option Value} {env : Env}
theorem comp_set {K : Type} [DecidableEq K] [BEq K] [LawfulBEq K] {knd : KeyKind prog w K} (key : Nat → K) {elt iter : Expr} {x : Str} {px : Pos} {scope : Scope} {cl : List (Str × Addr)} {pos : Pos} {Q : Value → Shared → Prop} (_F₀ : Fr h₀ L s.heap m)
    (hclos : closureFor scope env = pure cl) (hcell : ∀ y ∈ scope.names, y.2 ≠ .cell) (hkind : scope.kind = .function)
    (hnames : ∀ y ∈ scope.names, y.2 = .local → scope.names.lookup y.1 = some .local) (hx : scope.names.lookup x = some .local)
    (h : wpAny (model prog w) A (eval iter env) (CSrc prog w A h₀ L m (fun s₂ news _ n P => n ≤ 1000 ∧
      (∀ i v I oI C oC D oD m₂ h tk, i < n → P i v → LCg.NsObj oC m₂ → m₂ x = some v → Fr h₀ L h m → News h₀ L h ((I, oI) :: (C, oC) :: (D, oD) :: news) →
        wpAny (model prog w) A (eval elt (compEnvC scope cl C env)) (fun y s₃ => ∃ h' tk', s₃ = { s₂ with heap := h', toks := tk' } ∧ Fr h₀ L h' m ∧ News h₀ L h' ((I, oI) :: (C, oC) :: (D, oD) :: news) ∧ knd.is (key i) y = true ∧ y.scannable = true) (fun _ _ => False) { s₂ with heap := h, toks := tk }) ∧
      (∀ D oD h tk, Fr h₀ L h m → News h₀ L h ((D, oD) :: news) → (∀ p ∈ news, p.1 ≠ D) → oD.SetObjOf knd (sOf key n).1 (sOf key n).2 → Q (.ref D) { s₂ with heap := h, toks := tk }))) E s)
    (hs : ∀ x, foldedSetIterable iter env x = pure x := by intro _; rfl) :
    wpAny (model prog w) A (eval (.SetComp elt [⟨.Name x px, iter, [], 0⟩] scope pos) env) Q E s := by
  rw [arm_eval_SetComp]
  dsimp only
  refine wpAny_comprehension_free (use := none) rfl hs hclos hkind hnames (wpAny_mono h (fun xv s₁ h₁ => ?_) fun _ _ e => e)
  try ((fail_if_success (with_reducible show Gz)); with_reducible (first | (refine letW ?_; intro Gz) | (refine letWC ?_; intro Gz)))
  refine Mine.E4 ?_ h₁
  clear h₁
  intro news fx n P
  refine Mine.A5 ?_
  intro N src hfx hn
  intro R
  refine wpAny_noRaise (wpAny_mono src (fun it s₂ hs₂ => ?_) fun _ _ e => e)
  try ((fail_if_success (with_reducible show Gz)); with_reducible (first | (refine letW ?_; intro Gz) | (refine letWC ?_; intro Gz)))
  refine Mine.E4 ?_ hs₂
  clear hs₂
  intro I St h₂ tk₂
  refine Mine.A8 ?_
  intro hR1
  subst hR1
  intro hR2
  subst hR2
  intro W hst F N₂ hfix
  refine Mine.A5 ?_
  intro hIL hI0 hlt hne
  intro hSt
  try ((fail_if_success (with_reducible show Gz)); with_reducible (first | (refine letW ?_; intro Gz) | (refine letWC ?_; intro Gz)))
  refine Mine.A3 ?_ (R h₂ tk₂)
  intro hn1 turn
  intro fin
  have W2 := walks_fx W hne
  try ((fail_if_success (with_reducible show Gz)); with_reducible (first | (refine letW ?_; intro Gz) | (refine letWC ?_; intro Gz)))
  obtain ⟨oI, hoI⟩ := hSt _ _ hst
  have hIlt : I < h₂.objs.size := Heap.lt_size hoI
  refine wpAny_newSet_of (knd := knd) fun led hS => ?_
  try ((fail_if_success (with_reducible show Gz)); with_reducible (first | (refine letW ?_; intro Gz) | (refine letWC ?_; intro Gz)))
  refine Exists.elim hS.objOf ?_
  intro oD
  refine And.elim ?_
  intro hoD
  intro hsD
  refine wpAny_newFunctionEnv hcell (by intro y hy; simp at hy) (fun h₁ hns₁ hsb₁ => ?_) hkind
  dsimp only at hns₁ hsb₁ hoD ⊢
  generalize hH1 : h₂.push { cls := .type "set", dict := none, data := .set #[] 0 (.fresh 0 0 led) } = H1 at hoD hns₁ hsb₁ ⊢
  try ((fail_if_success (with_reducible show Gz)); with_reducible (first | (refine letW ?_; intro Gz) | (refine letWC ?_; intro Gz)))
  obtain ⟨D, hD⟩ : ∃ D, D = h₂.objs.size := ⟨_, rfl⟩
  try ((fail_if_success (with_reducible show Gz)); with_reducible (first | (refine letW ?_; intro Gz) | (refine letWC ?_; intro Gz)))
  obtain ⟨C, hC⟩ : ∃ C, C = H1.objs.size := ⟨_, rfl⟩
  have hCD1 : C = D + 1 := by rw [hC, hD, ← hH1, Heap.size_push]
  rw [← hD] at hoD ⊢
  rw [← hC] at hns₁ hsb₁ ⊢
  have hDC : D ≠ C := by rw [hCD1]; exact Nat.ne_of_lt (Nat.lt_succ_self _)
  have old : ∀ b o, h₂.get? b = some o → h₁.get? b = some o := fun b o e => by
    have hb := Heap.lt_size e
    refine hsb₁.extBut b o ?_ (Heap.get?_push_of_some _ (hH1 ▸ Heap.get?_push_of_some _ e))
    rw [hCD1, hD]; exact Nat.ne_of_lt (Nat.lt_succ_of_lt hb)
  have fresh₀ : ∀ a, h₂.objs.size ≤ a → h₀.get? a = none := fun a ha => by
    cases e : h₀.get? a with
    | none => rfl
    | some o' => exact absurd (Heap.lt_size (F.keep a o' e)) (Nat.not_lt.mpr ha)
  have hD0 : h₀.get? D = none := fresh₀ D (Nat.le_of_eq hD.symm)
  have hC0 : h₀.get? C = none := fresh₀ C (by rw [hCD1, hD]; exact Nat.le_succ _)
  have hLD : D ≠ L := by rw [hD]; exact Nat.ne_of_gt F.ns.lt
  have hLC : C ≠ L := by rw [hCD1, hD]; exact Nat.ne_of_gt (Nat.lt_succ_of_lt F.ns.lt)
  have hID : I ≠ D := by rw [hD]; exact Nat.ne_of_lt hIlt
  have hIC : I ≠ C := by rw [hCD1, hD]; exact Nat.ne_of_lt (Nat.lt_succ_of_lt hIlt)
  have hnD : ∀ p ∈ news, p.1 ≠ D := fun p hp => by rw [hD]; exact Nat.ne_of_lt (Heap.lt_size (N₂ p hp).1)
  have hnC : ∀ p ∈ news, p.1 ≠ C := fun p hp => by rw [hCD1, hD]; exact Nat.ne_of_lt (Nat.lt_succ_of_lt (Heap.lt_size (N₂ p hp).1))
  have hnI : ∀ p ∈ news, p.1 ≠ I := fun p hp => Nat.ne_of_lt (hlt p hp)
  have hfD : ∀ p ∈ fx, p.1 ≠ D := fun p hp => by rw [hD]; exact Nat.ne_of_lt (Heap.lt_size (hfix p hp))
  have hfC : ∀ p ∈ fx, p.1 ≠ C := fun p hp => by rw [hCD1, hD]; exact Nat.ne_of_lt (Nat.lt_succ_of_lt (Heap.lt_size (hfix p hp)))
  have hoD1 : h₁.get? D = some oD := hsb₁.extBut _ _ hDC (Heap.get?_push_of_some _ hoD)
  have stM : ∀ {i : Nat} {h h' : Heap}, (St i h ∧ ∀ p ∈ fx, h.get? p.1 = some p.2) → (∀ b o, b ≠ C → b ≠ D → h.get? b = some o → h'.get? b = some o) → (St i h' ∧ ∀ p ∈ fx, h'.get? p.1 = some p.2) := fun {i h h'} st hk =>
    W2.frame i h h' st fun b hb o e => by
      rcases List.mem_cons.mp hb with rfl | hb
      · exact hk _ _ hIC hID e
      · try ((fail_if_success (with_reducible show Gz)); with_reducible (first | (refine letW ?_; intro Gz) | (refine letWC ?_; intro Gz)))
        refine Exists.elim (List.mem_map.mp hb) ?_
        intro p
        refine And.elim ?_
        intro hp
        intro hR3
        subst hR3
        exact hk _ _ (hfC p hp) (hfD p hp) e
  have hst₁ : St 0 h₁ ∧ ∀ p ∈ fx, h₁.get? p.1 = some p.2 := W2.frame 0 h₂ h₁ ⟨hst, hfix⟩ fun b _ o e => old b o e
  have loop : ∀ s₃ : Shared, s₃ = { s₁ with heap := h₁, toks := tk₂ + ([] : List (Str × Value)).length } →
      codeAny (model prog w) A (.compLoop (.SetComp elt [⟨.Name x px, iter, [], 0⟩] scope pos) 0 (.ref I) (.ref D) (compEnvC scope cl C env)) (compPost (model prog w) A E none Q (.ref D) C) s₃ := by
    rintro s₃ rfl
    refine loop_set (fun k s' => ∃ h' tk i m' oD', s' = { s₁ with heap := h', toks := tk } ∧ i ≤ n ∧ k = n + 1 - i ∧ (St i h' ∧ ∀ p ∈ fx, h'.get? p.1 = some p.2) ∧ Fr h₀ L h' m ∧ h'.Ns C m' ∧ News h₀ L h' ((D, oD') :: news) ∧ oD'.SetObjOf knd (sOf key i).1 (sOf key i).2) ?_ (n + 1)
      (Mine.I5 h₁ _ 0 _ oD ⟨rfl, Nat.zero_le _, rfl, hst₁, F.keeps old, hns₁, fun p hp => ?_, hsD⟩)
    · rintro k s' hz2
      try ((fail_if_success (with_reducible show Gz)); with_reducible (first | (refine letW ?_; intro Gz) | (refine letWC ?_; intro Gz)))
      refine Mine.E5 ?_ hz2
      clear hz2
      intro h' tk i m' oD'
      refine Mine.A8 ?_
      intro hR4
      subst hR4
      intro hi hR5
      subst hR5
      intro hst' F' hn' N'
      intro hso
      try ((fail_if_success (with_reducible show wpAny _ _ _ Qz _ _)); with_reducible (first | (refine letQ ?_; intro Qz) | (refine letQC ?_; intro Qz)))
      try ((fail_if_success (with_reducible show wpAny _ _ _ _ _ Sz)); with_reducible (first | (refine letS ?_; intro Sz) | (refine letSC ?_; intro Sz)))
      by_cases hin : i < n
      · refine W2.item i _ _ _ hin hst' fun v h₂' tk₂' hPv hst₂ hk₂ => ?_
        refine wpAny_assign_Name (wpAny_storeName_local (lookup_relabel_local hx) (hn'.at' fun o e => hk₂ _ o (by simpa using Ne.symm hIC) e) (fun h₃ hn₃ hs₃ => ?_) (by simp [compEnvC, relabel, hkind]))
        refine wpAny_mono ?_ (fun _ _ h' => h') (fun _ _ h' => h')
        have st3 := stM hst₂ (h' := h₃) fun b o h1 _ e => hs₃.extBut b o h1 e
        try ((fail_if_success (with_reducible show Gz)); with_reducible (first | (refine letW ?_; intro Gz) | (refine letWC ?_; intro Gz)))
        obtain ⟨oI', hoI'⟩ := hSt _ _ st3.1
        try ((fail_if_success (with_reducible show Gz)); with_reducible (first | (refine letW ?_; intro Gz) | (refine letWC ?_; intro Gz)))
        refine Exists.elim (LCg.ns_obj hn₃) ?_
        intro oC
        refine And.elim ?_
        intro hoC
        intro hnC3
        have F₃ : Fr h₀ L h₃ m := (LCg.fr_but F' hk₂ hIL.symm hI0).change hs₃ hLC hC0
        have N₃ : News h₀ L h₃ ((I, oI') :: (C, oC) :: (D, oD') :: news) := fun p hp => by
          rcases List.mem_cons.mp hp with rfl | hp
          · exact ⟨hoI', hIL, hI0⟩
          rcases List.mem_cons.mp hp with rfl | hp
          · exact ⟨hoC, hLC, hC0⟩
          refine ⟨hs₃.extBut _ _ ?_ (hk₂ _ _ ?_ (N' p hp).1), (N' p hp).2⟩
          · rcases List.mem_cons.mp hp with rfl | hp
            · exact hDC
            · exact hnC p hp
          · rcases List.mem_cons.mp hp with rfl | hp
            · simpa using hID.symm
            · simpa using hnI p hp
        refine wpAny_mono (turn i v I oI' C oC D oD' _ h₃ _ hin hPv hnC3 (by simp) F₃ N₃) (fun y s₄ h₄ => ?_) (fun _ _ e => e.elim)
        try ((fail_if_success (with_reducible show Gz)); with_reducible (first | (refine letW ?_; intro Gz) | (refine letWC ?_; intro Gz)))
        refine Mine.E2 ?_ h₄
        clear h₄
        intro h₄ tk₄
        refine Mine.A5 ?_
        intro hR6
        subst hR6
        intro F₄ N₄ hkey
        intro hsc
        have zI := (N₄ _ (.head _)).1
        have zC := (N₄ _ (.tail _ (.head _))).1
        have zD := N₄ _ (.tail _ (.tail _ (.head _)))
        have hle := sOf_le key i
        have st4 : St (i + 1) h₄ ∧ ∀ p ∈ fx, h₄.get? p.1 = some p.2 := W2.frame _ h₃ h₄ st3 fun b hb o e => by
          rcases List.mem_cons.mp hb with rfl | hb
          · rw [hoI'] at e; cases e; exact zI
          · try ((fail_if_success (with_reducible show Gz)); with_reducible (first | (refine letW ?_; intro Gz) | (refine letWC ?_; intro Gz)))
            refine Exists.elim (List.mem_map.mp hb) ?_
            intro p
            refine And.elim ?_
            intro hp
            intro hR7
            subst hR7
            rw [st3.2 p hp] at e; cases e
            rcases hfx p hp with h | h
            · exact F₄.keep _ _ h
            · exact (N₄ p (.tail _ (.tail _ (.tail _ h)))).1
        refine call_set_add hkey hsc (hso.setOf zD.1 (by show _ < 4096; lia)) (by show _ < 4096; lia) fun h₅ hs₅ hS₅ => ?_
        try ((fail_if_success (with_reducible show Gz)); with_reducible (first | (refine letW ?_; intro Gz) | (refine letWC ?_; intro Gz)))
        refine Exists.elim hS₅.objOf ?_
        intro oD5
        refine And.elim ?_
        intro hoD5
        intro hso5
        refine ⟨n + 1 - (i + 1), ⟨by lia, Mine.I5 h₅ _ (i + 1) _ oD5 ⟨rfl, hin, rfl, stM st4 fun b o _ h2 e => hs₅.extBut b o h2 e, F₄.change hs₅ hLD hD0, (hnC3.ns zC).sameBut hs₅ (Ne.symm hDC), fun p hp => ?_, hso5⟩⟩⟩
        rcases List.mem_cons.mp hp with rfl | hp
        · exact ⟨hoD5, hLD, hD0⟩
        · exact ⟨hs₅.extBut _ _ (hnD p hp) (N₄ p (.tail _ (.tail _ (.tail _ hp)))).1, (N₂ p hp).2⟩
      · obtain rfl : i = n := Nat.le_antisymm hi (Nat.not_lt.mp hin)
        refine W2.done _ _ _ hst' fun h₂' tk₂' hk₂ => ?_
        have F6 := LCg.fr_but F' hk₂ hIL.symm hI0
        have N6 : News h₀ L h₂' ((D, oD') :: news) := LCg.news_but N' hk₂ fun p hp => by
          rcases List.mem_cons.mp hp with rfl | hp
          · exact hID.symm
          · exact hnI p hp
        refine ⟨m', hn'.at' fun o e => hk₂ _ o (by simpa using Ne.symm hIC) e, fun h'' hs'' => fin D oD' h'' _ (F6.change hs'' hLC hC0) (fun p hp => ?_) hnD hso⟩
        refine ⟨hs''.extBut _ _ ?_ (N6 p hp).1, (N6 p hp).2⟩
        rcases List.mem_cons.mp hp with rfl | hp
        · exact hDC
        · exact hnC p hp
    · rcases List.mem_cons.mp hp with rfl | hp
      · exact ⟨hoD1, hLD, hD0⟩
      · exact ⟨old _ _ (N₂ p hp).1, (N₂ p hp).2⟩
  exact start_set (loop _ rfl) (W2.self 0 _ _ _ hst₁ (loop _ rfl))
end
end Mine
end
/-! part S4 -/
section
example : True := by w_top off; trivial
open PySem PySem.W PyProof.Rows HeadC
set_option maxRecDepth 100000
namespace Mine
section
variable {prog : Program} {w : World} {A : Around} {E : Value → Shared → Prop} {s : Shared} {h₀ : Heap} {L : Addr} {m : Str → Option Value} {env : Env}
/-- name = [.. for x in any source] -/
theorem assign_src {elt iter : Expr} {x y : Str} {px py : Pos} {scope : Scope} {cl : List (Str × Addr)} {pos spos : Pos} {Q : Flow → Shared → Prop} (_F₀ : Fr h₀ L s.heap m) (hLe : env.locals = L)
    (hsw : swapsWith (.ListComp elt [⟨.Name x px, iter, [], 0⟩] scope pos) (some (.Name y py)) spos.line env = pure true)
    (hclos : closureFor scope env = pure cl) (hcell : ∀ z ∈ scope.names, z.2 ≠ .cell) (hkind : scope.kind = .function)
    (hnames : ∀ z ∈ scope.names, z.2 = .local → scope.names.lookup z.1 = some .local) (hx : scope.names.lookup x = some .local)
    (hy : env.kindOf y = some .local) (hp : (env.scope.kind == .class || (env.scope.kind == .module && env.locals != env.globals)) = false)
    (h : wpAny (model prog w) A (eval iter env) (CSrc prog w A h₀ L m (fun s₂ news fx n P => LCg.CompRest prog w A h₀ L m env elt x scope cl s₂ (FxIn h₀ fx) P (LCg.FinA h₀ L m s₂ y Q) n 0 [] news)) E s)
    (hs : ∀ x, foldedSetIterable iter env x = pure x := by intro _; rfl) :
    wpAny (model prog w) A (exec (.Assign [.Name y py] (.ListComp elt [⟨.Name x px, iter, [], 0⟩] scope pos) spos) env) Q E s := by
  subst hLe
  rw [exec_Assign_Name_used _ _ _ _ hsw]
  refine wpAny_bind (wpAny_standAt (wpAny_bind ?_))
  show wpAny _ A (do let _ ← comprehension (.ListComp elt [⟨.Name x px, iter, [], 0⟩] scope pos) scope env _ (newList []) false (eval iter env) (some (assign (.Name y py) env))) _ _ s
  refine wpAny_bind (wpAny_mono (wpAny_comprehension_free (use := some (assign (.Name y py) env)) (Q := fun _ s' => Q .next s') rfl hs hclos hkind hnames
    (wpAny_mono h (fun xv s₁ h₁ => ?_) fun _ _ e => e)) (fun _ s' hq => wpAny_pure (wpAny_pure hq)) fun _ _ e => e)
  refine Mine.E4 ?_ h₁
  clear h₁
  intro news fx n P
  refine Mine.A5 ?_
  intro N src hfx hn
  intro R
  refine wpAny_noRaise (wpAny_mono src (fun it s₂ hs₂ => ?_) fun _ _ e => e)
  refine Mine.E4 ?_ hs₂
  clear hs₂
  intro I St h₂ tk₂
  refine Mine.A8 ?_
  intro hR1
  subst hR1
  intro hR2
  subst hR2
  intro W hst F N₂ hfix
  refine Mine.A5 ?_
  intro hIL hI0 hlt hne
  intro hSt
  have hIf : I ∈ I :: fx.map (·.1) := .head _
  obtain ⟨oI, hoI⟩ := hSt _ _ hst
  have hIlt : I < h₂.objs.size := Heap.lt_size hoI
  refine LCg.block_U (walks_fx W hne) hn (fun i h st => hSt i h st.1) ?_ hcell hkind hx ⟨hst, hfix⟩ (fun b hb => ?_) F N₂ hIL.symm hI0 (fun p hp => Nat.ne_of_lt (hlt p hp)) hfx (R h₂ tk₂) ?_
  · intro i h h' o nw st e e' k N' S
    refine ⟨W.frame _ _ _ st.1 fun b hb ob eb => ?_, fun p hp => ?_⟩
    · rcases List.mem_cons.mp hb with rfl | hb
      · rw [e] at eb; cases eb; exact e'
      · refine Exists.elim (List.mem_map.mp hb) ?_
        intro p
        refine And.elim ?_
        intro hp
        intro hR3
        subst hR3
        rw [st.2 p hp] at eb; cases eb
        rcases S p hp with h | h
        · exact k _ _ h
        · exact (N' p h).1
    · rcases S p hp with h | h
      · exact k _ _ h
      · exact (N' p h).1
  · rcases List.mem_cons.mp hb with rfl | hb
    · exact hIlt
    · refine Exists.elim (List.mem_map.mp hb) ?_
      intro p
      refine And.elim ?_
      intro hp
      intro hR4
      subst hR4
      exact Heap.lt_size (hfix p hp)
  · intro D C h tk m' ys news' F' N' o1 hn' hC₀ hD₀ hCL hDL hCD offC fin
    show wpAny _ A (assign (.Name y py) env (.ref D)) _ _ _
    refine wpAny_assign_Name (wpAny_storeName_local hy F'.ns (fun h₂ hn₂ hs₂ => ?_) hp)
    have hL₀ : h₀.get? env.locals = none := Heap.get?_none_of_le F'.above
    have F₂ : Fr h₀ env.locals h₂ (fun z => if z = y then some (.ref D) else m z) := ⟨hn₂, fun b o e => hs₂.extBut b o (fun q => by rw [q, hL₀] at e; cases e) (F'.keep b o e), F'.above⟩
    refine ⟨m', hn'.sameBut hs₂ hCL, fun h'' hs'' => fin D h'' _ (F₂.change hs'' hCL hC₀) (fun p hp => ?_) o1⟩
    have z : h₂.get? p.1 = some p.2 := hs₂.extBut _ _ (N' p hp).2.1 (N' p hp).1
    refine ⟨hs''.extBut _ _ ?_ z, (N' p hp).2⟩
    rcases List.mem_cons.mp hp with rfl | hp
    · exact Ne.symm hCD
    · exact offC p hp
end
end Mine
end
/-! part S7 -/
section
open PySem PySem.W PyProof.Rows HeadC
set_option maxRecDepth 100000
namespace Mine
section
variable {prog : Program} {w : World} {A : Around} {E : Value → Shared → Prop} {s : Shared} {h₀ : Heap} {L : Addr} {m : Str → Option Value} {env : Env}
/-- the turns of a comprehension with one test, by an invariant -/
theorem comp_restT_inv {ct elt : Expr} {x : Str} {scope : Scope} {cl : List (Str × Addr)} {S : List (Addr × Obj) → Prop} {P : Nat → Value → Prop} {Fin : List Value → List (Addr × Obj) → Prop} {n : Nat} (J : Nat → List Value → List (Addr × Obj) → Prop)
    (turn : ∀ i ys news v I oI C oC D m₂ h tk (E' : Value → Shared → Prop), i < n → J i ys news → P i v → LCg.NsObj oC m₂ → m₂ x = some v → Fr h₀ L h m → News h₀ L h ((I, oI) :: (C, oC) :: (D, LCg.lst ys) :: news) → LCg.Off3 I C D news → ((@Ne Nat I C) ∧ (@Ne Nat I D) ∧ (@Ne Nat C D)) →
      wpAny (model prog w) A (isTrue ct (compEnvC scope cl C env) (eval ct (compEnvC scope cl C env))) (fun ok s' => if ok = true then
        wpAny (model prog w) A (eval elt (compEnvC scope cl C env)) (LCg.CompEnd h₀ L m { s with heap := h, toks := tk } I oI C oC D (LCg.lst ys) S (fun y news' => J (i + 1) (ys ++ [y]) news')) E' s'
        else LCg.CompEnd h₀ L m { s with heap := h, toks := tk } I oI C oC D (LCg.lst ys) S (fun _ news' => J (i + 1) ys news') Value.none s') E' { s with heap := h, toks := tk })
    (fin : ∀ ys news, J n ys news → Fin ys news) :
    ∀ (k i : Nat) (ys : List Value) (news : List (Addr × Obj)), i + k = n → J i ys news → LCt.CompRestT prog w A h₀ L m env ct elt x scope cl s S P Fin k i ys news
  | 0, i, ys, news, hi, hJ => LCt.CompRestT.zero (fin _ _ (by rw [show n = i by lia]; exact hJ))
  | k + 1, i, ys, news, hi, hJ => LCt.CompRestT.succ fun v I oI C oC D m₂ h tk E' hP hC hx F N off ne =>
    wpAny_mono (turn i ys news v I oI C oC D m₂ h tk E' (by lia) hJ hP hC hx F N off ne) (fun ok s₂ h₂ => by
      cases ok with
      | true =>
        simp only [if_true] at h₂ ⊢
        refine wpAny_mono h₂ (fun y s₃ he => ?_) fun _ _ e => e
        refine Mine.E3 ?_ he
        clear he
        intro h' tk' news'
        refine Mine.A6 ?_
        intro hR1
        subst hR1
        intro F' N' off' hS
        intro hJ'
        exact Mine.I3 h' tk' news' ⟨rfl, F', N', off', hS, comp_restT_inv J turn fin k (i + 1) _ _ (by lia) hJ'⟩
      | false =>
        simp only [Bool.false_eq_true, if_false] at h₂ ⊢
        refine Mine.E3 ?_ h₂
        clear h₂
        intro h' tk' news'
        refine Mine.A6 ?_
        intro hR2
        subst hR2
        intro F' N' off' hS
        intro hJ'
        exact Mine.I3 h' tk' news' ⟨rfl, F', N', off', hS, comp_restT_inv J turn fin k (i + 1) _ _ (by lia) hJ'⟩) fun _ _ e => e
end
end Mine
end
/-! part E1 -/
section
open PySem PySem.W PyProof.Rows HeadC
set_option maxRecDepth 100000
namespace Mine
/-! ### for i, x in enumerate(list), with break -/
noncomputable abbrev enO (it : Addr) (i : Int) (v : Value) : Obj := { cls := .type "enumerate", dict := none, data := .fields #[.none, .bool false, .ref it, rawInt i, .none, v], slots := #[] }
noncomputable def EnumStep (h₀ : Heap) (L : Addr) (s : Shared) (e : Addr) (oE : Obj) (it : Addr) (oI : Obj) (news : List (Addr × Obj)) (J : (Str → Option Value) → Prop) (X : (Str → Option Value) → List (Addr × Obj) → Prop) (f : Flow) (s₃ : Shared) : Prop :=
  match f with
  | .next | .cont => ∃ h' tk m₂, s₃ = { s with heap := h', toks := tk } ∧ Fr h₀ L h' m₂ ∧ News h₀ L h' ((e, oE) :: (it, oI) :: news) ∧ J m₂
  | .brk => WEnd h₀ L s X s₃
  | .ret _ => False
section
variable {prog : Program} {w : World} {A : Around} {E : Value → Shared → Prop} {s : Shared} {h₀ : Heap} {m : Str → Option Value} {news : List (Addr × Obj)} {env : Env}
theorem enum_loop {l : Addr} {vs : List Value} {n : Nat} {xi xv : Str} {pi pv pt : Pos} {x1} {body : List Stmt} {Q : Flow → Shared → Prop} (J : Nat → (Str → Option Value) → Prop) (X : (Str → Option Value) → List (Addr × Obj) → Prop) (hh : A.handled = none)
    (F : Fr h₀ env.locals s.heap m) (N : News h₀ env.locals s.heap news) (hl : (l, listOf vs.toArray n) ∈ news) (hJ : J 0 m)
    (turn : ∀ i v m₁ h tk e oE it oI ti, vs[i]? = some v → J i m₁ → Fr h₀ env.locals h (fun y => if y = xv then some v else if y = xi then some (.int (i : Int) ti) else m₁ y) → News h₀ env.locals h ((e, oE) :: (it, oI) :: news) → (∀ p ∈ news, p.1 < it ∧ p.1 < e) →
      wpAny (model prog w) A (execs body env) (EnumStep h₀ env.locals s e oE it oI news (J (i + 1)) X) (fun _ _ => False) { s with heap := h, toks := tk })
    (stop : ∀ m₁, J vs.length m₁ → X m₁ news)
    (done : ∀ m₁ news₁ h₁ tk₁, Fr h₀ env.locals h₁ m₁ → News h₀ env.locals h₁ news₁ → X m₁ news₁ → Q .next { s with heap := h₁, toks := tk₁ })
    (hxi : env.kindOf xi = some .local := by rfl) (hxv : env.kindOf xv = some .local := by rfl) (hp : (env.scope.kind == .class || (env.scope.kind == .module && env.locals != env.globals)) = false := by rfl) :
    wpAny (model prog w) A (call (.type "enumerate") [.ref l]) (fun xv' s₁ => wpAny (model prog w) A (pyIter xv') (fun it s₂ => codeAny (model prog w) A (.forLoop (.Tuple [.Name xi pi, .Name xv pv] x1 pt) it body [] env) (fun r s' => match r with | .ok f => Q f s' | .error e => cameBackBy (model prog w) A env E e s') s₂) E s₁) E s := by
  refine call_enumerate_list (N.isList hl) fun h' hE hI hsz hk => ?_
  refine wpAny_pyIter_enum hE ?_
  try ((fail_if_success (with_reducible show Gz)); with_reducible (first | (refine letW ?_; intro Gz) | (refine letWC ?_; intro Gz)))
  obtain ⟨it, hit⟩ : ∃ it, it = s.heap.objs.size := ⟨_, rfl⟩
  try ((fail_if_success (with_reducible show Gz)); with_reducible (first | (refine letW ?_; intro Gz) | (refine letWC ?_; intro Gz)))
  obtain ⟨e, he⟩ : ∃ e, e = s.heap.objs.size + 1 := ⟨_, rfl⟩
  have hnews : ∀ p ∈ news, p.1 < it ∧ p.1 < e := fun p hp => by
    have := Heap.lt_size (N p hp).1
    rw [hit, he]; exact ⟨this, Nat.lt_succ_of_lt this⟩
  have heL : env.locals ≠ e := by rw [he]; exact Nat.ne_of_lt (Nat.lt_succ_of_lt F.ns.lt)
  have hiL : env.locals ≠ it := by rw [hit]; exact Nat.ne_of_lt F.ns.lt
  have hei : e ≠ it := by rw [he, hit]; exact Nat.ne_of_gt (Nat.lt_succ_self _)
  have hnone : ∀ b, s.heap.objs.size ≤ b → h₀.get? b = none := fun b hb => by
    cases q : h₀.get? b with
    | none => rfl
    | some o => exact absurd (Heap.lt_size (F.keep b o q)) (Nat.not_lt.mpr hb)
  have he0 : h₀.get? e = none := hnone e (by rw [he]; exact Nat.le_succ _)
  have hi0 : h₀.get? it = none := hnone it (Nat.le_of_eq hit.symm)
  rw [← he] at hE ⊢
  rw [← hit] at hE hI
  have hls : ∀ {h : Heap}, News h₀ env.locals h news → h.IsList l vs.toArray := fun N => N.isList hl
  have nE : ∀ p ∈ news, p.1 ≠ e := fun p hp => Nat.ne_of_lt (hnews p hp).2
  have nI : ∀ p ∈ news, p.1 ≠ it := fun p hp => Nat.ne_of_lt (hnews p hp).1
  refine codeAny_forLoop_any
    (fun k s' => ∃ h' tk m' i old, s' = { s with heap := h', toks := tk } ∧ IsEnum h' e it ((i : Nat) : Int) old ∧ h'.IsListIter it l i ∧ Fr h₀ env.locals h' m' ∧ News h₀ env.locals h' news ∧ J i m' ∧ i ≤ vs.length ∧ k = vs.length + 1 - i) ?_ (vs.length + 1)
    (Mine.I5 h' s.toks m 0 .none ⟨rfl, hE, hI, F.keeps hk, (fun p hp => ⟨hk _ _ (N p hp).1, (N p hp).2⟩), hJ, Nat.zero_le _, rfl⟩)
  rintro k s' hz2
  try ((fail_if_success (with_reducible show Gz)); with_reducible (first | (refine letW ?_; intro Gz) | (refine letWC ?_; intro Gz)))
  refine Mine.E5 ?_ hz2
  clear hz2
  intro H tk m' i old
  refine Mine.A8 ?_
  intro hR1
  subst hR1
  intro he' hit' F' N' hJ' hi
  intro hR2
  subst hR2
  try ((fail_if_success (with_reducible show wpAny _ _ _ Qz _ _)); with_reducible (first | (refine letQ ?_; intro Qz) | (refine letQC ?_; intro Qz)))
  try ((fail_if_success (with_reducible show wpAny _ _ _ _ _ Sz)); with_reducible (first | (refine letS ?_; intro Sz) | (refine letSC ?_; intro Sz)))
  have move : ∀ {H' : Heap}, (∀ b o, b ≠ e → b ≠ it → H.get? b = some o → H'.get? b = some o) → Fr h₀ env.locals H' m' ∧ News h₀ env.locals H' news := fun hk =>
    ⟨⟨F'.ns.at' fun o q => hk _ o heL hiL q, fun b o q => hk b o (fun z => by rw [z, he0] at q; cases q) (fun z => by rw [z, hi0] at q; cases q) (F'.keep b o q), F'.above⟩,
      fun p hp => ⟨hk _ _ (nE p hp) (nI p hp) (N' p hp).1, (N' p hp).2⟩⟩
  cases hv : vs[i]? with
  | none =>
    have hsz : i = vs.length := Nat.le_antisymm hi (by simpa using hv)
    refine wpAny_pyNext_enum_end hh he' hit' (hls N') (by simpa using hv) fun h₁ hk₁ => wpAny_execs_nil ?_
    try ((fail_if_success (with_reducible show Gz)); with_reducible (first | (refine letW ?_; intro Gz) | (refine letWC ?_; intro Gz)))
    obtain ⟨F1, N1⟩ := move fun b o _ h2 q => hk₁ b o h2 q
    exact done _ _ _ _ F1 N1 (stop _ (hsz ▸ hJ'))
  | some v =>
    have hlt : i < vs.length := (List.getElem?_eq_some_iff.mp hv).1
    have heH : e < H.objs.size := Heap.lt_size he'
    have hLH : env.locals < H.objs.size := F'.ns.lt
    refine wpAny_pyNext_enum_item he' hit' (hls N') (by simpa using hv) hei fun h₁ heo hit₁ ht₁ hz₁ hk₁ => ?_
    refine wpAny_letOwnedTupleGo_enum heo fun h₂ he₂ hs₂ => ?_
    replace hs₂ : Heap.SameBut e h₁ h₂ := hs₂
    have ht₂ : h₂.IsTuple H.objs.size #[.int i tk, v] := ⟨_, (hs₂.2 _ (Nat.ne_of_gt heH)).trans ht₁, rfl, _, rfl⟩
    have hz₂ : h₂.objs.size = H.objs.size + 1 := hs₂.1.trans hz₁
    refine wpAny_assign_Tuple hh ht₂ rfl rfl fun h₃ hx₃ => ?_
    replace hx₃ : Heap.ExtBut h₂.objs.size h₂ h₃ := hx₃
    have old₃ : ∀ b o, b < H.objs.size → h₂.get? b = some o → h₃.get? b = some o := fun b o hb x => hx₃ b o (by rw [hz₂]; exact Nat.ne_of_lt (Nat.lt_succ_of_lt hb)) x
    try ((fail_if_success (with_reducible show Gz)); with_reducible (first | (refine letW ?_; intro Gz) | (refine letWC ?_; intro Gz)))
    obtain ⟨F3, N3⟩ := move (H' := h₃) fun b o h1 h2 q => old₃ b o (Heap.lt_size q) (hs₂.extBut b o h1 (hk₁ b o h1 h2 q))
    have he₃ : IsEnum h₃ e it ((i : Int) + 1) v := old₃ e _ heH he₂
    try ((fail_if_success (with_reducible show Gz)); with_reducible (first | (refine letW ?_; intro Gz) | (refine letWC ?_; intro Gz)))
    refine Exists.elim ((hit₁.extBut hs₂.extBut (Ne.symm hei)).at fun o x => old₃ it o (by obtain ⟨o', ho', _⟩ := hit'; exact Heap.lt_size ho') x) ?_
    intro oI
    refine Mine.A3 ?_
    intro hoI hcI
    intro hdI
    show wpAny _ A (do holding [v] (assign (.Name xi pi) env (.int i tk)); do holding [] (assign (.Name xv pv) env v); pure ()) _ _ _
    refine wpAny_bind (wpAny_holding (wpAny_assign_Name (wpAny_storeName_local hxi F3.ns (fun h₄ hn₄ hs₄ => ?_) hp)))
    have F4 := F3.set hn₄ hs₄
    have N4 := N3.set hs₄
    refine wpAny_bind (wpAny_holding (wpAny_assign_Name (wpAny_storeName_local hxv hn₄ (fun h₅ hn₅ hs₅ => wpAny_pure ?_) hp)))
    have F5 := F4.set hn₅ hs₅
    have N5 := N4.set hs₅
    have up : ∀ b o, b ≠ env.locals → h₃.get? b = some o → h₅.get? b = some o := fun b o hb q => hs₅.extBut b o hb (hs₄.extBut b o hb q)
    have NI : News h₀ env.locals h₅ ((e, enO it ((i : Int) + 1) v) :: (it, oI) :: news) := fun p hp => by
      rcases List.mem_cons.mp hp with rfl | hp
      · exact ⟨up _ _ heL.symm he₃, heL.symm, he0⟩
      rcases List.mem_cons.mp hp with rfl | hp
      · exact ⟨up _ _ hiL.symm hoI, hiL.symm, hi0⟩
      · exact N5 p hp
    refine wpAny_mono (turn i v m' h₅ _ e (enO it ((i : Int) + 1) v) it oI tk hv hJ' F5 NI hnews) (fun f s₃ hf => ?_) fun _ _ x => x.elim
    have fin : EnumStep h₀ env.locals s e (enO it ((i : Int) + 1) v) it oI news (J (i + 1)) X .next s₃ → ∃ k, k < vs.length + 1 - i ∧ ∃ h' tk m' i old, s₃ = { s with heap := h', toks := tk } ∧ IsEnum h' e it ((i : Nat) : Int) old ∧ h'.IsListIter it l i ∧ Fr h₀ env.locals h' m' ∧ News h₀ env.locals h' news ∧ J i m' ∧ i ≤ vs.length ∧ k = vs.length + 1 - i := by
      rintro hz0
      try ((fail_if_success (with_reducible show Gz)); with_reducible (first | (refine letW ?_; intro Gz) | (refine letWC ?_; intro Gz)))
      refine Mine.E3 ?_ hz0
      clear hz0
      intro h₆ tk₆ m₂
      refine Mine.A4 ?_
      intro hR3
      subst hR3
      intro F6 N6
      intro hJ6
      try ((fail_if_success (with_reducible show wpAny _ _ _ Qz _ _)); with_reducible (first | (refine letQ ?_; intro Qz) | (refine letQC ?_; intro Qz)))
      try ((fail_if_success (with_reducible show wpAny _ _ _ _ _ Sz)); with_reducible (first | (refine letS ?_; intro Sz) | (refine letSC ?_; intro Sz)))
      refine ⟨vs.length + 1 - (i + 1), ⟨by omega, Mine.I5 h₆ tk₆ m₂ (i + 1) v ⟨rfl, ?_, ⟨oI, (N6 _ (.tail _ (.head _))).1, hcI, hdI⟩, F6, (fun p hp => N6 p (.tail _ (.tail _ hp))), hJ6, hlt, rfl⟩⟩⟩
      have : ((i + 1 : Nat) : Int) = (i : Int) + 1 := by push_cast; rfl
      rw [this]; exact (N6 _ (.head _)).1
    cases f with
    | next => exact fin hf
    | cont => exact fin hf
    | brk =>
      try ((fail_if_success (with_reducible show Gz)); with_reducible (first | (refine letW ?_; intro Gz) | (refine letWC ?_; intro Gz)))
      refine Mine.E4 ?_ hf
      clear hf
      intro h₄ tk₄ m₄ news₄
      refine Mine.A4 ?_
      intro hR4
      subst hR4
      intro F₄ N₄
      intro x₄
      exact done _ _ _ _ F₄ N₄ x₄
    | ret v => exact hf.elim
end
end Mine
end
/-! part S5 -/
section
open PySem PySem.W PyProof.Rows HeadC
set_option maxRecDepth 100000
namespace Mine
/-! ### the set of True alone -/
theorem slot_bool_hash : Slot "bool" "__hash__" "int.__hash__" :=
  .of (owner := "int") (n := "__hash__") (by rw [typeLookup_type, builtinLookup_eq_fast]; kernel_rfl) (by decide +kernel) (by decide +kernel) (by decide +kernel)
    (by first | exact .inl (by decide +kernel) | exact .inr (by decide +kernel)) (by rw [isSubtype_type]; kernel_rfl)
section
variable {prog : Program} {w : World} {A : Around} {E : Value → Shared → Prop} {s : Shared}
theorem typeIs_bool (s : Shared) (b : Bool) : s.TypeIs (.bool b) "bool" := rfl
theorem pyHash_true {Q : Int → Shared → Prop} (h : Q 1 { s with toks := s.toks + 1 }) : wpAny (model prog w) A (pyHash (.bool true)) Q E s := by
  unfold pyHash
  have hv : [Value.bool true].any Value.onHeap = false := rfl
  refine wpAny_bind ?_
  rw [cRoomFor, if_neg (by rw [hv]; exact Bool.false_ne_true)]; refine wpAny_pure ?_
  refine wpAny_bind (wpAny_specialOf (typeIs_bool s true) slot_bool_hash.lookup ?_)
  show wpAny _ _ (if (some (Value.builtin "int.__hash__") == some Value.none) = true then _ else _) Q E s
  rw [if_neg (by rw [beq_builtin_none]; exact Bool.false_ne_true)]
  refine wpAny_bind (wpAny_specialOf (typeIs_bool s true) slot_bool_hash.lookup ?_)
  show wpAny _ _ (callSpecialIfBoundUnlessNone? (.bool true) "__hash__" _ >>= _) Q E s
  refine wpAny_bind (wpAny_callSpecialIfBoundUnlessNone?_slot (typeIs_bool s true) slot_bool_hash
    (wpAny_call_entry slot_bool_hash (typeIs_bool s true) entry_int_hash
      (show wpAny _ _ (do ret (← mkInt 1)) _ _ s from wpAny_ret_mkInt ?_) (args_int_hash _)))
  exact wpAny_pure h
noncomputable def tabT (led : Bool) : SetTable := (layNew (.fresh 0 0 led) #[] 1 (.bool true)).2.1
noncomputable abbrev setT (led : Bool) : Nat → Obj
  | 0 => { cls := .type "set", dict := none, data := .set #[] 0 (.fresh 0 0 led) }
  | _ + 1 => { cls := .type "set", dict := none, data := .set #[(1, .bool true)] 1 (tabT led) }
theorem lay_true (led : Bool) : layNew (.fresh 0 0 led) #[] 1 (.bool true) = (#[(1, .bool true)], tabT led, false, false) := by
  cases led <;> decide +kernel
theorem tabT_led (led : Bool) : (tabT led).led = led := by cases led <;> decide +kernel
theorem tabT_fits (led : Bool) : (tabT led).fits 1 = true := by cases led <;> decide +kernel
theorem tabT_full (led : Bool) : (tabT led).tooFull = false := by cases led <;> decide +kernel
theorem tabT_plain (led : Bool) : (tabT led).plain = true := by cases led <;> decide +kernel
theorem tabT_place (led : Bool) : (tabT led).place = #[1] := by cases led <;> decide +kernel
theorem call_add_true {a : Addr} {led : Bool} {i : Nat} {Q : Value → Shared → Prop} (ho : s.heap.get? a = some (setT led i))
    (h : ∀ h', Heap.SameBut a s.heap h' → h'.get? a = some (setT led (i + 1)) → Q .none { s with heap := h', toks := s.toks + 1 }) :
    wpAny (model prog w) A (call (.builtin "set.add") [.ref a, .bool true]) Q E s := by
  have hT : s.TypeIs (.ref a) "set" := ⟨_, ho, by cases i <;> rfl⟩
  refine wpAny_call_entry F.slot_set_add hT F.entry_set_add ?_ (F.args_set_add_2 _ _)
  unfold Builtin.«set.add» Builtin.Frozenset.oneOther
  simp only [List.isEmpty_nil, bind_assoc]
  unfold Builtin.Frozenset.addrOf setAdd
  refine wpAny_bind (wpAny_pure ?_)
  try dsimp only
  refine wpAny_bind (wpAny_pure ?_)
  try dsimp only
  refine wpAny_bind ?_
  refine wpAny_holding ?_
  refine wpAny_bind (pyHash_true ?_)
  unfold setAddHashed setAddHashedIn
  refine wpAny_holding ?_
  cases i with
  | zero =>
    refine wpAny_bind (wpAny_setState_of ho rfl rfl ?_)
    dsimp only
    rw [show byScan (.bool true) #[] = true by decide +kernel]
    simp only [↓reduceIte]
    unfold setAddByScan
    refine wpAny_bind (wpAny_bind (wpAny_rule ?_))
    show wpAny _ _ (setScanFrom a (.bool true) 1 true [] 0 >>= _) _ _ _
    refine wpAny_bind (wpAny_pure ?_)
    dsimp only
    rw [lay_true]
    dsimp only
    show wpAny _ _ (pure () >>= _) _ _ _
    refine wpAny_bind (wpAny_pure ?_)
    rw [tabT_plain]
    simp only [↓reduceIte]
    refine wpAny_bind (wpAny_of_eq (show hashByValue 8 (.bool true) = pure true by rfl) ?_)
    simp only [↓reduceIte]
    refine wpAny_bind (wpAny_storeSet_of ho rfl ?_)
    rw [tabT_full]
    simp only [Bool.not_false, Bool.and_false, Bool.false_eq_true, ↓reduceIte]
    refine wpAny_pure (wpAny_pure ?_)
    show wpAny _ _ (ret Value.none) _ _ _
    exact wpAny_pure ⟨_, rfl, h _ (Heap.SameBut.update ..) (Heap.get?_update_self _ ho rfl)⟩
  | succ i =>
    refine wpAny_bind (wpAny_setState_of ho rfl (tabT_fits led) ?_)
    dsimp only
    rw [show byScan (.bool true) #[(1, .bool true)] = true by decide +kernel]
    simp only [↓reduceIte]
    unfold setAddByScan
    refine wpAny_bind (wpAny_bind (wpAny_rule ?_))
    show wpAny _ _ (setScanFrom a (.bool true) 1 true [(1, .bool true)] 0 >>= _) _ _ _
    refine wpAny_bind ?_
    unfold setScanFrom
    rw [if_pos (by decide)]
    refine wpAny_bind (wpAny_setEpoch_of ho rfl (tabT_fits led) ?_)
    refine wpAny_bind ?_
    unfold eqBool
    rw [if_pos (by decide)]
    refine wpAny_bind (wpAny_rule (wpAny_pure ?_))
    simp only [Bool.and_self, ↓reduceIte]
    refine wpAny_pure (wpAny_pure (wpAny_pure ?_))
    show wpAny _ _ (ret Value.none) _ _ _
    exact wpAny_pure ⟨_, rfl, h _ (Heap.SameBut.refl ..) ho⟩
end
end Mine
end
/-! part S6 -/
section
open PySem PySem.W PyProof.Rows HeadC
set_option maxRecDepth 100000
namespace Mine
noncomputable def ledW (w : World) : Bool := !(w.params.followText "set-order")
section
variable {prog : Program} {w : World} {A : Around} {E : Value → Shared → Prop} {R : Result → Shared → Prop} {s : Shared} {h₀ : Heap} {L : Addr} {m : Str → Option Value} {env : Env}
theorem newSet_led {Q : Value → Shared → Prop} (h : Q (.ref s.heap.objs.size) { s with heap := s.heap.push (setT (ledW w) 0) }) : wpAny (model prog w) A (newSet (.type "set")) Q E s := by
  unfold newSet setsByText
  refine wpAny_bind (wpAny_bind (wpAny_askSetting (wpAny_pure ?_)))
  dsimp only
  simp only [newObj]
  exact wpAny_bind (wpAny_alloc (wpAny_pure h))
theorem comp_set_true {elt iter : Expr} {x : Str} {px : Pos} {scope : Scope} {cl : List (Str × Addr)} {pos : Pos} {Q : Value → Shared → Prop} (_F₀ : Fr h₀ L s.heap m)
    (hclos : closureFor scope env = pure cl) (hcell : ∀ y ∈ scope.names, y.2 ≠ .cell) (hkind : scope.kind = .function)
    (hnames : ∀ y ∈ scope.names, y.2 = .local → scope.names.lookup y.1 = some .local) (hx : scope.names.lookup x = some .local)
    (h : wpAny (model prog w) A (eval iter env) (CSrc prog w A h₀ L m (fun s₂ news _ n P => 0 < n ∧ n ≤ 1000 ∧
      (∀ i v I oI C oC D oD m₂ h tk, i < n → P i v → LCg.NsObj oC m₂ → m₂ x = some v → Fr h₀ L h m → News h₀ L h ((I, oI) :: (C, oC) :: (D, oD) :: news) →
        wpAny (model prog w) A (eval elt (compEnvC scope cl C env)) (fun y s₃ => ∃ h' tk', s₃ = { s₂ with heap := h', toks := tk' } ∧ Fr h₀ L h' m ∧ News h₀ L h' ((I, oI) :: (C, oC) :: (D, oD) :: news) ∧ y = .bool true) (fun _ _ => False) { s₂ with heap := h, toks := tk }) ∧
      (∀ D h tk, Fr h₀ L h m → News h₀ L h ((D, setT (ledW w) 1) :: news) → (∀ p ∈ news, p.1 ≠ D) → Q (.ref D) { s₂ with heap := h, toks := tk }))) E s)
    (hs : ∀ x, foldedSetIterable iter env x = pure x := by intro _; rfl) :
    wpAny (model prog w) A (eval (.SetComp elt [⟨.Name x px, iter, [], 0⟩] scope pos) env) Q E s := by
  rw [arm_eval_SetComp]
  dsimp only
  refine wpAny_comprehension_free (use := none) rfl hs hclos hkind hnames (wpAny_mono h (fun xv s₁ h₁ => ?_) fun _ _ e => e)
  try ((fail_if_success (with_reducible show Gz)); with_reducible (first | (refine letW ?_; intro Gz) | (refine letWC ?_; intro Gz)))
  refine Mine.E4 ?_ h₁
  clear h₁
  intro news fx n P
  refine Mine.A5 ?_
  intro N src hfx hn
  intro R
  refine wpAny_noRaise (wpAny_mono src (fun it s₂ hs₂ => ?_) fun _ _ e => e)
  try ((fail_if_success (with_reducible show Gz)); with_reducible (first | (refine letW ?_; intro Gz) | (refine letWC ?_; intro Gz)))
  refine Mine.E4 ?_ hs₂
  clear hs₂
  intro I St h₂ tk₂
  refine Mine.A8 ?_
  intro hR1
  subst hR1
  intro hR2
  subst hR2
  intro W hst F N₂ hfix
  refine Mine.A5 ?_
  intro hIL hI0 hlt hne
  intro hSt
  try ((fail_if_success (with_reducible show Gz)); with_reducible (first | (refine letW ?_; intro Gz) | (refine letWC ?_; intro Gz)))
  refine Mine.A4 ?_ (R h₂ tk₂)
  intro hpos hn1 turn
  intro fin
  have W2 := walks_fx W hne
  try ((fail_if_success (with_reducible show Gz)); with_reducible (first | (refine letW ?_; intro Gz) | (refine letWC ?_; intro Gz)))
  obtain ⟨oI, hoI⟩ := hSt _ _ hst
  have hIlt : I < h₂.objs.size := Heap.lt_size hoI
  refine newSet_led ?_
  have hoD : (h₂.push (setT (ledW w) 0)).get? h₂.objs.size = some (setT (ledW w) 0) := Heap.get?_push_size _ rfl
  refine wpAny_newFunctionEnv hcell (by intro y hy; simp at hy) (fun h₁ hns₁ hsb₁ => ?_) hkind
  dsimp only at hns₁ hsb₁ hoD ⊢
  generalize hH1 : h₂.push (setT (ledW w) 0) = H1 at hoD hns₁ hsb₁ ⊢
  try ((fail_if_success (with_reducible show Gz)); with_reducible (first | (refine letW ?_; intro Gz) | (refine letWC ?_; intro Gz)))
  obtain ⟨D, hD⟩ : ∃ D, D = h₂.objs.size := ⟨_, rfl⟩
  try ((fail_if_success (with_reducible show Gz)); with_reducible (first | (refine letW ?_; intro Gz) | (refine letWC ?_; intro Gz)))
  obtain ⟨C, hC⟩ : ∃ C, C = H1.objs.size := ⟨_, rfl⟩
  have hCD1 : C = D + 1 := by rw [hC, hD, ← hH1, Heap.size_push]
  rw [← hD] at hoD ⊢
  rw [← hC] at hns₁ hsb₁ ⊢
  have hDC : D ≠ C := by rw [hCD1]; exact Nat.ne_of_lt (Nat.lt_succ_self _)
  have old : ∀ b o, h₂.get? b = some o → h₁.get? b = some o := fun b o e => by
    have hb := Heap.lt_size e
    refine hsb₁.extBut b o ?_ (Heap.get?_push_of_some _ (hH1 ▸ Heap.get?_push_of_some _ e))
    rw [hCD1, hD]; exact Nat.ne_of_lt (Nat.lt_succ_of_lt hb)
  have fresh₀ : ∀ a, h₂.objs.size ≤ a → h₀.get? a = none := fun a ha => by
    cases e : h₀.get? a with
    | none => rfl
    | some o' => exact absurd (Heap.lt_size (F.keep a o' e)) (Nat.not_lt.mpr ha)
  have hD0 : h₀.get? D = none := fresh₀ D (Nat.le_of_eq hD.symm)
  have hC0 : h₀.get? C = none := fresh₀ C (by rw [hCD1, hD]; exact Nat.le_succ _)
  have hLD : D ≠ L := by rw [hD]; exact Nat.ne_of_gt F.ns.lt
  have hLC : C ≠ L := by rw [hCD1, hD]; exact Nat.ne_of_gt (Nat.lt_succ_of_lt F.ns.lt)
  have hID : I ≠ D := by rw [hD]; exact Nat.ne_of_lt hIlt
  have hIC : I ≠ C := by rw [hCD1, hD]; exact Nat.ne_of_lt (Nat.lt_succ_of_lt hIlt)
  have hnD : ∀ p ∈ news, p.1 ≠ D := fun p hp => by rw [hD]; exact Nat.ne_of_lt (Heap.lt_size (N₂ p hp).1)
  have hnC : ∀ p ∈ news, p.1 ≠ C := fun p hp => by rw [hCD1, hD]; exact Nat.ne_of_lt (Nat.lt_succ_of_lt (Heap.lt_size (N₂ p hp).1))
  have hnI : ∀ p ∈ news, p.1 ≠ I := fun p hp => Nat.ne_of_lt (hlt p hp)
  have hfD : ∀ p ∈ fx, p.1 ≠ D := fun p hp => by rw [hD]; exact Nat.ne_of_lt (Heap.lt_size (hfix p hp))
  have hfC : ∀ p ∈ fx, p.1 ≠ C := fun p hp => by rw [hCD1, hD]; exact Nat.ne_of_lt (Nat.lt_succ_of_lt (Heap.lt_size (hfix p hp)))
  have hoD1 : h₁.get? D = some (setT (ledW w) 0) := hsb₁.extBut _ _ hDC (Heap.get?_push_of_some _ hoD)
  have stM : ∀ {i : Nat} {h h' : Heap}, (St i h ∧ ∀ p ∈ fx, h.get? p.1 = some p.2) → (∀ b o, b ≠ C → b ≠ D → h.get? b = some o → h'.get? b = some o) → (St i h' ∧ ∀ p ∈ fx, h'.get? p.1 = some p.2) := fun {i h h'} st hk =>
    W2.frame i h h' st fun b hb o e => by
      rcases List.mem_cons.mp hb with rfl | hb
      · exact hk _ _ hIC hID e
      · try ((fail_if_success (with_reducible show Gz)); with_reducible (first | (refine letW ?_; intro Gz) | (refine letWC ?_; intro Gz)))
        refine Exists.elim (List.mem_map.mp hb) ?_
        intro p
        refine And.elim ?_
        intro hp
        intro hR3
        subst hR3
        exact hk _ _ (hfC p hp) (hfD p hp) e
  have hst₁ : St 0 h₁ ∧ ∀ p ∈ fx, h₁.get? p.1 = some p.2 := W2.frame 0 h₂ h₁ ⟨hst, hfix⟩ fun b _ o e => old b o e
  have loop : ∀ s₃ : Shared, s₃ = { s₁ with heap := h₁, toks := tk₂ + ([] : List (Str × Value)).length } →
      codeAny (model prog w) A (.compLoop (.SetComp elt [⟨.Name x px, iter, [], 0⟩] scope pos) 0 (.ref I) (.ref D) (compEnvC scope cl C env)) (compPost (model prog w) A E none Q (.ref D) C) s₃ := by
    rintro s₃ rfl
    refine loop_set (fun k s' => ∃ h' tk i m', s' = { s₁ with heap := h', toks := tk } ∧ i ≤ n ∧ k = n + 1 - i ∧ (St i h' ∧ ∀ p ∈ fx, h'.get? p.1 = some p.2) ∧ Fr h₀ L h' m ∧ h'.Ns C m' ∧ News h₀ L h' ((D, setT (ledW w) i) :: news)) ?_ (n + 1)
      (Mine.I4 h₁ _ 0 _ ⟨rfl, Nat.zero_le _, rfl, hst₁, F.keeps old, hns₁, fun p hp => ?_⟩)
    · rintro k s' hz2
      try ((fail_if_success (with_reducible show Gz)); with_reducible (first | (refine letW ?_; intro Gz) | (refine letWC ?_; intro Gz)))
      refine Mine.E4 ?_ hz2
      clear hz2
      intro h' tk i m'
      refine Mine.A6 ?_
      intro hR4
      subst hR4
      intro hi hR5
      subst hR5
      intro hst' F'
      refine And.elim ?_
      intro hn'
      intro N'
      try ((fail_if_success (with_reducible show wpAny _ _ _ Qz _ _)); with_reducible (first | (refine letQ ?_; intro Qz) | (refine letQC ?_; intro Qz)))
      try ((fail_if_success (with_reducible show wpAny _ _ _ _ _ Sz)); with_reducible (first | (refine letS ?_; intro Sz) | (refine letSC ?_; intro Sz)))
      by_cases hin : i < n
      · refine W2.item i _ _ _ hin hst' fun v h₂' tk₂' hPv hst₂ hk₂ => ?_
        refine wpAny_assign_Name (wpAny_storeName_local (lookup_relabel_local hx) (hn'.at' fun o e => hk₂ _ o (by simpa using Ne.symm hIC) e) (fun h₃ hn₃ hs₃ => ?_) (by simp [compEnvC, relabel, hkind]))
        refine wpAny_mono ?_ (fun _ _ h' => h') (fun _ _ h' => h')
        have st3 := stM hst₂ (h' := h₃) fun b o h1 _ e => hs₃.extBut b o h1 e
        try ((fail_if_success (with_reducible show Gz)); with_reducible (first | (refine letW ?_; intro Gz) | (refine letWC ?_; intro Gz)))
        obtain ⟨oI', hoI'⟩ := hSt _ _ st3.1
        try ((fail_if_success (with_reducible show Gz)); with_reducible (first | (refine letW ?_; intro Gz) | (refine letWC ?_; intro Gz)))
        refine Exists.elim (LCg.ns_obj hn₃) ?_
        intro oC
        refine And.elim ?_
        intro hoC
        intro hnC3
        have F₃ : Fr h₀ L h₃ m := (LCg.fr_but F' hk₂ hIL.symm hI0).change hs₃ hLC hC0
        have N₃ : News h₀ L h₃ ((I, oI') :: (C, oC) :: (D, setT (ledW w) i) :: news) := fun p hp => by
          rcases List.mem_cons.mp hp with rfl | hp
          · exact ⟨hoI', hIL, hI0⟩
          rcases List.mem_cons.mp hp with rfl | hp
          · exact ⟨hoC, hLC, hC0⟩
          refine ⟨hs₃.extBut _ _ ?_ (hk₂ _ _ ?_ (N' p hp).1), (N' p hp).2⟩
          · rcases List.mem_cons.mp hp with rfl | hp
            · exact hDC
            · exact hnC p hp
          · rcases List.mem_cons.mp hp with rfl | hp
            · simpa using hID.symm
            · simpa using hnI p hp
        refine wpAny_mono (turn i v I oI' C oC D (setT (ledW w) i) _ h₃ _ hin hPv hnC3 (by simp) F₃ N₃) (fun y s₄ h₄ => ?_) (fun _ _ e => e.elim)
        try ((fail_if_success (with_reducible show Gz)); with_reducible (first | (refine letW ?_; intro Gz) | (refine letWC ?_; intro Gz)))
        refine Mine.E2 ?_ h₄
        clear h₄
        intro h₄ tk₄
        refine Mine.A4 ?_
        intro hR6
        subst hR6
        intro F₄ N₄
        intro hR7
        subst hR7
        have zI := (N₄ _ (.head _)).1
        have zC := (N₄ _ (.tail _ (.head _))).1
        have zD := N₄ _ (.tail _ (.tail _ (.head _)))
        have st4 : St (i + 1) h₄ ∧ ∀ p ∈ fx, h₄.get? p.1 = some p.2 := W2.frame _ h₃ h₄ st3 fun b hb o e => by
          rcases List.mem_cons.mp hb with rfl | hb
          · rw [hoI'] at e; cases e; exact zI
          · try ((fail_if_success (with_reducible show Gz)); with_reducible (first | (refine letW ?_; intro Gz) | (refine letWC ?_; intro Gz)))
            refine Exists.elim (List.mem_map.mp hb) ?_
            intro p
            refine And.elim ?_
            intro hp
            intro hR8
            subst hR8
            rw [st3.2 p hp] at e; cases e
            rcases hfx p hp with h | h
            · exact F₄.keep _ _ h
            · exact (N₄ p (.tail _ (.tail _ (.tail _ h)))).1
        refine call_add_true zD.1 fun h₅ hs₅ hoD5 => ?_
        refine ⟨n + 1 - (i + 1), ⟨by omega, Mine.I4 h₅ _ (i + 1) _ ⟨rfl, hin, rfl, stM st4 fun b o _ h2 e => hs₅.extBut b o h2 e, F₄.change hs₅ hLD hD0, (hnC3.ns zC).sameBut hs₅ (Ne.symm hDC), fun p hp => ?_⟩⟩⟩
        rcases List.mem_cons.mp hp with rfl | hp
        · exact ⟨hoD5, hLD, hD0⟩
        · exact ⟨hs₅.extBut _ _ (hnD p hp) (N₄ p (.tail _ (.tail _ (.tail _ hp)))).1, (N₂ p hp).2⟩
      · obtain rfl : i = n := Nat.le_antisymm hi (Nat.not_lt.mp hin)
        refine W2.done _ _ _ hst' fun h₂' tk₂' hk₂ => ?_
        have F6 := LCg.fr_but F' hk₂ hIL.symm hI0
        have N6 : News h₀ L h₂' ((D, setT (ledW w) i) :: news) := LCg.news_but N' hk₂ fun p hp => by
          rcases List.mem_cons.mp hp with rfl | hp
          · exact hID.symm
          · exact hnI p hp
        try ((fail_if_success (with_reducible show Gz)); with_reducible (first | (refine letW ?_; intro Gz) | (refine letWC ?_; intro Gz)))
        obtain ⟨j, rfl⟩ : ∃ j, i = j + 1 := ⟨i - 1, by omega⟩
        replace N6 : News h₀ L h₂' ((D, setT (ledW w) 1) :: news) := N6
        refine ⟨m', hn'.at' fun o e => hk₂ _ o (by simpa using Ne.symm hIC) e, fun h'' hs'' => fin D h'' _ (F6.change hs'' hLC hC0) (fun p hp => ?_) hnD⟩
        refine ⟨hs''.extBut _ _ ?_ (N6 p hp).1, (N6 p hp).2⟩
        rcases List.mem_cons.mp hp with rfl | hp
        · exact hDC
        · exact hnC p hp
    · rcases List.mem_cons.mp hp with rfl | hp
      · exact ⟨hoD1, hLD, hD0⟩
      · exact ⟨old _ _ (N₂ p hp).1, (N₂ p hp).2⟩
  exact start_set (loop _ rfl) (W2.self 0 _ _ _ hst₁ (loop _ rfl))
end
end Mine
end
/-! part B13 -/
section
example : True := by w_top off; trivial
open PySem PySem.W PyProof.Rows HeadC
set_option maxRecDepth 100000
namespace Mine
/-! ### x, = {True} -/
theorem owner_set_iterator : Manifest.owners.lookup (String.ofList ['r', 'o', 't', 'a', 'r', 'e', 't', 'i', '_', 't', 'e', 's'].reverse) = some Manifest.sig_set_iterator := by kernel_rfl
theorem slot_setiter_next : Slot "set_iterator" "__next__" "set_iterator.__next__" :=
  .of (owner := "set_iterator") (n := "__next__") (by rw [typeLookup_type, builtinLookup_eq_fast]; kernel_rfl) (by decide +kernel) (by decide +kernel) (by decide +kernel)
    (by first | exact .inl (by decide +kernel) | exact .inr (by decide +kernel)) (by rw [isSubtype_type]; kernel_rfl)
theorem args_setiter_next (a : Value) : argsOk "set_iterator.__next__" ⟨[a], []⟩ := by
  unfold argsOk; rw [signature?_of (id := "set_iterator.__next__") (n := ['_', '_', 't', 'x', 'e', 'n', '_', '_']) (o := ['r', 'o', 't', 'a', 'r', 'e', 't', 'i', '_', 't', 'e', 's']) (by kernel_rfl) owner_set_iterator]; kernel_rfl
theorem entry_setiter_next : entryFor table "set_iterator.__next__" = some Builtin.«set_iterator.__next__» := entryFor_of_tree (by kernel_rfl)
theorem entry_set_iter' : entryFor table "set.__iter__" = some Builtin.«frozenset.__iter__» :=
  entryFor_alias (id' := "frozenset.__iter__") (by kernel_rfl) (by first | rfl | decide +kernel | (unfold String.splitOn; simp +decide [String.splitOnAux])) (by decide +kernel) (by kernel_rfl)
noncomputable abbrev itS (D : Addr) (j i : Int) : Obj := { cls := .type "set_iterator", data := .fields #[.int j 0, .int i 0, .ref D, .int 1 0, .int 1 0] }
section
variable {prog : Program} {w : World} {A : Around} {E : Value → Shared → Prop} {s : Shared}
theorem drawn_setT {D : Addr} {Q : Bool → Shared → Prop} (ho : s.heap.get? D = some (setT (ledW w) 1)) (h : Q false s) : wpAny (model prog w) A (setDrawn D) Q E s := by
  unfold setDrawn setsByText
  refine wpAny_bind (wpAny_setState_of ho rfl (tabT_fits _) ?_)
  refine wpAny_bind (wpAny_bind (wpAny_askSetting (wpAny_pure ?_)))
  refine wpAny_pure ?_
  show Q (!(w.params.followText "set-order") && (!(tabT (ledW w)).plain && _)) s
  rw [tabT_plain]
  simpa using h
theorem iter_setT {D : Addr} {Q : Value → Shared → Prop} (ho : s.heap.get? D = some (setT (ledW w) 1))
    (h : Q (.ref s.heap.objs.size) { s with heap := s.heap.push (itS D 0 0) }) : wpAny (model prog w) A (pyIter (.ref D)) Q E s := by
  have hT : s.TypeIs (.ref D) "set" := ⟨_, ho, rfl⟩
  refine wpAny_pyIter_slot hT F.slot_set_iter (wpAny_call_entry F.slot_set_iter hT entry_set_iter' ?_ (F.args_set_iter_1 _))
  unfold Builtin.«frozenset.__iter__»
  refine wpAny_bind (m := Builtin.Frozenset.slot0 _ _) (wpAny_pure ?_)
  refine wpAny_bind (m := Builtin.Frozenset.sizeOf D) ?_
  unfold Builtin.Frozenset.sizeOf
  refine wpAny_bind (wpAny_setEntries_of ho rfl (tabT_fits _) (wpAny_pure ?_))
  refine wpAny_bind (drawn_setT ho ?_)
  simp only [Bool.false_eq_true, ↓reduceIte]
  refine wpAny_bind (wpAny_pure ?_)
  refine wpAny_bind (wpAny_setEpoch_of ho rfl (tabT_fits _) ?_)
  unfold newFields
  refine wpAny_bind (wpAny_newObj_type ?_)
  exact wpAny_pure ⟨_, rfl, "set_iterator", _, ⟨_, Heap.get?_push_size _ rfl, rfl⟩, slot_setiter_next.lookup, h⟩
theorem pick_one {α : Type} (f : Nat → Nat) (x : α) : pickOrder f #[x] = #[x] := by
  show pickOrder.go f 1 0 [x] #[] = _
  unfold pickOrder.go
  have : f 0 % [x].length = 0 := Nat.mod_one _
  rw [this]
  rfl
noncomputable def jT (w : World) : Nat := if w.params.followText "set-order" = true then 0 else 2
theorem setNext_0 {D : Addr} {Q : Option (Value × Nat) → Shared → Prop} (ho : s.heap.get? D = some (setT (ledW w) 1)) (h : Q (some (.bool true, jT w)) s) :
    wpAny (model prog w) A (setNext D 0 0 1) Q E s := by
  unfold setNext setsByText
  refine wpAny_bind (wpAny_setState_of ho rfl (tabT_fits _) ?_)
  dsimp only
  refine wpAny_bind (wpAny_bind (wpAny_askSetting (wpAny_pure ?_)))
  unfold jT at h
  by_cases hb : w.params.followText "set-order" = true
  · rw [if_pos hb] at h
    rw [if_pos (show (model prog w).w.params.followText "set-order" = true from hb)]
    rw [if_neg (by decide)]
    unfold setWalk setsByText
    refine wpAny_bind (wpAny_bind (wpAny_setState_of ho rfl (tabT_fits _) ?_))
    refine wpAny_bind (wpAny_bind (wpAny_askSetting (wpAny_pure ?_)))
    rw [if_pos (show (model prog w).w.params.followText "set-order" = true from hb)]
    refine wpAny_bind (wpAny_askSetting (wpAny_pure (wpAny_pure ?_)))
    rw [pick_one]
    exact h
  · rw [if_neg hb] at h
    rw [if_neg (show ¬ (model prog w).w.params.followText "set-order" = true from hb)]
    have hl : ledW w = true := by unfold ledW; simp [hb]
    rw [hl]
    split
    · rename_i hd
      exact absurd hd (by decide +kernel)
    · refine wpAny_bind (wpAny_of_eq (a := ()) (by kernel_rfl) (wpAny_pure ?_))
      refine Eq.mpr (congrArg (fun r => Q r s) (a₂ := some (.bool true, 2)) ?_) h
      kernel_rfl
theorem setNext_1 {D : Addr} {Q : Option (Value × Nat) → Shared → Prop} (ho : s.heap.get? D = some (setT (ledW w) 1)) (h : Q none s) :
    wpAny (model prog w) A (setNext D (jT w) 1 1) Q E s := by
  unfold setNext setsByText
  refine wpAny_bind (wpAny_setState_of ho rfl (tabT_fits _) ?_)
  dsimp only
  refine wpAny_bind (wpAny_bind (wpAny_askSetting (wpAny_pure ?_)))
  by_cases hb : w.params.followText "set-order" = true
  · rw [if_pos (show (model prog w).w.params.followText "set-order" = true from hb)]
    rw [if_neg (by decide)]
    unfold setWalk setsByText
    refine wpAny_bind (wpAny_bind (wpAny_setState_of ho rfl (tabT_fits _) ?_))
    refine wpAny_bind (wpAny_bind (wpAny_askSetting (wpAny_pure ?_)))
    rw [if_pos (show (model prog w).w.params.followText "set-order" = true from hb)]
    refine wpAny_bind (wpAny_askSetting (wpAny_pure (wpAny_pure ?_)))
    rw [pick_one]
    exact h
  · rw [if_neg (show ¬ (model prog w).w.params.followText "set-order" = true from hb)]
    have hl : ledW w = true := by unfold ledW; simp [hb]
    have hj : jT w = 2 := by unfold jT; rw [if_neg hb]
    rw [hl, hj]
    split
    · rename_i hd
      exact absurd hd (by decide +kernel)
    · refine wpAny_bind (wpAny_of_eq (a := ()) (by kernel_rfl) (wpAny_pure ?_))
      refine Eq.mpr (congrArg (fun r => Q r s) (a₂ := none) ?_) h
      kernel_rfl
theorem next_setT0 {D it : Addr} {Q : Option Value → Shared → Prop} (ho : s.heap.get? D = some (setT (ledW w) 1)) (hi : s.heap.get? it = some (itS D 0 0)) (hne : it ≠ D)
    (h : ∀ h', Heap.SameBut it s.heap h' → h'.get? it = some (itS D (jT w) 1) → Q (some (.bool true)) { s with heap := h' }) : wpAny (model prog w) A (pyNext (.ref it)) Q E s := by
  have hT : s.TypeIs (.ref it) "set_iterator" := ⟨_, hi, rfl⟩
  unfold pyNext
  refine wpAny_bind (wpAny_attempt (wpAny_callSpecial?_slot (name := Str.ofString "__next__") hT slot_setiter_next
    (wpAny_call_entry slot_setiter_next hT entry_setiter_next ?_ (args_setiter_next _))))
  unfold Builtin.«set_iterator.__next__»
  show wpAny _ _ (fieldsOf (.ref it) >>= _) _ _ s
  refine wpAny_bind (wpAny_fieldsOf hi rfl ?_)
  dsimp only
  show wpAny _ _ (setEntries D >>= _) _ _ s
  refine wpAny_bind (wpAny_setEntries_of ho rfl (tabT_fits _) ?_)
  rw [if_neg (by decide)]
  refine wpAny_bind (setNext_0 ho ?_)
  dsimp only
  refine wpAny_bind (wpAny_setField_rec hi (by simp) fun h1 hi1 hs1 => ?_)
  refine wpAny_bind (wpAny_setField_rec hi1 (by simp) fun h2 hi2 hs2 => ?_)
  exact wpAny_pure ⟨_, rfl, wpAny_pure (h h2 (hs1.trans hs2) hi2)⟩
theorem next_setT1 {D it : Addr} {Q : Option Value → Shared → Prop} (hh : A.handled = none) (ho : s.heap.get? D = some (setT (ledW w) 1)) (hi : s.heap.get? it = some (itS D (jT w) 1)) (hne : it ≠ D)
    (h : ∀ h', Heap.ExtBut it s.heap h' → Q none { s with heap := h' }) : wpAny (model prog w) A (pyNext (.ref it)) Q E s := by
  have hT : s.TypeIs (.ref it) "set_iterator" := ⟨_, hi, rfl⟩
  unfold pyNext
  refine wpAny_bind (wpAny_attempt (wpAny_callSpecial?_slot (name := Str.ofString "__next__") hT slot_setiter_next
    (wpAny_call_entry slot_setiter_next hT entry_setiter_next ?_ (args_setiter_next _))))
  unfold Builtin.«set_iterator.__next__»
  show wpAny _ _ (fieldsOf (.ref it) >>= _) _ _ s
  refine wpAny_bind (wpAny_fieldsOf hi rfl ?_)
  dsimp only
  show wpAny _ _ (setEntries D >>= _) _ _ s
  refine wpAny_bind (wpAny_setEntries_of ho rfl (tabT_fits _) ?_)
  rw [if_neg (by decide)]
  refine wpAny_bind (setNext_1 ho ?_)
  dsimp only
  refine wpAny_bind (wpAny_setField_rec hi (by simp) fun h1 hi1 hs1 => ?_)
  show wpAny _ _ (newExc (.type "StopIteration") [] >>= _) _ _ _
  refine wpAny_bind ?_
  simp only [newExc, newTuple]
  refine wpAny_bind (wpAny_newObj_type ?_ (by size_fits))
  refine wpAny_bind (m := firstArgMember _ _) (wpAny_of_eq (a := Value.none) (by first | rfl | (simp only [firstArgMember]; rfl)) ?_)
  refine wpAny_newObj_type ?_ (by size_fits)
  simp only [raiseNew]
  refine wpAny_bind (wpAny_handled ?_)
  rw [show A.in1.handled = none from hh]
  refine wpAny_bind (wpAny_pure (wpAny_throw ?_))
  refine wpAny_bind (wpAny_isInstance (T := "StopIteration") (b := true) ⟨_, Heap.get?_push_size _ rfl, rfl⟩ isSubtype_stop (wpAny_pure (h _ ?_)))
  exact ((hs1.extBut.push _).push _)
theorem unpack_setT {h₀ : Heap} {L D : Addr} {m : Str → Option Value} {news : List (Addr × Obj)} {Q : List Value → Shared → Prop} (hh : A.handled = none) (F : Fr h₀ L s.heap m) (N : News h₀ L s.heap news) (hD : (D, setT (ledW w) 1) ∈ news)
    (h : ∀ h', Fr h₀ L h' m → News h₀ L h' news → Q [.bool true] { s with heap := h' }) : wpAny (model prog w) A (unpackItems (.ref D) 1 none) Q E s := by
  have ho := (N _ hD).1
  have hT : s.TypeIs (.ref D) "set" := ⟨_, ho, rfl⟩
  unfold unpackItems
  refine wpAny_bind ?_
  unfold notIterableAtAll
  refine wpAny_bind (wpAny_specialOf hT PySem.F.slot_set_iter.lookup ?_)
  refine wpAny_pure ?_
  simp only [Bool.false_eq_true, if_false]
  refine wpAny_bind (wpAny_holding (iter_setT ho ?_))
  have F1 := F.push (itS D 0 0)
  have N1 := N.push F (itS D 0 0)
  have hlt : ∀ p ∈ news, p.1 < s.heap.objs.size := fun p hp => Heap.lt_size (N p hp).1
  generalize s.heap.objs.size = it at N1 hlt ⊢
  have z := N1 _ (.head _)
  have hne : it ≠ D := Nat.ne_of_gt (hlt _ hD)
  refine wpAny_bind (wpAny_holding ?_)
  show wpAny _ _ (pyNext (.ref it) >>= _) _ _ _
  refine wpAny_bind (next_setT0 (N1 _ (.tail _ hD)).1 z.1 hne fun h2 hs2 hi2 => ?_)
  refine wpAny_bind (wpAny_holding (wpAny_pure (wpAny_pure ?_)))
  rw [if_neg (by simp)]
  refine wpAny_bind (wpAny_holding (next_setT1 hh ((hs2.2 D hne.symm).trans (N1 _ (.tail _ hD)).1) hi2 hne fun h3 hs3 => ?_))
  simp only [Option.isSome_none, Bool.false_eq_true, if_false]
  have hk : Heap.ExtBut it _ h3 := fun b o hb e => hs3 b o hb (hs2.extBut b o hb e)
  refine wpAny_pure (h h3 ⟨F1.ns.at' fun o e => hk L o (Ne.symm z.2.1) e, fun b o e => hk b o (fun q => by rw [q, z.2.2] at e; cases e) (F1.keep b o e), F1.above⟩ fun p hp => ?_)
  have zp := N1 p (.tail _ hp)
  exact ⟨hk _ _ (Nat.ne_of_lt (hlt p hp)) zp.1, zp.2⟩
end
end Mine
end
/-! part P13 -/
section
example : True := by w_top off; trivial
open PySem PySem.W PyProof.Rows HeadC
set_option maxRecDepth 10000
namespace Mine
/-! ### a way split at '/' -/
theorem join_cps : ∀ (l : List Str) (a : Str), (Str.join ⟨#[47]⟩ (a :: l)).cps.toList = a.cps.toList ++ l.flatMap fun p => 47 :: p.cps.toList
  | [], a => by show a.cps.toList = _; simp
  | b :: l, a => by
    have := join_cps l b
    show ((a ++ ⟨#[47]⟩) ++ Str.join ⟨#[47]⟩ (b :: l) : Str).cps.toList = _
    rw [Str.cps_append, Array.toList_append, this, Str.cps_append, Array.toList_append]
    simp
theorem parts_uniq : ∀ (p q : List Nat) (ps qs : List (List Nat)), 47 ∉ p → 47 ∉ q → (∀ x ∈ ps, 47 ∉ x) → (∀ x ∈ qs, 47 ∉ x) →
    p ++ ps.flatMap (fun x => 47 :: x) = q ++ qs.flatMap (fun x => 47 :: x) → p = q ∧ ps = qs
  | [], [], [], [], _, _, _, _, _ => ⟨rfl, rfl⟩
  | [], [], [], y :: qs, _, _, _, _, h => by simp at h
  | [], [], x :: ps, [], _, _, _, _, h => by simp at h
  | [], [], x :: ps, y :: qs, _, _, h1, h2, h => by
    simp only [List.nil_append, List.flatMap_cons, List.cons_append, List.cons.injEq, true_and] at h
    obtain ⟨e1, e2⟩ := parts_uniq x y ps qs (h1 x (.head _)) (h2 y (.head _)) (fun z hz => h1 z (.tail _ hz)) (fun z hz => h2 z (.tail _ hz)) h
    exact ⟨rfl, by rw [e1, e2]⟩
  | [], b :: q, [], qs, _, _, _, _, h => by simp at h
  | [], b :: q, x :: ps, qs, _, hq, _, _, h => by
    simp only [List.nil_append, List.flatMap_cons, List.cons_append, List.cons.injEq] at h
    exact absurd (h.1 ▸ List.mem_cons_self) hq
  | a :: p, [], ps, [], _, _, _, _, h => by simp at h
  | a :: p, [], ps, y :: qs, hp, _, _, _, h => by
    simp only [List.nil_append, List.flatMap_cons, List.cons_append, List.cons.injEq] at h
    exact absurd (h.1 ▸ List.mem_cons_self) hp
  | a :: p, b :: q, ps, qs, hp, hq, h1, h2, h => by
    simp only [List.cons_append, List.cons.injEq] at h
    obtain ⟨e1, e2⟩ := parts_uniq p q ps qs (fun z => hp (.tail _ z)) (fun z => hq (.tail _ z)) h1 h2 h.2
    exact ⟨by rw [h.1, e1], e2⟩
/-- the parts -/
noncomputable def partsW : Way → List Str
  | [] => [⟨#[]⟩, ⟨#[]⟩]
  | a :: c => ⟨#[]⟩ :: (a :: c).map Nm.txt
theorem txt_free (n : Nm) : 47 ∉ n.txt.cps.toList := by cases n <;> decide
theorem txt_one (n : Nm) : n.txt.cps.toList = [n.chr] := by cases n <;> rfl
theorem split_way (c : Way) : Txt.split (waS c) (Str.ofString "/") = partsW c := by
  have hj := StrLaws.join_split (waS c) ⟨#[47]⟩
  have hf := StrLaws.split_free (waS c) 47
  have hp := split_pos (waS c) ⟨#[47]⟩
  rw [show Str.ofString "/" = ⟨#[47]⟩ from rfl]
  generalize Txt.split (waS c) ⟨#[47]⟩ = l at hj hf hp
  cases l with
  | nil => simp at hp
  | cons a l =>
    have h1 : a.cps.toList ++ l.flatMap (fun p => 47 :: p.cps.toList) = wk c := by rw [← join_cps, hj, waS_cps]
    have h2 : (l.map fun p => p.cps.toList).flatMap (fun x => 47 :: x) = l.flatMap fun p => 47 :: p.cps.toList := by rw [List.flatMap_map]
    rw [← h2] at h1
    have fr : ∀ x ∈ l.map (fun p => p.cps.toList), 47 ∉ x := fun x hx => by
      refine Exists.elim (List.mem_map.mp hx) ?_
      intro p
      refine And.elim ?_
      intro hp
      intro hR1
      subst hR1
      exact hf p (.tail _ hp)
    have back : ∀ (l l' : List Str), l.map (fun p => p.cps.toList) = l'.map (fun p => p.cps.toList) → l = l' := by
      intro l
      induction l with
      | nil => intro l' h; cases l' with
        | nil => rfl
        | cons x l' => simp at h
      | cons y l ih => intro l' h; cases l' with
        | nil => simp at h
        | cons x l' =>
          simp only [List.map_cons, List.cons.injEq] at h
          rw [Str.ext_list h.1, ih l' h.2]
    cases c with
    | nil =>
      obtain ⟨e1, e2⟩ := parts_uniq a.cps.toList [] (l.map fun p => p.cps.toList) [[]] (hf a (.head _)) (by simp) fr (by simp) (by rw [h1]; rfl)
      show a :: l = [⟨#[]⟩, ⟨#[]⟩]
      rw [Str.ext_list (show a.cps.toList = (⟨#[]⟩ : Str).cps.toList from e1), back l [⟨#[]⟩] e2]
    | cons n c =>
      obtain ⟨e1, e2⟩ := parts_uniq a.cps.toList [] (l.map fun p => p.cps.toList) ((n :: c).map fun n => n.txt.cps.toList) (hf a (.head _)) (by simp) fr (by
        intro x hx
        refine Exists.elim (List.mem_map.mp hx) ?_
        intro p
        refine And.elim ?_
        intro _
        intro hR2
        subst hR2
        exact txt_free p) (by
        rw [h1, List.flatMap_map]
        simp only [txt_one]
        show wayL ((n :: c).map Nm.chr) = _
        unfold wayL
        rw [List.map_cons]
        simp [List.flatMap_map])
      show a :: l = ⟨#[]⟩ :: (n :: c).map Nm.txt
      rw [Str.ext_list (show a.cps.toList = (⟨#[]⟩ : Str).cps.toList from e1), back l ((n :: c).map Nm.txt) (by rw [e2, List.map_map]; rfl)]
theorem parts_filter (c : Way) : (partsW c).filter (fun p => p.length != 0) = c.map Nm.txt := by
  have hn : ∀ c : Way, (c.map Nm.txt).filter (fun p => p.length != 0) = c.map Nm.txt := fun c => by
    rw [List.filter_eq_self]
    intro p hp
    refine Exists.elim (List.mem_map.mp hp) ?_
    intro n
    refine And.elim ?_
    intro _
    intro hR3
    subst hR3
    cases n <;> rfl
  cases c with
  | nil => rfl
  | cons n c =>
    show ((⟨#[]⟩ : Str) :: (n :: c).map Nm.txt).filter _ = _
    rw [List.filter_cons, if_neg (by decide), hn]
theorem parts_mem {c : Way} {p : Str} (h : p ∈ partsW c) : p = ⟨#[]⟩ ∨ ∃ n : Nm, p = n.txt := by
  cases c with
  | nil => simp [partsW] at h; exact .inl h
  | cons a c =>
    rcases List.mem_cons.mp h with rfl | h
    · exact .inl rfl
    · refine Exists.elim (List.mem_map.mp h) ?_
      intro n
      refine And.elim ?_
      intro _
      intro hR4
      subst hR4
      exact .inr ⟨n, rfl⟩
theorem parts_len (c : Way) : (partsW c).length ≤ c.length + 2 := by cases c <;> simp [partsW]
theorem filter_snoc {l : List Str} {i : Nat} {p : Str} (h : l[i]? = some p) : (l.take (i + 1)).filter (fun p => p.length != 0) = (l.take i).filter (fun p => p.length != 0) ++ if p.length != 0 then [p] else [] := by
  rw [List.take_add_one, h, List.filter_append]
  congr 1
  show List.filter _ [p] = _
  rw [List.filter_cons]
  split <;> rfl
/-! ### a list of lists -/
/-- nw = the objects of the rows (the last first) over base; ys the refs to them -/
noncomputable def RowsJ (PO : Obj → Way → Prop) (cs : List Way) (base : List (Addr × Obj)) (i : Nat) (ys : List Value) (nw : List (Addr × Obj)) : Prop :=
  ∃ ps : List ((Addr × Obj) × Way), ps.map (·.2) = cs.take i ∧ ys = ps.map (fun p => Value.ref p.1.1) ∧ nw = ps.reverse.map (·.1) ++ base ∧ ∀ p ∈ ps, PO p.1.2 p.2
theorem RowsJ.zero (PO : Obj → Way → Prop) (cs : List Way) (base : List (Addr × Obj)) : RowsJ PO cs base 0 [] base := ⟨[], rfl, rfl, rfl, fun _ h => nomatch h⟩
theorem RowsJ.snoc {PO : Obj → Way → Prop} {cs : List Way} {base : List (Addr × Obj)} {i : Nat} {ys : List Value} {nw : List (Addr × Obj)} {c : Way} {D : Addr} {o : Obj} (h : RowsJ PO cs base i ys nw) (hc : cs[i]? = some c) (hp : PO o c) :
    RowsJ PO cs base (i + 1) (ys ++ [.ref D]) ((D, o) :: nw) := by
  refine Exists.elim h ?_
  clear h
  intro ps
  refine Mine.A4 ?_
  intro h1 hR5
  subst hR5
  intro hR6
  subst hR6
  intro h4
  refine ⟨ps ++ [((D, o), c)], by rw [List.map_append, h1, List.take_add_one, hc]; rfl, by simp, by simp, fun p hp' => ?_⟩
  rcases List.mem_append.mp hp' with h | h
  · exact h4 p h
  · rw [List.mem_singleton.mp h]; exact hp
theorem RowsJ.base {PO : Obj → Way → Prop} {cs : List Way} {base : List (Addr × Obj)} {i : Nat} {ys : List Value} {nw : List (Addr × Obj)} (h : RowsJ PO cs base i ys nw) {p : Addr × Obj} (hp : p ∈ base) : p ∈ nw := by
  refine Exists.elim h ?_
  clear h
  intro ps
  refine Mine.A4 ?_
  intro _ _ hR7
  subst hR7
  intro _
  exact List.mem_append_right _ hp
theorem RowsJ.row {PO : Obj → Way → Prop} {cs : List Way} {base : List (Addr × Obj)} {n : Nat} {ys : List Value} {nw : List (Addr × Obj)} (h : RowsJ PO cs base n ys nw) {i : Nat} {v : Value} (hv : ys[i]? = some v) :
    ∃ D o c, v = .ref D ∧ (D, o) ∈ nw ∧ (cs.take n)[i]? = some c ∧ PO o c := by
  refine Exists.elim h ?_
  clear h
  intro ps
  refine Mine.A4 ?_
  intro h1 hR8
  subst hR8
  intro hR9
  subst hR9
  intro h4
  rw [List.getElem?_map] at hv
  cases e : ps[i]? with
  | none => rw [e] at hv; cases hv
  | some p =>
    rw [e] at hv; cases hv
    have hm := List.mem_of_getElem? e
    refine Mine.I3 p.1.1 p.1.2 p.2 ⟨rfl, List.mem_append_left _ (List.mem_map.mpr ⟨p, List.mem_reverse.mpr hm, rfl⟩), ?_, h4 p hm⟩
    rw [← h1, List.getElem?_map, e]; rfl
theorem RowsJ.len {PO : Obj → Way → Prop} {cs : List Way} {base : List (Addr × Obj)} {n : Nat} {ys : List Value} {nw : List (Addr × Obj)} (h : RowsJ PO cs base n ys nw) : ys.length = min n cs.length := by
  refine Exists.elim h ?_
  clear h
  intro ps
  refine Mine.A4 ?_
  intro h1 hR10
  subst hR10
  intro hR11
  subst hR11
  intro h4
  have := congrArg List.length h1
  simpa using this
end Mine
namespace Mine
theorem slash_len2 : (Str.ofString "/").length = 1 := by decide +kernel
theorem startswith_way (c : Way) : Txt.startswith (waS c) (Str.ofString "/") = true := by
  unfold Txt.startswith
  have h1 : 1 ≤ (waS c).length := by rw [waS_len]; cases c <;> simp; lia
  rw [slash_len2, StrLaws.subAt_eq, slash_len2, waS_cps, show (Str.ofString "/").cps.toList = [47] from slash_cps]
  cases c <;> simp [wk, wayL, h1]
end Mine
namespace Mine
theorem filter_snoc0 {l : List Str} {i : Nat} (h : l[i]? = some ⟨#[]⟩) : (l.take (i + 1)).filter (fun p => p.length != 0) = (l.take i).filter (fun p => p.length != 0) := by
  rw [filter_snoc h, if_neg (by decide), List.append_nil]
theorem filter_snoc1 {l : List Str} {i : Nat} {n : Nm} (h : l[i]? = some n.txt) : (l.take (i + 1)).filter (fun p => p.length != 0) = (l.take i).filter (fun p => p.length != 0) ++ [n.txt] := by
  rw [filter_snoc h, if_pos (by cases n <;> decide)]
theorem txt_dot (n : Nm) : (n.txt != Str.ofString ".") = true := by cases n <;> decide
end Mine
namespace Mine
theorem strs_take : ∀ {vs : List Value} {ys : List Str}, StrsAre vs ys → ∀ k : Nat, StrsAre (vs.take k) (ys.take k)
  | _, _, _, 0 => .nil
  | _, _, .nil, _ + 1 => .nil
  | _, _, .cons n t h, k + 1 => .cons n t (strs_take h k)
theorem pick_take (l : List Value) (i : Nat) : kms_pick l none (some (i : Int)) = l.take i := by
  have e : kms_hi (some (i : Int)) l.length = min i l.length := by
    show (if (i : Int) < 0 then l.length - (-(i : Int)).toNat else min (i : Int).toNat l.length) = _
    rw [if_neg (by lia), Int.toNat_natCast]
  unfold kms_pick
  rw [e]
  show (l.drop 0).take (min i l.length - 0) = _
  simp only [List.drop_zero, Nat.sub_zero]
  rcases Nat.le_total i l.length with h | h
  · rw [Nat.min_eq_left h]
  · rw [Nat.min_eq_right h, List.take_of_length_le (Nat.le_refl _), List.take_of_length_le h]
theorem com3_len : ∀ (a b c : Way), (com3 a b c).length ≤ a.length
  | [], _, _ => by simp [com3]
  | _ :: _, [], _ => by simp [com3]
  | _ :: _, _ :: _, [] => by simp [com3]
  | a :: as, b :: bs, c :: cs => by
    show (if a = b ∧ b = c then a :: com3 as bs cs else []).length ≤ _
    have := com3_len as bs cs
    split <;> simp <;> lia
theorem txt_sum (l : Way) : ((l.map Nm.txt).map (·.length)).sum = l.length := by
  induction l with
  | nil => rfl
  | cons a l ih => rw [List.map_cons, List.map_cons, List.sum_cons, ih, show a.txt.length = 1 by cases a <;> rfl, List.length_cons, Nat.add_comm]
theorem way_join2 (ds : Way) : (Str.ofString "/") ++ Txt.join (Str.ofString "/") (ds.map Nm.txt) = waS ds := by
  rw [← way_join]
  have : signs (nmS ds) = ds.map Nm.txt := by
    unfold signs
    rw [nmS_cps, List.map_map]
    apply List.map_congr_left
    intro n _
    cases n <;> rfl
  rw [this]
end Mine
namespace Mine
theorem pick_drop (l : List Value) (i : Nat) : kms_pick l (some (i : Int)) none = l.drop i := by
  have e : kms_lo (some (i : Int)) l.length = min i l.length := by
    show (if (i : Int) < 0 then l.length - (-(i : Int)).toNat else min (i : Int).toNat l.length) = _
    rw [if_neg (by lia), Int.toNat_natCast]
  unfold kms_pick
  rw [e]
  show (l.drop (min i l.length)).take (l.length - min i l.length) = _
  rcases Nat.le_total i l.length with h | h
  · rw [Nat.min_eq_left h, List.take_of_length_le (by rw [List.length_drop]; lia)]
  · rw [Nat.min_eq_right h, List.drop_of_length_le (Nat.le_refl _), List.drop_of_length_le h, List.take_nil]
end Mine
end
/-! part K2 -/
section
example : True := by w_top off; trivial
open PySem PySem.W PyProof.Rows HeadC
set_option maxRecDepth 100000
namespace Mine
theorem k_fill_nowK2 {w : World} : ∃ _ : Challenge.rw_pd0166_01 = Challenge.rw_pd0166_01, hd.heap_1 w.params = hd.heap_1 w.params := by
  k_fill
  exact ⟨rfl, rfl⟩
theorem it_0 (x : W4) : Txt.item x.txt 0 = ⟨#[x.a.toNat]⟩ := rfl
theorem it_1 (x : W4) : Txt.item x.txt 1 = ⟨#[x.b.toNat]⟩ := rfl
theorem it_2 (x : W4) : Txt.item x.txt 2 = ⟨#[x.c.toNat]⟩ := rfl
theorem it_3 (x : W4) : Txt.item x.txt 3 = ⟨#[x.d.toNat]⟩ := rfl
theorem four (p q r t : Nat) : (((⟨#[p]⟩ : Str) ++ ⟨#[q]⟩) ++ ⟨#[r]⟩) ++ ⟨#[t]⟩ = (⟨#[p, q, r, t]⟩ : Str) := rfl
set_option maxHeartbeats 8000000 in
theorem c_order_2 {prog : Program} {w : World} {mean : ExcName → Option Value} {mg mb : Str → Option Value} {news : List (Addr × Obj)} {x : W4} {t u : Tok} :
    CallC prog w mean mg mb 1 195 [.str x.txt t, .str "2" u] news (fun r news' => (∃ t', r = .str (turn .n2 x).txt t') ∧ news' = news) := by
  intro dp un gd cn cs a ccd cl outer A₀ base h₀ L m s Q E B F X N T hk hdp hun hret
  refine wpAny_call ?_
  k_dflt ktr_enter
  rename_i g' L' h' FG F' N' B' X' T'
  (first | refine letEnv ?_ | refine letEnvC ?_); intro Az envz Qz Ez
  (repeat ((fail_if_success (with_reducible show wpAny _ _ (PySem.subscriptTail _ _ _ _) _ _ _)); walk1))
  refine str_at (it_1 x) rfl rfl ?_
  (repeat ((fail_if_success (with_reducible show wpAny _ _ (PySem.subscriptTail _ _ _ _) _ _ _)); walk1))
  refine str_at (it_0 x) rfl rfl ?_
  (repeat ((fail_if_success (with_reducible show wpAny _ _ (PySem.subscriptTail _ _ _ _) _ _ _)); walk1))
  refine str_at (it_2 x) rfl rfl ?_
  (repeat ((fail_if_success (with_reducible show wpAny _ _ (PySem.subscriptTail _ _ _ _) _ _ _)); walk1))
  refine str_at (it_3 x) rfl rfl ?_
  iterate 1 walk1
  exact leaveK_ F' N' (fun F N => hret _ _ _ _ F N ⟨⟨_, rfl⟩, rfl⟩)
set_option maxHeartbeats 8000000 in
theorem c_order_3 {prog : Program} {w : World} {mean : ExcName → Option Value} {mg mb : Str → Option Value} {news : List (Addr × Obj)} {x : W4} {t u : Tok} :
    CallC prog w mean mg mb 1 195 [.str x.txt t, .str "3" u] news (fun r news' => (∃ t', r = .str (turn .n3 x).txt t') ∧ news' = news) := by
  intro dp un gd cn cs a ccd cl outer A₀ base h₀ L m s Q E B F X N T hk hdp hun hret
  refine wpAny_call ?_
  k_dflt ktr_enter
  rename_i g' L' h' FG F' N' B' X' T'
  (first | refine letEnv ?_ | refine letEnvC ?_); intro Az envz Qz Ez
  (repeat ((fail_if_success (with_reducible show wpAny _ _ (PySem.subscriptTail _ _ _ _) _ _ _)); walk1))
  refine str_at (it_2 x) rfl rfl ?_
  (repeat ((fail_if_success (with_reducible show wpAny _ _ (PySem.subscriptTail _ _ _ _) _ _ _)); walk1))
  refine str_at (it_1 x) rfl rfl ?_
  (repeat ((fail_if_success (with_reducible show wpAny _ _ (PySem.subscriptTail _ _ _ _) _ _ _)); walk1))
  refine str_at (it_0 x) rfl rfl ?_
  (repeat ((fail_if_success (with_reducible show wpAny _ _ (PySem.subscriptTail _ _ _ _) _ _ _)); walk1))
  refine str_at (it_3 x) rfl rfl ?_
  iterate 1 walk1
  exact leaveK_ F' N' (fun F N => hret _ _ _ _ F N ⟨⟨_, rfl⟩, rfl⟩)
set_option maxHeartbeats 8000000 in
theorem c_order_x {prog : Program} {w : World} {mean : ExcName → Option Value} {mg mb : Str → Option Value} {news : List (Addr × Obj)} {x : W4} {t u : Tok} :
    CallC prog w mean mg mb 1 195 [.str x.txt t, .str "x" u] news (fun r news' => (∃ t', r = .str (turn .nx x).txt t') ∧ news' = news) := by
  intro dp un gd cn cs a ccd cl outer A₀ base h₀ L m s Q E B F X N T hk hdp hun hret
  refine wpAny_call ?_
  k_dflt ktr_enter
  rename_i g' L' h' FG F' N' B' X' T'
  (first | refine letEnv ?_ | refine letEnvC ?_); intro Az envz Qz Ez
  (repeat ((fail_if_success (with_reducible show wpAny _ _ (PySem.subscriptTail _ _ _ _) _ _ _)); walk1))
  refine str_at (it_1 x) rfl rfl ?_
  (repeat ((fail_if_success (with_reducible show wpAny _ _ (PySem.subscriptTail _ _ _ _) _ _ _)); walk1))
  refine str_at (it_0 x) rfl rfl ?_
  (repeat ((fail_if_success (with_reducible show wpAny _ _ (PySem.subscriptTail _ _ _ _) _ _ _)); walk1))
  refine str_at (it_3 x) rfl rfl ?_
  (repeat ((fail_if_success (with_reducible show wpAny _ _ (PySem.subscriptTail _ _ _ _) _ _ _)); walk1))
  refine str_at (it_2 x) rfl rfl ?_
  iterate 1 walk1
  exact leaveK_ F' N' (fun F N => hret _ _ _ _ F N ⟨⟨_, rfl⟩, rfl⟩)
theorem c_order {prog : Program} {w : World} {mean : ExcName → Option Value} {mg mb : Str → Option Value} {news : List (Addr × Obj)} {x : W4} {n : Nm} {t u : Tok} :
    CallC prog w mean mg mb 1 195 [.str x.txt t, .str n.txt u] news (fun r news' => (∃ t', r = .str (turn n x).txt t') ∧ news' = news) := by
  cases n
  · exact c_order_2
  · exact c_order_3
  · exact c_order_x
theorem strs_snoc {y : Str} {t : Tok} : ∀ {vs : List Value} {ys : List Str}, StrsAre vs ys → StrsAre (vs ++ [.str y t]) (ys ++ [y])
  | [], _, .nil => .cons _ _ .nil
  | _ :: _, _, .cons _ _ h => .cons _ _ (strs_snoc h)
set_option maxHeartbeats 8000000 in
theorem c_text {prog : Program} {w : World} {mean : ExcName → Option Value} {mg mb : Str → Option Value} {news : List (Addr × Obj)} {x : W4} {t : Tok} :
    CallC prog w mean mg mb 2 181 [.bytes x.arr t] news (fun r news' => (∃ t', r = .str x.txt t') ∧ news' = news) := by
  intro dp un gd cn cs a ccd cl outer A₀ base h₀ L m s Q E B F X N T hk hdp hun hret
  refine wpAny_call ?_
  k_dflt ktr_enter
  rename_i g' L' h' FG F' N' B' X' T'
  (first | refine letEnv ?_ | refine letEnvC ?_); intro Az envz Qz Ez
  (repeat ((fail_if_success (with_reducible show wpAny _ _ (PySem.eval (PySem.Expr.ListComp _ _ _ _) _) _ _ _)); walk1))
  refine comp_src F' (by rfl) (by decide) (by rfl) (by decide) (by rfl) ?_
  iterate 1 walk1
  try ((fail_if_success (with_reducible show Gz)); with_reducible (first | (refine letW ?_; intro Gz) | (refine letWC ?_; intro Gz)))
  obtain ⟨n, hn⟩ : ∃ n, x.arr.size = n := ⟨_, rfl⟩
  have hn4 : n = 4 := hn.symm
  refine CSrc.intro N' (src_bytes hn rfl F' N') (fun _ h => nomatch h) (by rw [sizeLine_eq]; lia) ?_
  intro g tk
  refine comp_rest_inv (fun i ys nw => nw = news ∧ StrsAre ys ((x.arr.toList.take i).map fun c => (⟨#[c.toNat]⟩ : Str))) ?_ ?_ n 0 [] news (Nat.zero_add n) ⟨rfl, .nil⟩
  · rintro i ys nw v I oI C oC D m₂ h tk E' hi ⟨rfl, hys⟩ ⟨c, u, hc, rfl⟩ hC hx F N off ne
    refine letQ ?_; intro Qz
    have ha : c.toNat < 256 := c.toNat_lt
    iterate 2 walk1
    k_dflt (refine LCgL.ld_built (by k_asm) (by k_asm) (by k_asm) (by k_is) (by boot_by_name) (by decide) ?_)
    iterate 5 walk1
    refine LCg.CompEnd.intro F N nw (fun p hp => hp) off (fun _ h => nomatch h) ⟨rfl, ?_⟩
    have hc' : x.arr.toList[i]? = some c := by simpa using hc
    rw [List.take_add_one, hc']
    simp only [Option.toList_some, List.map_append, List.map_cons, List.map_nil]
    exact strs_snoc hys
  · rintro ys nw hz2
    try ((fail_if_success (with_reducible show Gz)); with_reducible (first | (refine letW ?_; intro Gz) | (refine letWC ?_; intro Gz)))
    obtain ⟨rfl, hys⟩ := hz2
    try ((fail_if_success (with_reducible show wpAny _ _ _ Qz _ _)); with_reducible (first | (refine letQ ?_; intro Qz) | (refine letQC ?_; intro Qz)))
    try ((fail_if_success (with_reducible show wpAny _ _ _ _ _ Sz)); with_reducible (first | (refine letS ?_; intro Sz) | (refine letSC ?_; intro Sz)))
    intro D h tk F N off
    subst hn4
    have e : ((x.arr.toList.take 4).map fun c => (⟨#[c.toNat]⟩ : Str)) = [⟨#[x.a.toNat]⟩, ⟨#[x.b.toNat]⟩, ⟨#[x.c.toNat]⟩, ⟨#[x.d.toNat]⟩] := by cases x; rfl
    rw [e] at hys
    iterate 1 walk1
    refine join_listC (ys := [⟨#[x.a.toNat]⟩, ⟨#[x.b.toNat]⟩, ⟨#[x.c.toNat]⟩, ⟨#[x.d.toNat]⟩]) (N.isList (.head _)) (by simpa using hys) (by decide) (by show 4 + 4 * 64 ≤ 16777216; decide) ?_
    intro t' k
    have e2 : Txt.join (Str.ofString "") [⟨#[x.a.toNat]⟩, ⟨#[x.b.toNat]⟩, ⟨#[x.c.toNat]⟩, ⟨#[x.d.toNat]⟩] = x.txt := by cases x; rfl
    rw [e2]
    exact leaveK_ F (news' := nw) (fun p hp => N p (.tail _ hp)) (fun F N => hret _ _ _ _ F N ⟨⟨_, rfl⟩, rfl⟩)
end Mine
end
/-! part Q2 -/
section
open PySem PySem.W PyProof.Rows HeadC
set_option maxRecDepth 100000
namespace Mine
noncomputable def nms : List Nm := [.n2, .n3, .nx]
theorem nms_at {i : Nat} {v : Value} (h : SignAt (Str.ofString "23x") i v) : ∃ n u, nms[i]? = some n ∧ v = .str n.txt u := by
  refine Mine.E2 ?_ h
  clear h
  intro ch u
  refine And.elim ?_
  intro h1
  intro hR1
  subst hR1
  have e : (Str.ofString "23x").cps = #[50, 51, 120] := by decide
  rw [e] at h1
  match i, h1 with
  | 0, h1 => exact Mine.I2 .n2 u ⟨rfl, by cases h1; rfl⟩
  | 1, h1 => exact Mine.I2 .n3 u ⟨rfl, by cases h1; rfl⟩
  | 2, h1 => exact Mine.I2 .nx u ⟨rfl, by cases h1; rfl⟩
  | i + 3, h1 => simp at h1
theorem nms_drop {i : Nat} {n k : Nm} (h : nms[i]? = some n) (hk : k ∈ nms.drop i) (hne : k ≠ n) : k ∈ nms.drop (i + 1) := by
  have hlt := (List.getElem?_eq_some_iff.mp h).1
  rw [List.drop_eq_getElem_cons hlt] at hk
  have : nms[i] = n := (List.getElem?_eq_some_iff.mp h).2
  rw [this] at hk
  rcases List.mem_cons.mp hk with h | h
  · exact absurd h hne
  · exact h
theorem nms_all (n : Nm) : n ∈ nms := by cases n <;> simp [nms]
theorem allLt_mem {d : Addr} : ∀ (l : List (Addr × Obj)), AllLt d l → ∀ p ∈ l, @LT.lt Nat _ p.1 d
  | [], _, p, hp => nomatch hp
  | q :: r, h, p, hp => by
    cases hp with
    | head => exact h.1
    | tail _ hp => exact allLt_mem r h.2 p hp
theorem News.named {h₀ h : Heap} {L : Addr} {x : Addr} {o : Obj} {r : List (Addr × Obj)} (N : News h₀ L h ((x, o) :: r)) : ∃ o', o' = o ∧ News h₀ L h ((x, o') :: r) := ⟨o, rfl, N⟩
theorem CallC.mono {prog : Program} {w : World} {mean : ExcName → Option Value} {mg mb : Str → Option Value} {k : Nat} {f : Addr} {args : List Value} {news : List (Addr × Obj)} {Post Post' : Value → List (Addr × Obj) → Prop}
    (C : CallC prog w mean mg mb k f args news Post) (h : ∀ r n, Post r n → Post' r n) : CallC prog w mean mg mb k f args news Post' :=
  fun _ _ _ _ _ _ _ _ _ _ _ _ _ _ _ _ _ B F X N T hk hdp hun ret => C _ _ _ _ _ _ _ _ _ _ _ _ _ _ _ _ _ B F X N T hk hdp hun fun r n h' tk F' N' p => ret r n h' tk F' N' (h r n p)
end Mine
end
/-! part K8 -/
section
example : True := by w_top off; trivial
open PySem PySem.W PyProof.Rows HeadC
set_option maxRecDepth 100000
namespace Mine
theorem k_fill_nowK8 {w : World} : ∃ _ : Challenge.rw_pd0166_01 = Challenge.rw_pd0166_01, hd.heap_1 w.params = hd.heap_1 w.params := by
  k_fill
  exact ⟨rfl, rfl⟩
noncomputable def PartsO (o : Obj) (c : Way) : Prop := ∃ vs n, o = listOf vs.toArray n ∧ StrsAre vs (partsW c)
noncomputable def NamesO (o : Obj) (c : Way) : Prop := ∃ vs n, o = listOf vs.toArray n ∧ StrsAre vs (c.map Nm.txt)
set_option maxHeartbeats 8000000 in
theorem c_commonpath {prog : Program} {w : World} {mean : ExcName → Option Value} {mg mb : Str → Option Value} {news : List (Addr × Obj)} {c0 c1 c2 : Way} {t0 t1 t2 : Tok} {lA : Addr} {nA : Nat}
    (hA : (lA, listOf [.str (waS c0) t0, .str (waS c1) t1, .str (waS c2) t2].toArray nA) ∈ news) (hl0 : c0.length ≤ 25) (hl1 : c1.length ≤ 25) (hl2 : c2.length ≤ 25) :
    CallC prog w mean mg mb 2 162 [.ref lA] news (fun r news' => (∃ t', r = .str (waS (com3 c0 c1 c2)) t') ∧ news' = news) := by
  intro dp un gd cn cs a ccd cl outer A₀ base h₀ L m s Q E B F X N T hk hdp hun hret
  refine wpAny_call ?_
  k_dflt (refine' code_defC ?k1 ?k2 ?k3 ?k4 ?k5 ?kA ?kF ?kK ?k6 ?k7 ?k8 ?k9 ?kB ?kD ?_ ?c2 ?c3 ?c4; (case kA => exact rfl); (case kF => exact rfl); (case kK => assumption); (case k1 => k_asm); (case k2 => k_asm); (case k3 => k_asm); (case k4 => k_asm); (case k5 => k_asm); (case k6 => k_is); (case k7 => k_is); (case k8 => ktr_room); (case k9 => exact BindsTo.of_eq rfl); (case kB => exact rfl); (case kD => decide +kernel); (case c2 => exact rfl); (case c3 => exact rfl); (case c4 => exact rfl); k_whole)
  intro g' L' h' tk' cells' FG F' N' Y' B' X' T' l1
  have hY := CellsAre.two Y'; obtain ⟨oC, oD, hE', dC, dD⟩ := hY; subst hE'; clear Y'
  simp only [List.cons_append, List.nil_append] at N'
  try dsimp only
  (first | refine letEnv ?_ | refine letEnvC ?_); intro Az envz Qz Ez
  refine frsG F' (l := [("paths", .ref lA)]) ⟨rfl, trivial⟩ ?_; clear F'; intro _ F'
  have hnC : ∀ p ∈ news, p.1 < L' + 1 := fun p hp => Nat.lt_succ_of_lt (l1 p hp)
  have hnD : ∀ p ∈ news, p.1 < L' + 1 + 1 := fun p hp => Nat.lt_succ_of_lt (hnC p hp)
  have hSC : @LT.lt Nat _ (L' + 1) (L' + 1 + 1) := Nat.lt_succ_self _
  try ((fail_if_success (with_reducible show Gz)); with_reducible (first | (refine letW ?_; intro Gz) | (refine letWC ?_; intro Gz)))
  obtain ⟨cS, hcS⟩ : ∃ x, x = L' + 1 := ⟨_, rfl⟩
  try ((fail_if_success (with_reducible show Gz)); with_reducible (first | (refine letW ?_; intro Gz) | (refine letWC ?_; intro Gz)))
  obtain ⟨cC, hcC⟩ : ∃ x, x = L' + 1 + 1 := ⟨_, rfl⟩
  rw [← hcS] at hnC
  rw [← hcC] at hnD hSC
  rw [← hcS] at hSC
  have hN0 : News g' L' h' ((cC, oC) :: (cS, oD) :: news) := by rw [hcS, hcC]; exact N'
  (repeat ((fail_if_success (with_reducible show wpAny _ _ (PySem.call (Value.type _) _) _ _ _)); walk1))
  refine call_map F' hN0 (.tail _ (.tail _ hA)) ?_
  intro h2 I T M F2 N2 hIT hIM hTM hlt2
  (repeat ((fail_if_success (with_reducible show wpAny _ _ (PySem.call (Value.type _) _) _ _ _)); walk1))
  refine call_tuple_map (P := fun i v => [Value.str (waS c0) t0, .str (waS c1) t1, .str (waS c2) t2][i]? = some v) rfl F2 N2 (.tail _ (.tail _ hA)) (Nat.le_of_ble_eq_true rfl) hIM hIT (fun p hp => Nat.ne_of_lt (hlt2 p hp).1) ?_ ?_
  · intro i x h tk nw hx Fx Nx
    try ((fail_if_success (with_reducible show Gz)); with_reducible (first | (refine letW ?_; intro Gz) | (refine letWC ?_; intro Gz)))
    obtain ⟨ci, ti, rfl⟩ : ∃ ci ti, x = .str ci ti := by
      match i, hx with
      | 0, hx => cases hx; exact Mine.I2 _ _ rfl
      | 1, hx => cases hx; exact Mine.I2 _ _ rfl
      | 2, hx => cases hx; exact Mine.I2 _ _ rfl
      | i + 3, hx => simp at hx
    refine CallC.use (c_fspath (x := ci) (t := ti)) B' Fx X' Nx T' rfl (by show dp + 1 + 1 < recursionLimit; lia) (by show un + 3 + 4 + 8 * 1 < cLine; lia) ?_
    rintro r news' h1 tk1 F1 N1 hz6
    try ((fail_if_success (with_reducible show Gz)); with_reducible (first | (refine letW ?_; intro Gz) | (refine letWC ?_; intro Gz)))
    obtain ⟨rfl, rfl⟩ := hz6
    try ((fail_if_success (with_reducible show wpAny _ _ _ Qz _ _)); with_reducible (first | (refine letQ ?_; intro Qz) | (refine letQC ?_; intro Qz)))
    try ((fail_if_success (with_reducible show wpAny _ _ _ _ _ Sz)); with_reducible (first | (refine letS ?_; intro Sz) | (refine letSC ?_; intro Sz)))
    exact Mine.I2 _ _ ⟨rfl, F1, N1, hx⟩
  · intro h3 tk3 acc R F3 N3 hlt3 hacc
    have hacc' : acc = [Value.str (waS c0) t0, .str (waS c1) t1, .str (waS c2) t2].toArray := by
      apply Array.ext_getElem?
      intro i
      rcases Nat.lt_or_ge i 3 with hi | hi
      · try ((fail_if_success (with_reducible show Gz)); with_reducible (first | (refine letW ?_; intro Gz) | (refine letWC ?_; intro Gz)))
        obtain ⟨v, hv⟩ : ∃ v, acc[i]? = some v := ⟨_, Array.getElem?_eq_getElem (by rw [hacc.1]; exact hi)⟩
        rw [hv, List.getElem?_toArray]
        exact (hacc.2 i v hv).symm
      · rw [Array.getElem?_eq_none (by rw [hacc.1]; exact hi), Array.getElem?_eq_none (by simpa using hi)]
    subst hacc'
    iterate 1 walk1
    rename_i h4 F4 N4
    refine frsG F4 (l := [("paths", .ref R)]) ⟨rfl, trivial⟩ ?_; clear F4; intro _ F4
    try dsimp only
    have hRS : R ≠ cS := Nat.ne_of_gt (hlt3 _ (.tail _ (.head _)))
    have hRC : R ≠ cC := Nat.ne_of_gt (hlt3 _ (.head _))
    have hCS : cC ≠ cS := Nat.ne_of_gt hSC
    have hSn : ∀ p ∈ news, p.1 ≠ cS := fun p hp => Nat.ne_of_lt (hnC p hp)
    have hCn : ∀ p ∈ news, p.1 ≠ cC := fun p hp => Nat.ne_of_lt (hnD p hp)
    (repeat ((fail_if_success (with_reducible show wpAny _ _ (PySem.subscriptTail _ _ _ _) _ _ _)); walk1))
    refine storeX_C (o := oD) (c := cS) F4 N4 (by rw [hcS]; rfl) (.tail hRS (.tail hCS (.head hSn))) dD ?_ rfl rfl
    intro h5 oS F5 N5 dS
    iterate 3 walk1
    refine storeX_C (o := oC) (c := cC) F5 N5 (by rw [hcC]; rfl) (.tail hRC (.head fun p hp => by
      rcases List.mem_cons.mp hp with rfl | hp
      · exact hCS.symm
      · exact hCn p hp)) dC ?_ rfl rfl
    intro h6 oK F6 N6 dK
    try dsimp only
    walk1
    walk1
    walk1
    refine wpAny_noRaise (wpAny_Try_except (wpAny_noRaise ?_))
    walk1
    refine assign_src F6 rfl (by with_unfolding_all rfl) (by rfl) (by decide) (by rfl) (by decide) (by rfl) (by rfl) (by rfl) ?_
    iterate 1 walk1
    refine CSrc.intro N6 (src_tuple (vs := [Value.str (waS c0) t0, .str (waS c1) t1, .str (waS c2) t2]) rfl F6 N6 (.head _)) (fun p hp => .inr (by rw [List.mem_singleton.mp hp]; exact .head _)) (by rw [sizeLine_eq]; exact Nat.le_of_ble_eq_true rfl) ?_
    intro g7 tk7
    refine comp_rest_inv (fun i ys nw => RowsJ PartsO [c0, c1, c2] ((R, tupA [Value.str (waS c0) t0, .str (waS c1) t1, .str (waS c2) t2].toArray) :: (cC, oK) :: (cS, oS) :: news) i ys nw) ?_ ?_ 3 0 [] _ rfl (RowsJ.zero _ _ _)
    · rintro i ys nw v I oI Cc oCc Dc m₂ h tk E' hi hJ hv hCc hx F N off ne
      try ((fail_if_success (with_reducible show Gz)); with_reducible (first | (refine letW ?_; intro Gz) | (refine letWC ?_; intro Gz)))
      obtain ⟨ci, ti, hci, hl, rfl⟩ : ∃ ci ti, [c0, c1, c2][i]? = some ci ∧ ci.length ≤ 25 ∧ v = .str (waS ci) ti := by
        match i, hv with
        | 0, hv => cases hv; exact Mine.I2 c0 t0 ⟨rfl, hl0, rfl⟩
        | 1, hv => cases hv; exact Mine.I2 c1 t1 ⟨rfl, hl1, rfl⟩
        | 2, hv => cases hv; exact Mine.I2 c2 t2 ⟨rfl, hl2, rfl⟩
        | i + 3, hv => lia
      have hwl : (waS ci).length ≤ 100 := by rw [waS_len]; split <;> lia
      (repeat ((fail_if_success (with_reducible show wpAny _ _ (PySem.eval (PySem.Expr.Name (Str.ofString "sep") _) _) _ _ _)); walk1))
      refine lcf_cell (o := oS) (c := cS) N (by rw [hcS]; rfl) (.tail _ (.tail _ (.tail _ (hJ.base (.tail _ (.tail _ (.head _))))))) dS ?_ (by rfl) (by rfl)
      (repeat ((fail_if_success (with_reducible show wpAny _ _ (PySem.call (Value.builtin _) _) _ _ _)); walk1))
      refine KSpl.split1 F N (by decide) (fun D8 l8 h8 k8 e8 hS8 F8 N8 hlt8 => ?_) (by rw [sizeLine_eq]; lia)
      rw [e8, split_way] at hS8
      refine LCg.CompEnd.intro F8 N8 ((D8, listOf (strValues l8).toArray 0) :: nw) (fun p hp => ?_) ?_ (fun p hp => .inr (by rw [List.mem_singleton.mp hp]; exact .tail _ (hJ.base (.head _)))) (hJ.snoc hci (Mine.I2 _ _ ⟨rfl, hS8⟩))
      · rcases List.mem_cons.mp hp with rfl | hp
        · exact .tail _ (.head _)
        rcases List.mem_cons.mp hp with rfl | hp
        · exact .tail _ (.tail _ (.head _))
        rcases List.mem_cons.mp hp with rfl | hp
        · exact .tail _ (.tail _ (.tail _ (.head _)))
        rcases List.mem_cons.mp hp with rfl | hp
        · exact .head _
        · exact .tail _ (.tail _ (.tail _ (.tail _ hp)))
      · exact ⟨⟨Nat.ne_of_gt (hlt8 _ (.head _)), Nat.ne_of_gt (hlt8 _ (.tail _ (.head _))), Nat.ne_of_gt (hlt8 _ (.tail _ (.tail _ (.head _))))⟩, off⟩
    · rintro ys nw hJ rD h8 tk8 F8 N8 off8
      have hyl := hJ.len
      refine frsG F8 (l := [("split_paths", .ref rD), ("paths", .ref R)]) ⟨rfl, rfl, trivial⟩ ?_; clear F8; intro _ F8
      try dsimp only
      walk1
      refine wpAny_Try_except (wpAny_noRaise ?_)
      (repeat ((fail_if_success (with_reducible show wpAny _ _ (PySem.eval (PySem.Expr.SetComp _ _ _ _) _) _ _ _)); walk1))
      have mS : ∀ {p : Addr × Obj}, p ∈ (R, tupA [Value.str (waS c0) t0, .str (waS c1) t1, .str (waS c2) t2].toArray) :: (cC, oK) :: (cS, oS) :: news → p ∈ nw := fun hp => hJ.base hp
      refine comp_set_true (cl := [("sep", cS)]) F8 (by rw [hcS]; rfl) (by decide) (by rfl) (by decide) (by rfl) ?_
      iterate 1 walk1
      refine CSrc.intro N8 (src_tuple (l := R) (vs := [Value.str (waS c0) t0, .str (waS c1) t1, .str (waS c2) t2]) rfl F8 N8 (.tail _ (mS (.head _)))) (fun p hp => .inr (by rw [List.mem_singleton.mp hp]; exact .tail _ (mS (.head _)))) (by rw [sizeLine_eq]; exact Nat.le_of_ble_eq_true rfl) ?_
      intro g9 tk9
      refine ⟨Nat.succ_pos _, Nat.le_of_ble_eq_true rfl, ?_, ?_⟩
      · intro i v I oI Cc oCc Dc oDc m₂ h tk hi hv hCc hx F N
        try ((fail_if_success (with_reducible show Gz)); with_reducible (first | (refine letW ?_; intro Gz) | (refine letWC ?_; intro Gz)))
        obtain ⟨ci, ti, rfl⟩ : ∃ ci ti, v = .str (waS ci) ti := by
          match i, hv with
          | 0, hv => cases hv; exact Mine.I2 c0 t0 rfl
          | 1, hv => cases hv; exact Mine.I2 c1 t1 rfl
          | 2, hv => cases hv; exact Mine.I2 c2 t2 rfl
          | i + 3, hv => simp at hv
        (repeat ((fail_if_success (with_reducible show wpAny _ _ (PySem.eval (PySem.Expr.Name (Str.ofString "sep") _) _) _ _ _)); walk1))
        refine lcf_cell (o := oS) (c := cS) N (by rfl) (.tail _ (.tail _ (.tail _ (.tail _ (mS (.tail _ (.tail _ (.head _)))))))) dS ?_ (by rfl) (by rfl)
        (repeat ((fail_if_success (with_reducible show wpAny _ _ (PySem.call (Value.builtin _) _) _ _ _)); walk1))
        walk1
        rw [startswith_way]
        exact Mine.I2 _ _ ⟨rfl, F, N, rfl⟩
      · intro sD h9 tk10 F9 N9 off9
        rw [arm_assign_Tuple]
        refine wpAny_bind (wpAny_standAt ?_)
        unfold unpack
        refine wpAny_bind (wpAny_holding (unpack_setT rfl F9 N9 (.head _) (fun h10 F10 N10 => ?_)))
        show wpAny _ _ (holding [] (assign (.Name (Str.ofString "isabs") _) _ (.bool true)) >>= fun _ => assignInOrder [] []) _ _ _
        refine wpAny_bind (wpAny_holding (wpAny_assign_Name (storeX_L F10 N10 (fun h11 F11 N11 => ?_) rfl rfl)))
        refine wpAny_pure ?_
        refine frsG F11 (l := [("isabs", .bool true), ("split_paths", .ref rD), ("paths", .ref R)]) ⟨rfl, rfl, rfl, trivial⟩ ?_; clear F11; intro _ F11
        try dsimp only
        walk1
        walk1
        walk1
        dsimp only
        walk1
        obtain ⟨base2, hb2⟩ : ∃ b, b = (sD, setT (ledW w) 1) :: (rD, LCg.lst ys) :: nw := ⟨_, rfl⟩
        have m2 : ∀ {p : Addr × Obj}, p ∈ nw → p ∈ base2 := fun hp => by rw [hb2]; exact .tail _ (.tail _ hp)
        have mr : (rD, LCg.lst ys) ∈ base2 := by rw [hb2]; exact .tail _ (.head _)
        rw [← hb2] at N11
        refine assign_src (cl := [("curdir", cC)]) F11 rfl (by with_unfolding_all rfl) (by rw [hcC]; rfl) (by decide) (by rfl) (by decide) (by rfl) (by rfl) (by rfl) ?_
        iterate 1 walk1
        refine CSrc.intro N11 (src_list (l := rD) (vs := ys) rfl F11 N11 mr) (fun p hp => .inr (by rw [List.mem_singleton.mp hp]; exact mr)) (by rw [sizeLine_eq, hyl]; exact Nat.le_of_ble_eq_true rfl) ?_
        intro g12 tk12
        refine comp_rest_inv (RowsJ NamesO [c0, c1, c2] base2) ?_ ?_ ys.length 0 [] _ (Nat.zero_add _) (RowsJ.zero _ _ _)
        · rintro i ys2 nw2 v I oI Cc oCc Dc m₂ h tk E' hi hJ2 hv hCc hx F N off ne
          try ((fail_if_success (with_reducible show Gz)); with_reducible (first | (refine letW ?_; intro Gz) | (refine letWC ?_; intro Gz)))
          refine Mine.E3 ?_ (hJ.row hv)
          intro Di oi ci
          refine Mine.A4 ?_
          intro hR1
          subst hR1
          intro hDi hci
          refine Mine.E2 ?_
          intro vsP nP
          refine And.elim ?_
          intro hR2
          subst hR2
          intro hSP
          have hDm := hJ2.base (m2 hDi)
          refine LCt.ListComp_T F (cl := [("curdir", cC)]) (by rfl) (by decide) (by rfl) (by decide) (by rfl) ?_
          iterate 1 walk1
          have mc : (cC, oK) ∈ nw2 := hJ2.base (m2 (hJ.base (.tail _ (.head _))))
          have hcl : ci.length ≤ 25 := by
            have h9 := List.mem_of_getElem? hci
            rw [show List.take (0 + 3) [c0, c1, c2] = [c0, c1, c2] from rfl] at h9
            simp only [List.mem_cons, List.not_mem_nil, or_false] at h9
            rcases h9 with rfl | rfl | rfl <;> assumption
          have hS0 : LCg.SrcAt g' Di vsP.toArray ((I, oI) :: (Cc, oCc) :: (Dc, LCg.lst ys2) :: nw2) := .inr ⟨_, .tail _ (.tail _ (.tail _ hDm)), rfl, _, rfl⟩
          have hvl : vsP.length ≤ 27 := by
            rw [hSP.length]
            have := parts_len ci
            lia
          refine .inl (Mine.I3 Di _ _ ⟨rfl, rfl, F, N, hS0, (by rw [List.size_toArray, sizeLine_eq]; lia), ?_⟩)
          rintro s₃ hz1
          try ((fail_if_success (with_reducible show Gz)); with_reducible (first | (refine letW ?_; intro Gz) | (refine letWC ?_; intro Gz)))
          obtain ⟨g3, rfl⟩ := hz1
          try ((fail_if_success (with_reducible show wpAny _ _ _ Qz _ _)); with_reducible (first | (refine letQ ?_; intro Qz) | (refine letQC ?_; intro Qz)))
          try ((fail_if_success (with_reducible show wpAny _ _ _ _ _ Sz)); with_reducible (first | (refine letS ?_; intro Sz) | (refine letSC ?_; intro Sz)))
          refine comp_restT_inv (fun j ys3 nw3 => nw3 = (I, oI) :: (Cc, oCc) :: (Dc, LCg.lst ys2) :: nw2 ∧ StrsAre ys3 (((partsW ci).take j).filter fun p => p.length != 0)) ?_ ?_ _ 0 [] _ (Nat.zero_add _) ⟨rfl, .nil⟩
          · rintro j ys3 nw3 v I2 oI2 C2 oC2 D2 m₃ h3 tk3 E3 hj hz14 hv hC2 hx2 F3 N3 off3 ne3
            try ((fail_if_success (with_reducible show Gz)); with_reducible (first | (refine letW ?_; intro Gz) | (refine letWC ?_; intro Gz)))
            obtain ⟨rfl, hys⟩ := hz14
            try ((fail_if_success (with_reducible show wpAny _ _ _ Qz _ _)); with_reducible (first | (refine letQ ?_; intro Qz) | (refine letQC ?_; intro Qz)))
            try ((fail_if_success (with_reducible show wpAny _ _ _ _ _ Sz)); with_reducible (first | (refine letS ?_; intro Sz) | (refine letSC ?_; intro Sz)))
            try ((fail_if_success (with_reducible show Gz)); with_reducible (first | (refine letW ?_; intro Gz) | (refine letWC ?_; intro Gz)))
            refine Mine.E2 ?_ (hSP.item j v (by simpa using hv))
            intro p tp
            refine And.elim ?_
            intro hR3
            subst hR3
            intro hp
            rcases parts_mem (List.mem_of_getElem? hp) with rfl | ⟨n, rfl⟩
            · iterate 4 walk1
              refine ifN (by simp) (ifN (by simp) ?_)
              refine LCg.CompEnd.intro F3 N3 _ (fun p hp => hp) off3 hS0 ⟨rfl, ?_⟩
              rw [filter_snoc0 hp]
              exact hys
            · iterate 3 walk1
              refine PySem.P.truthy_str (by cases n <;> decide) ?_
              rw [show ((n.txt.length : Int) != 0) = true by cases n <;> rfl]
              (repeat ((fail_if_success (with_reducible show wpAny _ _ (PySem.eval (PySem.Expr.Name (Str.ofString "curdir") _) _) _ _ _)); walk1))
              refine lcf_cell (o := oK) (c := cC) N3 (by rfl) (.tail _ (.tail _ (.tail _ (.tail _ (.tail _ (.tail _ mc)))))) dK ?_ (by rfl) (by rfl)
              refine PyProof.Rows.ne_str ?_
              rw [txt_dot]
              iterate 3 walk1
              refine ifP rfl ?_
              iterate 1 walk1
              refine LCg.CompEnd.intro F3 N3 _ (fun p hp => hp) off3 hS0 ⟨rfl, ?_⟩
              rw [filter_snoc1 hp]
              exact strs_snoc hys
          · rintro ys3 nw3 hz2 D3 h3 tk3 F3 N3 off3
            try ((fail_if_success (with_reducible show Gz)); with_reducible (first | (refine letW ?_; intro Gz) | (refine letWC ?_; intro Gz)))
            obtain ⟨rfl, hys⟩ := hz2
            try ((fail_if_success (with_reducible show wpAny _ _ _ Qz _ _)); with_reducible (first | (refine letQ ?_; intro Qz) | (refine letQC ?_; intro Qz)))
            try ((fail_if_success (with_reducible show wpAny _ _ _ _ _ Sz)); with_reducible (first | (refine letS ?_; intro Sz) | (refine letSC ?_; intro Sz)))
            refine LCg.CompEnd.intro F3 N3 ((D3, LCg.lst ys3) :: nw2) (fun p hp => ?_) ⟨⟨?_, ?_, ?_⟩, off⟩ (fun p hp => .inr (by rw [List.mem_singleton.mp hp]; exact .tail _ (hJ2.base mr))) (hJ2.snoc (by rw [show List.take (0 + 3) [c0, c1, c2] = [c0, c1, c2] from rfl] at hci; exact hci) (Mine.I2 _ _ ⟨rfl, ?_⟩))
            · rcases List.mem_cons.mp hp with rfl | hp
              · exact .tail _ (.head _)
              rcases List.mem_cons.mp hp with rfl | hp
              · exact .tail _ (.tail _ (.head _))
              rcases List.mem_cons.mp hp with rfl | hp
              · exact .tail _ (.tail _ (.tail _ (.head _)))
              rcases List.mem_cons.mp hp with rfl | hp
              · exact .head _
              · exact .tail _ (.tail _ (.tail _ (.tail _ hp)))
            · exact fun e => off3.1 e.symm
            · exact fun e => off3.2.1 e.symm
            · exact fun e => off3.2.2.1 e.symm
            · rw [← parts_filter]
              rw [List.take_of_length_le (by rw [List.size_toArray, hSP.length]; exact Nat.le_refl _)] at hys
              exact hys
        · rintro ys2 nw2 hJ2 rE h13 tk13 F13 N13 off13
          rw [hyl] at hJ2
          refine frsG F13 (l := [("split_paths", .ref rE), ("isabs", .bool true), ("paths", .ref R)]) ⟨rfl, rfl, rfl, trivial⟩ ?_; clear F13; intro _ F13
          try ((fail_if_success (with_reducible show Gz)); with_reducible (first | (refine letW ?_; intro Gz) | (refine letWC ?_; intro Gz)))
          refine Exists.elim hJ2 ?_
          clear hJ2
          intro ps
          refine Mine.A4 ?_
          intro hps hR4
          subst hR4
          intro hnw2
          intro hpo
          replace hps : ps.map (·.2) = [c0, c1, c2] := hps
          have hpl : ps.length = 3 := by have := congrArg List.length hps; simpa using this
          try ((fail_if_success (with_reducible show Gz)); with_reducible (first | (refine letW ?_; intro Gz) | (refine letWC ?_; intro Gz)))
          obtain ⟨Ds, hDs⟩ : ∃ Ds : List (Addr × Way), Ds = ps.map fun p => (p.1.1, p.2) := ⟨_, rfl⟩
          have hDl : Ds.length = 3 := by rw [hDs, List.length_map, hpl]
          have hDr : (ps.map fun p => Value.ref p.1.1) = Ds.map fun p => Value.ref p.1 := by rw [hDs, List.map_map]; rfl
          have hDw : ∀ q ∈ Ds, q.2 ∈ [c0, c1, c2] := fun q hq => by
            rw [hDs] at hq
            try ((fail_if_success (with_reducible show Gz)); with_reducible (first | (refine letW ?_; intro Gz) | (refine letWC ?_; intro Gz)))
            refine Exists.elim (List.mem_map.mp hq) ?_
            intro p
            refine And.elim ?_
            intro hp
            intro hR5
            subst hR5
            rw [← hps]; exact List.mem_map_of_mem hp
          have hDw2 : ∀ c ∈ [c0, c1, c2], ∃ q ∈ Ds, q.2 = c := fun c hc => by
            rw [← hps] at hc
            try ((fail_if_success (with_reducible show Gz)); with_reducible (first | (refine letW ?_; intro Gz) | (refine letWC ?_; intro Gz)))
            refine Exists.elim (List.mem_map.mp hc) ?_
            intro p
            refine And.elim ?_
            intro hp
            intro hR6
            subst hR6
            exact ⟨_, by rw [hDs]; exact List.mem_map_of_mem hp, rfl⟩
          have hDn : ∀ q ∈ Ds, NamesIn ((rE, LCg.lst (ps.map fun p => Value.ref p.1.1)) :: nw2) q := fun q hq => by
            rw [hDs] at hq
            try ((fail_if_success (with_reducible show Gz)); with_reducible (first | (refine letW ?_; intro Gz) | (refine letWC ?_; intro Gz)))
            refine Exists.elim (List.mem_map.mp hq) ?_
            intro p
            refine And.elim ?_
            intro hp
            intro hR7
            subst hR7
            try ((fail_if_success (with_reducible show Gz)); with_reducible (first | (refine letW ?_; intro Gz) | (refine letWC ?_; intro Gz)))
            refine Mine.E2 ?_ (hpo p hp)
            intro vs n
            refine And.elim ?_
            intro e1
            intro e2
            refine Mine.I2 vs n ⟨.tail _ ?_, e2⟩
            rw [hnw2]
            refine List.mem_append_left _ (List.mem_map.mpr ⟨p, List.mem_reverse.mpr hp, ?_⟩)
            exact Prod.ext rfl e1
          rw [hDr] at N13 hDn
          have m3 : ∀ {p : Addr × Obj}, p ∈ base2 → p ∈ nw2 := fun hp => by rw [hnw2]; exact List.mem_append_right _ hp
          try dsimp only
          (repeat ((fail_if_success (with_reducible show wpAny _ _ (PySem.call (Value.builtin _) _) _ _ _)); walk1))
          refine min_names (Ds := Ds) rfl (by show un + 3 + 1 < cLine; lia) F13 N13 (.head _) (by lia) hDn (fun h14 tk14 lo F14 N14 hlo hmin => ?_)
          iterate 1 walk1
          rename_i h15 F15 N15
          refine frsG F15 (l := [("s1", .ref lo.1), ("split_paths", .ref rE), ("isabs", .bool true)]) ⟨rfl, rfl, rfl, trivial⟩ ?_; clear F15; intro _ F15
          (repeat ((fail_if_success (with_reducible show wpAny _ _ (PySem.call (Value.builtin _) _) _ _ _)); walk1))
          refine max_names (Ds := Ds) rfl (by show un + 3 + 1 < cLine; lia) F15 N15 (.head _) (by lia) hDn (fun h16 tk16 hi F16 N16 hhi hmax => ?_)
          iterate 1 walk1
          rename_i h17 F17 N17
          iterate 5 walk1
          rename_i h18 F18 N18
          refine frsG F18 (l := [("common", .ref lo.1), ("s2", .ref hi.1), ("s1", .ref lo.1), ("isabs", .bool true)]) ⟨rfl, rfl, rfl, rfl, trivial⟩ ?_; clear F18; intro _ F18
          try ((fail_if_success (with_reducible show Gz)); with_reducible (first | (refine letW ?_; intro Gz) | (refine letWC ?_; intro Gz)))
          refine Mine.E2 ?_ (hDn lo hlo)
          intro vlo nlo
          refine And.elim ?_
          intro mlo
          intro Slo
          try ((fail_if_success (with_reducible show Gz)); with_reducible (first | (refine letW ?_; intro Gz) | (refine letWC ?_; intro Gz)))
          refine Mine.E2 ?_ (hDn hi hhi)
          intro vhi nhi
          refine And.elim ?_
          intro mhi
          intro Shi
          walk1
          refine wpAny_For ?_
          (repeat ((fail_if_success (with_reducible show wpAny _ _ (PySem.call (Value.type _) _) _ _ _)); walk1))
          have hll : lo.2.length ≤ 25 := by
            have := hDw lo hlo
            simp only [List.mem_cons, List.not_mem_nil, or_false] at this
            rcases this with h | h | h <;> rw [h] <;> assumption
          have hhl : hi.2.length ≤ 25 := by
            have := hDw hi hhi
            simp only [List.mem_cons, List.not_mem_nil, or_false] at this
            rcases this with h | h | h <;> rw [h] <;> assumption
          have hvl : vlo.length = lo.2.length := by rw [Slo.length, List.length_map]
          have hvh : vhi.length = hi.2.length := by rw [Shi.length, List.length_map]
          have hlh : nmLt hi.2 lo.2 = false := hmax lo hlo
          refine enum_loop (fun i m1 => Has m1 [("common", .ref lo.1), ("s2", .ref hi.1), ("s1", .ref lo.1), ("isabs", .bool true)] ∧ i ≤ hi.2.length ∧ ∀ j, j < i → lo.2[j]? = hi.2[j]?)
            (fun m1 news1 => ∃ Dc vc nc, Has m1 [("common", .ref Dc), ("isabs", .bool true)] ∧ (Dc, listOf vc.toArray nc) ∈ news1 ∧ StrsAre vc ((com3 c0 c1 c2).map Nm.txt) ∧ ∀ p ∈ (rE, LCg.lst (Ds.map fun p => Value.ref p.1)) :: nw2, p ∈ news1)
            rfl F18 N18 mlo ⟨⟨rfl, rfl, rfl, rfl, trivial⟩, Nat.zero_le _, fun _ h => nomatch h⟩ ?_ ?_ ?_
          · rintro i v m1 h tk e oE it oI ti hv hz11 F N hlt
            try ((fail_if_success (with_reducible show Gz)); with_reducible (first | (refine letW ?_; intro Gz) | (refine letWC ?_; intro Gz)))
            refine Mine.A3 ?_ hz11
            clear hz11
            intro hm hih
            intro hag
            try ((fail_if_success (with_reducible show wpAny _ _ _ Qz _ _)); with_reducible (first | (refine letQ ?_; intro Qz) | (refine letQC ?_; intro Qz)))
            try ((fail_if_success (with_reducible show wpAny _ _ _ _ _ Sz)); with_reducible (first | (refine letS ?_; intro Sz) | (refine letSC ?_; intro Sz)))
            try ((fail_if_success (with_reducible show Gz)); with_reducible (first | (refine letW ?_; intro Gz) | (refine letWC ?_; intro Gz)))
            refine Mine.E2 ?_ (Slo.item i v hv)
            intro x tx
            refine And.elim ?_
            intro hR8
            subst hR8
            intro hx
            rw [List.getElem?_map] at hx
            have hil : i < lo.2.length := by rw [← hvl]; exact (List.getElem?_eq_some_iff.mp hv).1
            have hih2 : i < hi.2.length := hi_long i hil hih hag hlh
            try ((fail_if_success (with_reducible show Gz)); with_reducible (first | (refine letW ?_; intro Gz) | (refine letWC ?_; intro Gz)))
            obtain ⟨a, ha⟩ : ∃ a, lo.2[i]? = some a := ⟨_, List.getElem?_eq_getElem hil⟩
            try ((fail_if_success (with_reducible show Gz)); with_reducible (first | (refine letW ?_; intro Gz) | (refine letWC ?_; intro Gz)))
            obtain ⟨b, hb⟩ : ∃ b, hi.2[i]? = some b := ⟨_, List.getElem?_eq_getElem hih2⟩
            rw [ha] at hx
            obtain rfl : x = a.txt := by cases hx; rfl
            refine frsG F (l := [("i", .int (i : Int) ti), ("c", .str a.txt tx), ("s2", .ref hi.1), ("s1", .ref lo.1), ("common", .ref lo.1), ("isabs", .bool true)]) ⟨rfl, rfl, hm.2.1, hm.2.2.1, hm.1, hm.2.2.2.1, trivial⟩ ?_; clear F; intro _ F
            (repeat ((fail_if_success (with_reducible show wpAny _ _ (PySem.subscriptTail _ _ _ _) _ _ _)); walk1))
            try ((fail_if_success (with_reducible show Gz)); with_reducible (first | (refine letW ?_; intro Gz) | (refine letWC ?_; intro Gz)))
            obtain ⟨tb, htb⟩ := names_at Shi hih2
            have hbb : hi.2[i] = b := by have := List.getElem?_eq_getElem hih2; rw [hb] at this; cases this; rfl
            rw [hbb] at htb
            refine item_at (vs := vhi) (k := i) (n := nhi) N (.tail _ (.tail _ mhi)) rfl (by lia) (by simpa using htb) ?_
            refine PyProof.Rows.ne_str ?_
            walk1
            by_cases hab : a = b
            · subst hab
              rw [show (a.txt != a.txt) = false by simp, if_neg (by simp)]
              refine wpAny_execs_nil (wpAny_execs_nil ?_)
              refine Mine.I3 _ _ _ ⟨rfl, F, N, ⟨rfl, rfl, rfl, rfl, trivial⟩, hih2, fun j hj => ?_⟩
              rcases Nat.lt_or_eq_of_le (Nat.le_of_lt_succ hj) with h | rfl
              · exact hag j h
              · rw [ha, hb]
            · rw [show (a.txt != b.txt) = true by simp; exact fun h => hab (txt_inj h), if_pos rfl]
              (repeat ((fail_if_success (with_reducible show wpAny _ _ (PySem.subscriptTail _ _ _ _) _ _ _)); walk1))
              refine kms_slice_lit F N (N.isList (.tail _ (.tail _ mlo))) .none (.int _ _) (pick_take _ i) (fun D20 h20 F20 N20 l20 => ?_) (by with_unfolding_all rfl) (by intro _; with_unfolding_all rfl) (by rw [List.size_toArray, sizeLine_eq]; lia)
              walk1
              rename_i h21 F21 N21
              iterate 2 walk1
              refine Mine.I4 _ _ _ _ ⟨rfl, F21, N21, Mine.I3 D20 (vlo.take i) 0 ⟨⟨rfl, rfl, trivial⟩, .head _, ?_, fun p hp => .tail _ (.tail _ (.tail _ hp))⟩⟩
              rw [com3_lohi (i := i) (hDw lo hlo) (hDw hi hhi) (fun x hx => by obtain ⟨q, hq, rfl⟩ := hDw2 x hx; exact hmin q hq) (fun x hx => by obtain ⟨q, hq, rfl⟩ := hDw2 x hx; exact hmax q hq) (Nat.le_of_lt hil) hih hag (fun a' b' e1 e2 => by rw [ha] at e1; rw [hb] at e2; cases e1; cases e2; exact hab), List.map_take]
              exact strs_take Slo i
          · rintro m1 hz1
            try ((fail_if_success (with_reducible show Gz)); with_reducible (first | (refine letW ?_; intro Gz) | (refine letWC ?_; intro Gz)))
            refine Mine.A3 ?_ hz1
            clear hz1
            intro hm hih
            intro hag
            try ((fail_if_success (with_reducible show wpAny _ _ _ Qz _ _)); with_reducible (first | (refine letQ ?_; intro Qz) | (refine letQC ?_; intro Qz)))
            try ((fail_if_success (with_reducible show wpAny _ _ _ _ _ Sz)); with_reducible (first | (refine letS ?_; intro Sz) | (refine letSC ?_; intro Sz)))
            rw [hvl] at hih hag
            refine Mine.I3 lo.1 vlo nlo ⟨⟨hm.1, hm.2.2.2.1, trivial⟩, mlo, ?_, fun p hp => hp⟩
            rw [com3_lohi (i := lo.2.length) (hDw lo hlo) (hDw hi hhi) (fun x hx => by obtain ⟨q, hq, rfl⟩ := hDw2 x hx; exact hmin q hq) (fun x hx => by obtain ⟨q, hq, rfl⟩ := hDw2 x hx; exact hmax q hq) (Nat.le_refl _) hih hag (fun a b h1 _ => by simp at h1), List.take_length]
            exact Slo
          · rintro m1 news1 h19 tk19 F19 N19 hz6
            try ((fail_if_success (with_reducible show Gz)); with_reducible (first | (refine letW ?_; intro Gz) | (refine letWC ?_; intro Gz)))
            refine Mine.E3 ?_ hz6
            clear hz6
            intro Dc vc nc
            refine Mine.A4 ?_
            intro hm mDc hSc
            intro hsub
            try ((fail_if_success (with_reducible show wpAny _ _ _ Qz _ _)); with_reducible (first | (refine letQ ?_; intro Qz) | (refine letQC ?_; intro Qz)))
            try ((fail_if_success (with_reducible show wpAny _ _ _ _ _ Sz)); with_reducible (first | (refine letS ?_; intro Sz) | (refine letSC ?_; intro Sz)))
            refine frsG F19 hm ?_; clear F19; intro _ F19
            try dsimp only
            (repeat ((fail_if_success (with_reducible show wpAny _ _ (PySem.eval (PySem.Expr.Name (Str.ofString "sep") _) _) _ _ _)); walk1))
            have mSep : (cS, oS) ∈ news1 := hsub _ (.tail _ (m3 (m2 (mS (.tail _ (.tail _ (.head _)))))))
            refine nameX_C (o := oS) (c := cS) N19 (by rw [hcS]; rfl) mSep dS ?_ rfl rfl
            walk1
            rename_i h22 F22 N22
            (repeat ((fail_if_success (with_reducible show wpAny _ _ (PySem.eval (PySem.Expr.Name (Str.ofString "sep") _) _) _ _ _)); walk1))
            refine nameX_C (o := oS) (c := cS) N22 (by rw [hcS]; rfl) mSep dS ?_ rfl rfl
            (repeat ((fail_if_success (with_reducible show wpAny _ _ (PySem.call (Value.builtin _) _) _ _ _)); walk1))
            have hcl : (com3 c0 c1 c2).length ≤ 25 := Nat.le_trans (com3_len c0 c1 c2) hl0
            refine join_list (N22.isList mDc) hSc (by rw [txt_sum, List.length_map, slash_len2]; lia) (fun t23 k23 => ?_)
            have hjl : (Str.ofString "/" ++ Txt.join (Str.ofString "/") ((com3 c0 c1 c2).map Nm.txt)).length ≤ 100 := by
              rw [way_join2, waS_len]
              split <;> lia
            refine add_str (fun t8 k8 => ?_) (by
              have := strLen_append (Str.ofString "/") (Txt.join (Str.ofString "/") ((com3 c0 c1 c2).map Nm.txt))
              rw [sizeLine_eq]; lia)
            rw [way_join2]
            exact leaveK_ F22 (news' := news) (fun p hp => N22 p (hsub _ (.tail _ (m3 (m2 (mS (.tail _ (.tail _ (.tail _ hp))))))))) (fun F N => hret _ _ _ _ F N ⟨⟨_, rfl⟩, rfl⟩)
end Mine
end
/-! part K7 -/
section
example : True := by w_top off; trivial
open PySem PySem.W PyProof.Rows HeadC
set_option maxRecDepth 100000
namespace Mine
theorem k_fill_nowK7 {w : World} : ∃ _ : Challenge.rw_pd0166_01 = Challenge.rw_pd0166_01, hd.heap_1 w.params = hd.heap_1 w.params := by
  k_fill
  exact ⟨rfl, rfl⟩
theorem three_one (key : Nat → Str) : (sOf key 3).2 = 1 ↔ key 0 = key 1 ∧ key 1 = key 2 := by
  show (sStep (sStep (sStep ((fun _ => false, 0) : (Str → Bool) × Nat) (key 0)) (key 1)) (key 2)).2 = 1 ↔ _
  unfold sStep
  simp only [Bool.false_or, Bool.false_eq_true, if_false, Nat.zero_add, decide_eq_true_eq, Bool.or_eq_true]
  by_cases e1 : key 1 = key 0
  · by_cases e2 : key 2 = key 0
    · simp [e1, e2]
    · have : ¬ key 0 = key 2 := fun h => e2 h.symm
      simp [e1, e2, this]
  · have : ¬ key 0 = key 1 := fun h => e1 h.symm
    by_cases e2 : key 2 = key 0
    · simp [e1, e2, this]
    · by_cases e3 : key 2 = key 1
      · simp [e1, e3, this]
      · simp [e1, e2, e3, this]
theorem off1_memB {D : Addr} : ∀ {l : List (Addr × Obj)}, LCg.Off1 D l → ∀ p ∈ l, p.1 ≠ D
  | [], _, p, hp => nomatch hp
  | _ :: _, x, p, h => by
    rcases List.mem_cons.mp h with rfl | h
    · exact x.1
    · exact off1_memB x.2 p h
theorem ints_snoc {n : Int} {t : Tok} : ∀ {vs : List Value} {ns : List Int}, IntsAre vs ns → IntsAre (vs ++ [.int n t]) (ns ++ [n])
  | _, _, .nil => .cons _ _ .nil
  | _, _, .cons m u h => .cons m u (ints_snoc h)
theorem chr_at (cs : Way) (i : Nat) (n : Nm) (h : cs[i]? = some n) : Txt.item (nmS cs) (i : Int) = chrS n.chr ∧ (Txt.charAt (nmS cs) (i : Int)).isSome = true := by
  have e : Txt.charAt (nmS cs) (i : Int) = some n.chr := by
    have hlt := (List.getElem?_eq_some_iff.mp h).1
    have h2 : (nmS cs).cps[i]? = some n.chr := by
      rw [← Array.getElem?_toList, nmS_cps, List.getElem?_map, h]; rfl
    unfold Txt.charAt
    have h3 : seqIndex? (i : Int) (nmS cs).length = some i := by
      rw [nmS_len]; unfold seqIndex?; have h0 : ¬ ((i : Int) < 0) := by lia
      simp [h0, hlt]
    rw [h3]
    exact h2
  refine ⟨?_, by rw [e]; rfl⟩
  unfold Txt.item
  rw [e]; rfl
set_option maxHeartbeats 8000000 in
theorem c_both {prog : Program} {w : World} {mean : ExcName → Option Value} {mg mb : Str → Option Value} {news : List (Addr × Obj)} {c0 c1 c2 : Way} {t0 t1 t2 : Tok} {lA : Addr} {nA : Nat}
    (hA : (lA, listOf [.str (waS c0) t0, .str (waS c1) t1, .str (waS c2) t2].toArray nA) ∈ news) (h0 : c0.length ≤ 25) (h1 : c1.length ≤ 25) (h2 : c2.length ≤ 25) :
    CallC prog w mean mg mb 1 219 [.ref lA] news (fun r news' => (∃ t', r = .str (waS (com3 c0 c1 c2)) t') ∧ news' = news) := by
  intro dp un gd cn cs a ccd cl outer A₀ base h₀ L m s Q E B F X N T hk hdp hun hret
  refine wpAny_call ?_
  k_dflt (refine' code_defC ?k1 ?k2 ?k3 ?k4 ?k5 ?kA ?kF ?kK ?k6 ?k7 ?k8 ?k9 ?kB ?kD ?_ ?c2 ?c3 ?c4; (case kA => exact rfl); (case kF => exact rfl); (case kK => assumption); (case k1 => k_asm); (case k2 => k_asm); (case k3 => k_asm); (case k4 => k_asm); (case k5 => k_asm); (case k6 => k_is); (case k7 => k_is); (case k8 => ktr_room); (case k9 => exact BindsTo.of_eq rfl); (case kB => exact rfl); (case kD => decide +kernel); (case c2 => exact rfl); (case c3 => exact rfl); (case c4 => exact rfl); k_whole)
  intro g' L' h' tk' cells' FG F' N' Y' B' X' T' l1
  have hY := CellsAre.one Y'; obtain ⟨oC, hE', dC⟩ := hY; subst hE'; clear Y'
  simp only [List.cons_append, List.nil_append] at N'
  try dsimp only
  (first | refine letEnv ?_ | refine letEnvC ?_); intro Az envz Qz Ez
  have hnC : ∀ p ∈ news, p.1 < L' + 1 := fun p hp => Nat.lt_succ_of_lt (l1 p hp)
  try ((fail_if_success (with_reducible show Gz)); with_reducible (first | (refine letW ?_; intro Gz) | (refine letWC ?_; intro Gz)))
  obtain ⟨C, hC⟩ : ∃ x, x = L' + 1 := ⟨_, rfl⟩
  rw [← hC] at hnC
  have hN0 : News g' L' h' ((C, oC) :: news) := by rw [hC]; exact N'
  refine frsG F' (l := [("ways", .ref lA)]) ⟨rfl, trivial⟩ ?_; clear F'; intro _ F'
  iterate 1 walk1
  refine LCg.Assign_ListComp_U F' rfl (by with_unfolding_all rfl) (by rfl) (by decide) (by rfl) (by decide) (by rfl) (by rfl) (by rfl) ?_
  iterate 1 walk1
  have hS0 : LCg.SrcAt g' lA [Value.str (waS c0) t0, .str (waS c1) t1, .str (waS c2) t2].toArray ((C, oC) :: news) := .inr ⟨_, .tail _ hA, rfl, _, rfl⟩
  refine .inl (Mine.I3 lA _ _ ⟨rfl, rfl, F', hN0, hS0, (by rw [sizeLine_eq]; exact Nat.le_of_ble_eq_true rfl), ?_⟩)
  rintro s₂ hz1
  try ((fail_if_success (with_reducible show Gz)); with_reducible (first | (refine letW ?_; intro Gz) | (refine letWC ?_; intro Gz)))
  obtain ⟨g, rfl⟩ := hz1
  try ((fail_if_success (with_reducible show wpAny _ _ _ Qz _ _)); with_reducible (first | (refine letQ ?_; intro Qz) | (refine letQC ?_; intro Qz)))
  try ((fail_if_success (with_reducible show wpAny _ _ _ _ _ Sz)); with_reducible (first | (refine letS ?_; intro Sz) | (refine letSC ?_; intro Sz)))
  refine comp_rest_inv (fun i ys nw => nw = (C, oC) :: news ∧ StrsAre ys ([nmS c0, nmS c1, nmS c2].take i)) ?_ ?_ 3 0 [] _ rfl ⟨rfl, .nil⟩
  · rintro i ys nw v I oI Cc oCc Dc m₂ h tk E' hi hz14 hv hCc hx F N off ne
    try ((fail_if_success (with_reducible show Gz)); with_reducible (first | (refine letW ?_; intro Gz) | (refine letWC ?_; intro Gz)))
    obtain ⟨rfl, hys⟩ := hz14
    try ((fail_if_success (with_reducible show wpAny _ _ _ Qz _ _)); with_reducible (first | (refine letQ ?_; intro Qz) | (refine letQC ?_; intro Qz)))
    try ((fail_if_success (with_reducible show wpAny _ _ _ _ _ Sz)); with_reducible (first | (refine letS ?_; intro Sz) | (refine letSC ?_; intro Sz)))
    try ((fail_if_success (with_reducible show Gz)); with_reducible (first | (refine letW ?_; intro Gz) | (refine letWC ?_; intro Gz)))
    obtain ⟨ci, ti, hci, hl, rfl⟩ : ∃ ci ti, [c0, c1, c2][i]? = some ci ∧ ci.length ≤ 25 ∧ v = .str (waS ci) ti := by
      match i, hv with
      | 0, hv => cases hv; exact Mine.I2 c0 t0 ⟨rfl, h0, rfl⟩
      | 1, hv => cases hv; exact Mine.I2 c1 t1 ⟨rfl, h1, rfl⟩
      | 2, hv => cases hv; exact Mine.I2 c2 t2 ⟨rfl, h2, rfl⟩
      | i + 3, hv => lia
    have hwl : (waS ci).length ≤ 100 := by rw [waS_len]; split <;> lia
    iterate 8 walk1
    refine slice_strK_sn (k := 2) (i := 1) F N rfl (fun h3 t3 k3 F3 N3 => ?_) (hsz := by rw [sizeLine_eq]; lia)
    rw [way_odd ci hl]
    refine LCg.CompEnd.intro F3 N3 ((C, oC) :: news) (fun p hp => hp) off hS0 ⟨rfl, ?_⟩
    have hi3 : i < 3 := hi
    match i, hci with
    | 0, hci => cases hci; cases hys; exact .cons _ _ .nil
    | 1, hci => cases hci; exact strs_snoc (ys := [nmS c0]) hys
    | 2, hci => cases hci; exact strs_snoc (ys := [nmS c0, nmS c1]) hys
    | i + 3, _ => lia
  · rintro ys nw hz2
    try ((fail_if_success (with_reducible show Gz)); with_reducible (first | (refine letW ?_; intro Gz) | (refine letWC ?_; intro Gz)))
    obtain ⟨rfl, hys⟩ := hz2
    try ((fail_if_success (with_reducible show wpAny _ _ _ Qz _ _)); with_reducible (first | (refine letQ ?_; intro Qz) | (refine letQC ?_; intro Qz)))
    try ((fail_if_success (with_reducible show wpAny _ _ _ _ _ Sz)); with_reducible (first | (refine letS ?_; intro Sz) | (refine letSC ?_; intro Sz)))
    intro rD h3 tk3 F3 N3 off
    replace hys : StrsAre ys [nmS c0, nmS c1, nmS c2] := hys
    try ((fail_if_success (with_reducible show Gz)); with_reducible (first | (refine letW ?_; intro Gz) | (refine letWC ?_; intro Gz)))
    refine Mine.E2 ?_ hys.cons_inv
    intro u0 ys1
    refine And.elim ?_
    intro hR1
    subst hR1
    intro q1
    try ((fail_if_success (with_reducible show Gz)); with_reducible (first | (refine letW ?_; intro Gz) | (refine letWC ?_; intro Gz)))
    refine Mine.E2 ?_ q1.cons_inv
    intro u1 ys2
    refine And.elim ?_
    intro hR2
    subst hR2
    intro q2
    try ((fail_if_success (with_reducible show Gz)); with_reducible (first | (refine letW ?_; intro Gz) | (refine letWC ?_; intro Gz)))
    refine Mine.E2 ?_ q2.cons_inv
    intro u2 ys3
    refine And.elim ?_
    intro hR3
    subst hR3
    intro q3
    obtain rfl := q3.nil_inv
    have hrC : C ≠ rD := off.1
    try dsimp only
    iterate 3 walk1
    refine storeX_C (o := oC) (c := C) F3 N3 (by rw [hC]; rfl) (.tail hrC.symm (.head fun p hp => Nat.ne_of_lt (hnC p hp))) dC ?_ rfl rfl
    intro h4 oC2 F4 N4 dC2
    refine frsG F4 (l := [("rows", .ref rD)]) ⟨rfl, trivial⟩ ?_; clear F4; intro _ F4
    (repeat ((fail_if_success (with_reducible show wpAny _ _ (PySem.exec (Stmt.While _ _ _ _) _) _ _ _)); walk1))
    refine While_inv3 (fun k m1 news1 => ∃ (i : Nat) (oK : Obj) (tK : Tok), news1 = (rD, LCg.lst [.str (nmS c0) u0, .str (nmS c1) u1, .str (nmS c2) u2]) :: (C, oK) :: news ∧ Has m1 [("rows", .ref rD)] ∧ oK.data = .cell (some (.int (i : Int) tK)) ∧
        i ≤ c0.length ∧ i ≤ c1.length ∧ i ≤ c2.length ∧ (∀ j, j < i → c0[j]? = c1[j]? ∧ c1[j]? = c2[j]?) ∧ k = 30 - i)
      (fun m1 news1 => ∃ (i : Nat) (oK : Obj) (tK : Tok), news1 = (rD, LCg.lst [.str (nmS c0) u0, .str (nmS c1) u1, .str (nmS c2) u2]) :: (C, oK) :: news ∧ Has m1 [("rows", .ref rD)] ∧ oK.data = .cell (some (.int (i : Int) tK)) ∧ i ≤ c0.length ∧ com3 c0 c1 c2 = c0.take i)
      F4 N4 (n₀ := 30) (Mine.I3 0 oC2 _ ⟨rfl, ⟨rfl, trivial⟩, dC2, Nat.zero_le _, Nat.zero_le _, Nat.zero_le _, (fun _ h => nomatch h), rfl⟩) ?_ ?_
    · rintro k m1 news1 h5 tk5 F5 N5 hz7
      try ((fail_if_success (with_reducible show Gz)); with_reducible (first | (refine letW ?_; intro Gz) | (refine letWC ?_; intro Gz)))
      refine Mine.E3 ?_ hz7
      clear hz7
      intro i oK tK
      refine Mine.A8 ?_
      intro hR4
      subst hR4
      intro hm dK hi0 hi1 hi2 hag
      intro hR5
      subst hR5
      try ((fail_if_success (with_reducible show wpAny _ _ _ Qz _ _)); with_reducible (first | (refine letQ ?_; intro Qz) | (refine letQC ?_; intro Qz)))
      try ((fail_if_success (with_reducible show wpAny _ _ _ _ _ Sz)); with_reducible (first | (refine letS ?_; intro Sz) | (refine letSC ?_; intro Sz)))
      refine frsG F5 hm ?_; clear F5; intro _ F5
      have hD0 : LCg.SrcAt g' rD [Value.str (nmS c0) u0, .str (nmS c1) u1, .str (nmS c2) u2].toArray ((rD, LCg.lst [Value.str (nmS c0) u0, .str (nmS c1) u1, .str (nmS c2) u2]) :: (C, oK) :: news) := .inr ⟨_, .head _, rfl, _, rfl⟩
      (repeat ((fail_if_success (with_reducible show wpAny _ _ (PySem.eval (PySem.Expr.Name (Str.ofString "count") _) _) _ _ _)); walk1))
      refine nameX_C (o := oK) (c := C) N5 (by rw [hC]; rfl) (.tail _ (.head _)) dK ?_ rfl rfl
      (repeat ((fail_if_success (with_reducible show wpAny _ _ (PySem.eval (PySem.Expr.ListComp _ _ _ _) _) _ _ _)); walk1))
      refine LCg.ListComp_U F5 (by rfl) (by decide) (by rfl) (by decide) (by rfl) ?_
      iterate 1 walk1
      refine .inl (Mine.I3 rD _ _ ⟨rfl, rfl, F5, N5, hD0, (by rw [sizeLine_eq]; exact Nat.le_of_ble_eq_true rfl), ?_⟩)
      rintro s₃ hz1
      try ((fail_if_success (with_reducible show Gz)); with_reducible (first | (refine letW ?_; intro Gz) | (refine letWC ?_; intro Gz)))
      obtain ⟨g3, rfl⟩ := hz1
      try ((fail_if_success (with_reducible show wpAny _ _ _ Qz _ _)); with_reducible (first | (refine letQ ?_; intro Qz) | (refine letQC ?_; intro Qz)))
      try ((fail_if_success (with_reducible show wpAny _ _ _ _ _ Sz)); with_reducible (first | (refine letS ?_; intro Sz) | (refine letSC ?_; intro Sz)))
      refine comp_rest_inv (fun j ys nw => nw = (rD, LCg.lst [Value.str (nmS c0) u0, .str (nmS c1) u1, .str (nmS c2) u2]) :: (C, oK) :: news ∧ IntsAre ys (([c0, c1, c2].take j).map fun c => (c.length : Int))) ?_ ?_ 3 0 [] _ rfl ⟨rfl, .nil⟩
      · rintro j ys nw v I oI Cc oCc Dc m₂ h tk E' hj hz14 hv hCc hx F N off ne
        try ((fail_if_success (with_reducible show Gz)); with_reducible (first | (refine letW ?_; intro Gz) | (refine letWC ?_; intro Gz)))
        obtain ⟨rfl, hys'⟩ := hz14
        try ((fail_if_success (with_reducible show wpAny _ _ _ Qz _ _)); with_reducible (first | (refine letQ ?_; intro Qz) | (refine letQC ?_; intro Qz)))
        try ((fail_if_success (with_reducible show wpAny _ _ _ _ _ Sz)); with_reducible (first | (refine letS ?_; intro Sz) | (refine letSC ?_; intro Sz)))
        try ((fail_if_success (with_reducible show Gz)); with_reducible (first | (refine letW ?_; intro Gz) | (refine letWC ?_; intro Gz)))
        obtain ⟨cj, tj, hcj, hl, rfl⟩ : ∃ cj tj, [c0, c1, c2][j]? = some cj ∧ cj.length ≤ 25 ∧ v = .str (nmS cj) tj := by
          match j, hv with
          | 0, hv => cases hv; exact Mine.I2 c0 u0 ⟨rfl, h0, rfl⟩
          | 1, hv => cases hv; exact Mine.I2 c1 u1 ⟨rfl, h1, rfl⟩
          | 2, hv => cases hv; exact Mine.I2 c2 u2 ⟨rfl, h2, rfl⟩
          | j + 3, hv => lia
        have hnl : (nmS cj).length ≤ 100 := by rw [nmS_len]; lia
        iterate 6 walk1
        refine len_str (by lia) ?_
        refine LCg.CompEnd.intro F N _ (fun p hp => hp) off hD0 ⟨rfl, ?_⟩
        rw [List.take_add_one, hcj, Option.toList_some, List.map_append, nmS_len]
        exact ints_snoc hys'
      · rintro ys nw hz2
        try ((fail_if_success (with_reducible show Gz)); with_reducible (first | (refine letW ?_; intro Gz) | (refine letWC ?_; intro Gz)))
        obtain ⟨rfl, hys'⟩ := hz2
        try ((fail_if_success (with_reducible show wpAny _ _ _ Qz _ _)); with_reducible (first | (refine letQ ?_; intro Qz) | (refine letQC ?_; intro Qz)))
        try ((fail_if_success (with_reducible show wpAny _ _ _ _ _ Sz)); with_reducible (first | (refine letS ?_; intro Sz) | (refine letSC ?_; intro Sz)))
        intro iD h6 tk6 F6 N6 off6
        (repeat ((fail_if_success (with_reducible show wpAny _ _ (PySem.call (Value.builtin _) _) _ _ _)); walk1))
        refine min_list_N rfl F6 N6 (N6.isList (.head _)) hys' (by simp) (fun h7 M tM tk7 F7 N7 hM hMin => ?_)
        (repeat ((fail_if_success (with_reducible show wpAny _ _ (PySem.compareOp _ _ _) _ _ _)); walk1))
        iterate 2 walk1
        have hMl : M ∈ [(c0.length : Int), (c1.length : Int), (c2.length : Int)] := hM
        have hM0 := hMin (c0.length : Int) (.head _)
        have hM1 := hMin (c1.length : Int) (.tail _ (.head _))
        have hM2 := hMin (c2.length : Int) (.tail _ (.tail _ (.head _)))
        by_cases hlt : (i : Int) < M
        · refine ifP (by simpa using hlt) ?_
          try ((fail_if_success (with_reducible show Gz)); with_reducible (first | (refine letW ?_; intro Gz) | (refine letWC ?_; intro Gz)))
          obtain ⟨a0, ha0⟩ : ∃ a, c0[i]? = some a := ⟨_, List.getElem?_eq_getElem (by lia)⟩
          try ((fail_if_success (with_reducible show Gz)); with_reducible (first | (refine letW ?_; intro Gz) | (refine letWC ?_; intro Gz)))
          obtain ⟨a1, ha1⟩ : ∃ a, c1[i]? = some a := ⟨_, List.getElem?_eq_getElem (by lia)⟩
          try ((fail_if_success (with_reducible show Gz)); with_reducible (first | (refine letW ?_; intro Gz) | (refine letWC ?_; intro Gz)))
          obtain ⟨a2, ha2⟩ : ∃ a, c2[i]? = some a := ⟨_, List.getElem?_eq_getElem (by lia)⟩
          try ((fail_if_success (with_reducible show Gz)); with_reducible (first | (refine letW ?_; intro Gz) | (refine letWC ?_; intro Gz)))
          obtain ⟨key, hkey⟩ : ∃ key : Nat → Str, key = fun q => chrS (match q with | 0 => a0.chr | 1 => a1.chr | _ => a2.chr) := ⟨_, rfl⟩
          (repeat ((fail_if_success (with_reducible show wpAny _ _ (PySem.eval (PySem.Expr.SetComp _ _ _ _) _) _ _ _)); walk1))
          refine comp_set (knd := PySem.strKind prog w) (cl := [("count", C)]) key F7 (by rw [hC]; rfl) (by decide) (by rfl) (by decide) (by rfl) ?_
          iterate 1 walk1
          refine CSrc.intro N7 (src_list (l := rD) (vs := [Value.str (nmS c0) u0, .str (nmS c1) u1, .str (nmS c2) u2]) rfl F7 N7 (.tail _ (.head _))) (fun p hp => .inr (by rw [List.mem_singleton.mp hp]; exact .tail _ (.head _))) (by rw [sizeLine_eq]; exact Nat.le_of_ble_eq_true rfl) ?_
          intro g8 tk8
          refine ⟨by exact Nat.le_of_ble_eq_true rfl, ?_, ?_⟩
          · intro q v I oI Cc oCc Dd oDd m₂ h tk hq hv hCc hx F N
            try ((fail_if_success (with_reducible show Gz)); with_reducible (first | (refine letW ?_; intro Gz) | (refine letWC ?_; intro Gz)))
            obtain ⟨cq, tq, aq, haq, hkq, rfl⟩ : ∃ cq tq, ∃ aq : Nm, cq[i]? = some aq ∧ key q = chrS aq.chr ∧ v = .str (nmS cq) tq := by
              rw [hkey]
              match q, hv with
              | 0, hv => cases hv; exact Mine.I3 c0 u0 a0 ⟨ha0, rfl, rfl⟩
              | 1, hv => cases hv; exact Mine.I3 c1 u1 a1 ⟨ha1, rfl, rfl⟩
              | 2, hv => cases hv; exact Mine.I3 c2 u2 a2 ⟨ha2, rfl, rfl⟩
              | q + 3, hv => simp at hv
            (repeat ((fail_if_success (with_reducible show wpAny _ _ (PySem.eval (PySem.Expr.Name (Str.ofString "count") _) _) _ _ _)); walk1))
            refine lcf_cell (o := oK) (c := C) N (by rfl) (.tail _ (.tail _ (.tail _ (.tail _ (.tail _ (.head _)))))) dK ?_ (by rfl) (by rfl)
            try dsimp only
            try ((fail_if_success (with_reducible show Gz)); with_reducible (first | (refine letW ?_; intro Gz) | (refine letWC ?_; intro Gz)))
            obtain ⟨e1, e2⟩ := chr_at cq i aq haq
            refine str_at e1 (by unfold fitsSsize; simp; lia) e2 ?_
            rw [hkq]
            exact Mine.I2 _ _ ⟨rfl, F, N, strKind_is _ _ _ _, rfl⟩
          · intro sD oS h8 tk9 F8 N8 off8 hso
            (repeat ((fail_if_success (with_reducible show wpAny _ _ (PySem.call (Value.builtin _) _) _ _ _)); walk1))
            refine len_sl1 (own := []) N8 hso (by have := sOf_le key 3; show (((sOf key 3).2 : Nat) : Int) < 2 ^ 63; lia) ?_
            have h31 : ((sOf key [Value.str (nmS c0) u0, .str (nmS c1) u1, .str (nmS c2) u2].length).2 : Int) = 1 ↔ a0 = a1 ∧ a1 = a2 := by
              have := three_one key
              rw [show [Value.str (nmS c0) u0, .str (nmS c1) u1, .str (nmS c2) u2].length = 3 from rfl]
              have e : ∀ x y : Nm, chrS x.chr = chrS y.chr ↔ x = y := fun x y => ⟨fun h => Nm.chr_inj (by have := congrArg (fun s : Str => s.cps.toList) h; simpa [chrS] using this), fun h => by rw [h]⟩
              have k0 : key 0 = chrS a0.chr := by rw [hkey]; rfl
              have k1 : key 1 = chrS a1.chr := by rw [hkey]; rfl
              have k2 : key 2 = chrS a2.chr := by rw [hkey]; rfl
              rw [k0, k1, k2, e, e] at this
              exact ⟨fun h => this.mp (by lia), fun h => by have := this.mpr h; lia⟩
            generalize (sOf key [Value.str (nmS c0) u0, .str (nmS c1) u1, .str (nmS c2) u2].length).2 = nS at h31 hso ⊢
            iterate 5 walk1
            · rename_i hone
              refine ifP rfl ?_
              iterate 2 walk1
              refine wpAny_AugAssign_Name (wpAny_loadName_cell rfl (by rfl) (by rw [hC]; rfl) ⟨oK, (N8 (C, oK) (.tail _ (.tail _ (.tail _ (.head _))))).1, dK⟩ ?_)
              iterate 2 walk1
              have hsC : sD ≠ C := (off8 (C, oK) (.tail _ (.tail _ (.head _)))).symm
              have hiC : iD ≠ C := (off1_memB off6 (C, oK) (.tail _ (.head _))).symm
              refine storeX_C (o := oK) (c := C) F8 N8 (by rw [hC]; rfl) (.tail hsC (.tail hiC (.tail hrC.symm (.head fun p hp => Nat.ne_of_lt (hnC p hp))))) dK ?_ rfl rfl
              intro h9 oK2 F9 N9 dK2
              refine wpAny_execs_nil ?_
              have hag2 : ∀ j, j < i + 1 → c0[j]? = c1[j]? ∧ c1[j]? = c2[j]? := fun j hj => by
                rcases Nat.lt_or_eq_of_le (Nat.le_of_lt_succ hj) with h | rfl
                · exact hag j h
                · try ((fail_if_success (with_reducible show Gz)); with_reducible (first | (refine letW ?_; intro Gz) | (refine letWC ?_; intro Gz)))
                  obtain ⟨e0, e1⟩ := h31.mp hone
                  rw [ha0, ha1, ha2, e0, e1]; exact ⟨rfl, rfl⟩
              exact Mine.I5 _ _ _ _ (30 - (i + 1)) ⟨rfl, F9, News.sub N9 (fun p hp => .tail _ (.tail _ hp)), by lia, Mine.I3 (i + 1) oK2 _ ⟨rfl, ⟨rfl, trivial⟩, dK2, by lia, by lia, by lia, hag2, rfl⟩⟩
            · rename_i hone
              refine ifN (by simp) ?_
              refine Mine.I4 _ _ _ _ ⟨rfl, F8, News.sub N8 (fun p hp => .tail _ (.tail _ hp)), Mine.I3 i oK tK ⟨rfl, ⟨rfl, trivial⟩, dK, hi0, com3_take i hi0 hi1 hi2 hag (fun x y z e0 e1 e2 => ?_)⟩⟩
              rw [ha0] at e0; rw [ha1] at e1; rw [ha2] at e2
              cases e0; cases e1; cases e2
              exact fun h => hone (h31.mpr h)
        · refine ifN (by simpa using hlt) (ifN (by simp) ?_)
          refine Mine.I4 _ _ _ _ ⟨rfl, F7, News.sub N7 (fun p hp => .tail _ hp), Mine.I3 i oK tK ⟨rfl, ⟨rfl, trivial⟩, dK, hi0, com3_take i hi0 hi1 hi2 hag (fun x y z e0 e1 e2 => ?_)⟩⟩
          have := (List.getElem?_eq_some_iff.mp e0).1
          have := (List.getElem?_eq_some_iff.mp e1).1
          have := (List.getElem?_eq_some_iff.mp e2).1
          exfalso
          simp only [List.mem_cons, List.not_mem_nil, or_false] at hMl
          lia
    · rintro m1 news1 h5 tk5 F5 N5 hz6
      try ((fail_if_success (with_reducible show Gz)); with_reducible (first | (refine letW ?_; intro Gz) | (refine letWC ?_; intro Gz)))
      refine Mine.E3 ?_ hz6
      clear hz6
      intro i oK tK
      refine Mine.A5 ?_
      intro hR6
      subst hR6
      intro hm dK hi0
      intro hcom
      try ((fail_if_success (with_reducible show wpAny _ _ _ Qz _ _)); with_reducible (first | (refine letQ ?_; intro Qz) | (refine letQC ?_; intro Qz)))
      try ((fail_if_success (with_reducible show wpAny _ _ _ _ _ Sz)); with_reducible (first | (refine letS ?_; intro Sz) | (refine letSC ?_; intro Sz)))
      refine frsG F5 hm ?_; clear F5; intro _ F5
      iterate 13 walk1
      try dsimp only
      refine item_at (vs := [Value.str (nmS c0) u0, .str (nmS c1) u1, .str (nmS c2) u2]) (k := 0) (n := 3) N5 (.head _) rfl (by show (3 : Nat) < 2 ^ 62; lia) rfl ?_
      (repeat ((fail_if_success (with_reducible show wpAny _ _ (PySem.eval (PySem.Expr.Name (Str.ofString "count") _) _) _ _ _)); walk1))
      refine nameX_C (o := oK) (c := C) N5 (by rw [hC]; rfl) (.tail _ (.head _)) dK ?_ rfl rfl
      iterate 2 walk1
      refine slice_strN_ns (j := (i : Int)) F5 N5 (fun h6 t6 k6 F6 N6 => ?_) (hsz := by rw [sizeLine_eq, nmS_len]; lia)
      rw [nmS_take c0 i hi0]
      have htl : (nmS (c0.take i)).length ≤ 25 := by rw [nmS_len, List.length_take]; lia
      iterate 1 walk1
      refine join_strF rfl F6 N6 (joinOk_signsN (N := 1048576) (S := 15) (by lia) (by decide) (by decide)) (fun h7 k7 t7 F7 N7 => ?_)
      have hjl : (Str.ofString "/" ++ Txt.join (Str.ofString "/") (signs (nmS (c0.take i)))).length ≤ 100 := by
        rw [way_join, waS_len]
        have : (c0.take i).length ≤ 25 := by rw [List.length_take]; lia
        split <;> lia
      refine add_str (fun t8 k8 => ?_) (by
        have := strLen_append (Str.ofString "/") (Txt.join (Str.ofString "/") (signs (nmS (c0.take i))))
        rw [sizeLine_eq]; lia)
      rw [way_join, ← hcom]
      try dsimp only
      exact leaveK_ F7 (news' := news) (fun p hp => N7 p (.tail _ (.tail _ hp))) (fun F N => hret _ _ _ _ F N ⟨⟨_, rfl⟩, rfl⟩)
end Mine
end
/-! part K1 -/
section
example : True := by w_top off; trivial
open PySem PySem.W PyProof.Rows HeadC
set_option maxRecDepth 100000
namespace Mine
theorem k_fill_nowK1 {w : World} : ∃ _ : Challenge.rw_pd0166_01 = Challenge.rw_pd0166_01, hd.heap_1 w.params = hd.heap_1 w.params := by
  k_fill
  exact ⟨rfl, rfl⟩
theorem BinOpC {M : Model} {A : Around} {E : Value → Shared → Prop} {s : Shared} {env : Env} {l r : Expr} {op : Operator} {pos : Pos} {Q : Value → Shared → Prop}
    (h : wpC M A (eval l env) (fun a s₁ => wpC M A (eval r env) (fun b s₂ => wpC M A (binaryOp op a b) Q E s₂) E s₁) E s) :
    wpC M A (eval (.BinOp l op r pos) env) Q E s := by
  rw [eval_BinOp]
  exact wpC_bind (wpC_mono h (fun a s₁ h₁ => wpC_bind (wpC_holding (wpC_mono h₁ (fun b s₂ h₂ => wpC_bind (wpC_standAt (wpC_operating h₂))) fun _ _ x => x))) fun _ _ x => x)
theorem bsw_x (w : W4) : bsw w.arr 2 2 = (turn .nx w).arr := by cases w; rfl
theorem bsw_2 (w : W4) : bsw #[w.a, w.b] 2 1 = #[w.b, w.a] := by cases w; rfl
theorem bsw_3 (w : W4) : bsw #[w.a, w.b, w.c] 3 1 = #[w.c, w.b, w.a] := by cases w; rfl
theorem bsw_4 (w : W4) : bsw w.arr 4 1 = #[w.d, w.c, w.b, w.a] := by cases w; rfl
theorem pick_2 (w : W4) : KBy.picked w.arr none (some 2) = #[w.a, w.b] := by cases w; kernel_rfl
theorem pick_2' (w : W4) : KBy.picked w.arr (some 2) none = #[w.c, w.d] := by cases w; kernel_rfl
theorem pick_3 (w : W4) : KBy.picked w.arr none (some 3) = #[w.a, w.b, w.c] := by cases w; kernel_rfl
theorem pick_3' (w : W4) : KBy.picked w.arr (some 3) none = #[w.d] := by cases w; kernel_rfl
theorem pick_whole_3 (w : W4) : KBy.whole w.arr none (some 3) = false := by cases w; kernel_rfl
theorem pick_whole_2' (w : W4) : KBy.whole w.arr (some 2) none = false := by cases w; kernel_rfl
theorem pick_whole_3' (w : W4) : KBy.whole w.arr (some 3) none = false := by cases w; kernel_rfl
theorem pick_whole_2 (w : W4) : KBy.whole w.arr none (some 2) = false := by cases w; kernel_rfl
set_option maxHeartbeats 8000000 in
theorem c_turned_x {prog : Program} {w : World} {mean : ExcName → Option Value} {mg mb : Str → Option Value} {news : List (Addr × Obj)} {x : W4} {t u : Tok} :
    CallD prog w mean mg mb 2 176 [.bytes x.arr t, .str "x" u] news (fun r news' => (∃ t', r = .bytes (turn .nx x).arr t') ∧ news' = news) := by
  intro dp un gd cn cs a ccd cl outer A₀ base h₀ L m s Q E B F X N T hk hdp hun hret
  refine wpC_call ?_
  k_dflt (refine' code_defC' ?k1 ?k2 ?k3 ?k4 ?k5 ?kA ?kF ?kK ?k6 ?k7 ?k8 ?k9 ?kB ?_ ?c2 ?c3 ?c4 ?c5; (case kA => exact rfl); (case kF => exact rfl); (case kK => assumption); (case k1 => k_asm); (case k2 => k_asm); (case k3 => k_asm); (case k4 => k_asm); (case k5 => k_asm); (case k6 => k_is); (case k7 => k_is); (case k8 => ktr_room); (case k9 => exact BindsTo.of_eq rfl); (case c5 => decide); (case kB => exact locs rfl); (case c2 => exact rfl); (case c3 => exact rfl); (case c4 => exact rfl); k_whole; intro _ _ _ _ _ _ _ _ _; (try dsimp only); (try k_fold))
  rename_i g' L' h' FG F' N' B' X' T'
  (first | refine letEnv ?_ | refine letEnvC ?_); intro Az envz Qz Ez
  refine execsC_cons (IfC (wpC_of ?_))
  iterate 5 walk1
  refine ifP (by decide) ?_
  refine execsC_cons (ReturnC (CallC_eval ?_))
  iterate 1 walk1
  refine callWithC X' (by rfl) ?_
  (repeat ((fail_if_success (with_reducible show wpC _ _ _ _ _ _)); walk1))
  refine CallD.use (c_byteswap (d := x.arr) (wd := 2) (q := 2) rfl (by decide) (by decide) (by show 4 < 1000; decide) (by show Builtin.Range.small 0 4 2 = true; decide +kernel) (by show Builtin.Range.rangeSize 0 4 2 = 2; decide +kernel) (by decide +kernel) (by decide +kernel)) B' F' X' N' T' rfl (by show dp + 1 + 1 < recursionLimit; omega) (by show un + 3 + 8 * 1 < cLine; omega) ?_
  rintro r news' h1 tk1 F1 N1 hz6
  obtain ⟨⟨t', rfl⟩, rfl⟩ := hz6
  rw [bsw_x]
  exact leaveK_ F1 N1 (fun F N => hret _ _ _ _ F N ⟨⟨_, rfl⟩, rfl⟩)
set_option maxHeartbeats 8000000 in
theorem c_turned_2 {prog : Program} {w : World} {mean : ExcName → Option Value} {mg mb : Str → Option Value} {news : List (Addr × Obj)} {x : W4} {t u : Tok} :
    CallD prog w mean mg mb 2 176 [.bytes x.arr t, .str "2" u] news (fun r news' => (∃ t', r = .bytes (turn .n2 x).arr t') ∧ news' = news) := by
  intro dp un gd cn cs a ccd cl outer A₀ base h₀ L m s Q E B F X N T hk hdp hun hret
  refine wpC_call ?_
  k_dflt (refine' code_defC' ?k1 ?k2 ?k3 ?k4 ?k5 ?kA ?kF ?kK ?k6 ?k7 ?k8 ?k9 ?kB ?_ ?c2 ?c3 ?c4 ?c5; (case kA => exact rfl); (case kF => exact rfl); (case kK => assumption); (case k1 => k_asm); (case k2 => k_asm); (case k3 => k_asm); (case k4 => k_asm); (case k5 => k_asm); (case k6 => k_is); (case k7 => k_is); (case k8 => ktr_room); (case k9 => exact BindsTo.of_eq rfl); (case c5 => decide); (case kB => exact locs rfl); (case c2 => exact rfl); (case c3 => exact rfl); (case c4 => exact rfl); k_whole; intro _ _ _ _ _ _ _ _ _; (try dsimp only); (try k_fold))
  rename_i g' L' h' FG F' N' B' X' T'
  (first | refine letEnv ?_ | refine letEnvC ?_); intro Az envz Qz Ez
  refine execsC_cons (IfC (wpC_of ?_))
  iterate 5 walk1
  refine ifN (by decide) ?_
  refine wpC_of (wpAny_execs_nil ?_)
  dsimp only
  refine execsC_cons (AssignC (wpC_of ?_))
  (repeat ((fail_if_success (with_reducible show wpC _ _ _ _ _ _)); walk1))
  rw [show ((((Str.ofString "2").cps.getD 0 0 : Nat) : Int) - 48) = 2 by decide +kernel]
  refine wpC_of ?_
  iterate 1 walk1
  dsimp only
  refine execsC_cons (ReturnC (BinOpC (CallC_eval ?_)))
  iterate 1 walk1
  refine callWithC X' (by rfl) ?_
  (repeat ((fail_if_success (with_reducible show wpC _ _ _ _ _ _)); walk1))
  (rename Fr g' L' _ _ => F2)
  (rename News g' L' _ _ => N2)
  refine KBy.slice_N F2 N2 .none (.int _ _) (pick_whole_2 x) (by rw [pick_2]; simp) (fun h3 t3 k3 F3 N3 => ?_)
  rw [pick_2]
  (repeat ((fail_if_success (with_reducible show wpC _ _ _ _ _ _)); walk1))
  refine CallD.use (c_byteswap (d := #[x.a, x.b]) (wd := 2) (q := 1) rfl (by decide) (by decide) (by show 2 < 1000; decide) (by show Builtin.Range.small 0 2 2 = true; decide +kernel) (by show Builtin.Range.rangeSize 0 2 2 = 1; decide +kernel) (by decide +kernel) (by decide +kernel)) B' F3 X' N3 T' rfl (by show dp + 1 + 1 < recursionLimit; omega) (by show un + 3 + 8 * 1 < cLine; omega) ?_
  rintro r news' h4 tk4 F4 N4 hz6
  obtain ⟨⟨t', rfl⟩, rfl⟩ := hz6
  rw [bsw_2]
  refine wpC_of ?_
  (repeat ((fail_if_success (with_reducible show wpC _ _ _ _ _ _)); walk1))
  refine KBy.slice_N F4 N4 (.int _ _) .none (pick_whole_2' x) (by rw [pick_2']; simp) (fun h5 t5 k5 F5 N5 => ?_)
  rw [pick_2']
  refine wpC_of ?_
  refine KBy.add_bytes (by simp) (fun t6 k6 => ?_)
  have e : (#[x.b, x.a] ++ #[x.c, x.d] : Array UInt8) = (turn .n2 x).arr := by cases x; rfl
  rw [e]
  exact leaveK_ F5 N5 (fun F N => hret _ _ _ _ F N ⟨⟨_, rfl⟩, rfl⟩)
set_option maxHeartbeats 8000000 in
theorem c_turned_3 {prog : Program} {w : World} {mean : ExcName → Option Value} {mg mb : Str → Option Value} {news : List (Addr × Obj)} {x : W4} {t u : Tok} :
    CallD prog w mean mg mb 2 176 [.bytes x.arr t, .str "3" u] news (fun r news' => (∃ t', r = .bytes (turn .n3 x).arr t') ∧ news' = news) := by
  intro dp un gd cn cs a ccd cl outer A₀ base h₀ L m s Q E B F X N T hk hdp hun hret
  refine wpC_call ?_
  k_dflt (refine' code_defC' ?k1 ?k2 ?k3 ?k4 ?k5 ?kA ?kF ?kK ?k6 ?k7 ?k8 ?k9 ?kB ?_ ?c2 ?c3 ?c4 ?c5; (case kA => exact rfl); (case kF => exact rfl); (case kK => assumption); (case k1 => k_asm); (case k2 => k_asm); (case k3 => k_asm); (case k4 => k_asm); (case k5 => k_asm); (case k6 => k_is); (case k7 => k_is); (case k8 => ktr_room); (case k9 => exact BindsTo.of_eq rfl); (case c5 => decide); (case kB => exact locs rfl); (case c2 => exact rfl); (case c3 => exact rfl); (case c4 => exact rfl); k_whole; intro _ _ _ _ _ _ _ _ _; (try dsimp only); (try k_fold))
  rename_i g' L' h' FG F' N' B' X' T'
  (first | refine letEnv ?_ | refine letEnvC ?_); intro Az envz Qz Ez
  refine execsC_cons (IfC (wpC_of ?_))
  iterate 5 walk1
  refine ifN (by decide) ?_
  refine wpC_of (wpAny_execs_nil ?_)
  dsimp only
  refine execsC_cons (AssignC (wpC_of ?_))
  (repeat ((fail_if_success (with_reducible show wpC _ _ _ _ _ _)); walk1))
  rw [show ((((Str.ofString "3").cps.getD 0 0 : Nat) : Int) - 48) = 3 by decide +kernel]
  refine wpC_of ?_
  iterate 1 walk1
  dsimp only
  refine execsC_cons (ReturnC (BinOpC (CallC_eval ?_)))
  iterate 1 walk1
  refine callWithC X' (by rfl) ?_
  (repeat ((fail_if_success (with_reducible show wpC _ _ _ _ _ _)); walk1))
  (rename Fr g' L' _ _ => F2)
  (rename News g' L' _ _ => N2)
  refine KBy.slice_N F2 N2 .none (.int _ _) (pick_whole_3 x) (by rw [pick_3]; simp) (fun h3 t3 k3 F3 N3 => ?_)
  rw [pick_3]
  (repeat ((fail_if_success (with_reducible show wpC _ _ _ _ _ _)); walk1))
  refine CallD.use (c_byteswap (d := #[x.a, x.b, x.c]) (wd := 3) (q := 1) rfl (by decide) (by decide) (by show 3 < 1000; decide) (by show Builtin.Range.small 0 3 3 = true; decide +kernel) (by show Builtin.Range.rangeSize 0 3 3 = 1; decide +kernel) (by decide +kernel) (by decide +kernel)) B' F3 X' N3 T' rfl (by show dp + 1 + 1 < recursionLimit; omega) (by show un + 3 + 8 * 1 < cLine; omega) ?_
  rintro r news' h4 tk4 F4 N4 hz6
  obtain ⟨⟨t', rfl⟩, rfl⟩ := hz6
  rw [bsw_3]
  refine wpC_of ?_
  (repeat ((fail_if_success (with_reducible show wpC _ _ _ _ _ _)); walk1))
  refine KBy.slice_N F4 N4 (.int _ _) .none (pick_whole_3' x) (by rw [pick_3']; simp) (fun h5 t5 k5 F5 N5 => ?_)
  rw [pick_3']
  refine wpC_of ?_
  refine KBy.add_bytes (by simp) (fun t6 k6 => ?_)
  have e : (#[x.c, x.b, x.a] ++ #[x.d] : Array UInt8) = (turn .n3 x).arr := by cases x; rfl
  rw [e]
  exact leaveK_ F5 N5 (fun F N => hret _ _ _ _ F N ⟨⟨_, rfl⟩, rfl⟩)
theorem c_turned {prog : Program} {w : World} {mean : ExcName → Option Value} {mg mb : Str → Option Value} {news : List (Addr × Obj)} {x : W4} {n : Nm} {t u : Tok} :
    CallD prog w mean mg mb 2 176 [.bytes x.arr t, .str n.txt u] news (fun r news' => (∃ t', r = .bytes (turn n x).arr t') ∧ news' = news) := by
  cases n
  · exact c_turned_2
  · exact c_turned_3
  · exact c_turned_x
end Mine
end
/-! part D2 -/
section
example : True := by w_top off; trivial
open PySem PySem.W PyProof.Rows HeadC
set_option maxRecDepth 100000
namespace Mine
theorem k_fill_nowD2 {w : World} : ∃ _ : Challenge.rw_pd0166_01 = Challenge.rw_pd0166_01, hd.heap_1 w.params = hd.heap_1 w.params := by
  k_fill
  exact ⟨rfl, rfl⟩
set_option maxHeartbeats 8000000 in
theorem c_basename {prog : Program} {w : World} {mean : ExcName → Option Value} {mg mb : Str → Option Value} {news : List (Addr × Obj)} {cs0 : List Nat} {c : Nat} {t : Tok} (hc : c ≠ 47) (hz : cs0.length < 2 ^ 18) :
    CallC prog w mean mg mb 2 150 [.str (wayS (cs0 ++ [c])) t] news (fun r news' => (∃ t', r = .str (chrS c) t') ∧ news' = news) := by
  intro dp un gd cn cs a ccd cl outer A₀ base h₀ L m s Q E B F X N T hk hdp hun hret
  obtain ⟨x, hx⟩ : ∃ x, x = wayS (cs0 ++ [c]) := ⟨_, rfl⟩
  rw [← hx]
  have hzx : x.length < 2 ^ 20 := by rw [hx, wayS_len]; simp; lia
  refine wpAny_call ?_
  k_dflt ktr_enter
  rename_i g' L' h' FG F' N' B' X' T' 
  (first | refine letEnv ?_ | refine letEnvC ?_); intro Az envz Qz Ez
  (repeat ((fail_if_success (with_reducible show wpAny _ _ (PySem.call (Value.ref _) _) _ _ _)); walk1))
  refine CallC.use (c_fspath (x := x) (t := t)) B' F' X' N' T' rfl (by show dp + 1 + 1 < recursionLimit; lia) (by show un + 3 + 8 * 1 < cLine; lia) ?_
  rintro r news' h1 tk1 F1 N1 ⟨rfl, rfl⟩
  (repeat ((fail_if_success (with_reducible show wpAny _ _ (PySem.call (Value.ref _) _) _ _ _)); walk1))
  rename_i h2 F2 N2
  refine CallC.use (c_getsep (x := x) (t := t)) B' F2 X' N2 T' rfl (by show dp + 1 + 1 < recursionLimit; lia) (by show un + 3 + 8 * 1 < cLine; lia) ?_
  rintro r news' h3 tk3 F3 N3 ⟨⟨ts, rfl⟩, rfl⟩
  iterate 26 walk1
  rename_i h4 F4 N4
  refine slice_strN_sn F4 N4 (fun h5 t5 k5 F5 N5 => ?_) (hsz := by rw [sizeLine_eq]; lia)
  have e : Txt.slice x (some (Txt.rfind x "/" + 1)) none = chrS c := by rw [hx]; exact way_base _ _ hc
  rw [e]
  exact leaveK_ F5 N5 (fun F N => hret _ _ _ _ F N ⟨⟨_, rfl⟩, rfl⟩)
set_option maxHeartbeats 8000000 in
theorem c_dirname {prog : Program} {w : World} {mean : ExcName → Option Value} {mg mb : Str → Option Value} {news : List (Addr × Obj)} {cs0 : List Nat} {c : Nat} {t : Tok} (hc : c ≠ 47) (hcs : ∀ d ∈ cs0, d ≠ 47) (hz : cs0.length < 2 ^ 18) :
    CallC prog w mean mg mb 2 157 [.str (wayS (cs0 ++ [c])) t] news (fun r news' => (∃ t', r = .str (wayS cs0) t') ∧ news' = news) := by
  intro dp un gd cn cs a ccd cl outer A₀ base h₀ L m s Q E B F X N T hk hdp hun hret
  obtain ⟨x, hx⟩ : ∃ x, x = wayS (cs0 ++ [c]) := ⟨_, rfl⟩
  rw [← hx]
  have hzx : x.length < 2 ^ 20 := by rw [hx, wayS_len]; simp; lia
  refine wpAny_call ?_
  k_dflt ktr_enter
  rename_i g' L' h' FG F' N' B' X' T' 
  (first | refine letEnv ?_ | refine letEnvC ?_); intro Az envz Qz Ez
  (repeat ((fail_if_success (with_reducible show wpAny _ _ (PySem.call (Value.ref _) _) _ _ _)); walk1))
  refine CallC.use (c_fspath (x := x) (t := t)) B' F' X' N' T' rfl (by show dp + 1 + 1 < recursionLimit; lia) (by show un + 3 + 8 * 1 < cLine; lia) ?_
  rintro r news' h1 tk1 F1 N1 ⟨rfl, rfl⟩
  (repeat ((fail_if_success (with_reducible show wpAny _ _ (PySem.call (Value.ref _) _) _ _ _)); walk1))
  rename_i h2 F2 N2
  refine CallC.use (c_getsep (x := x) (t := t)) B' F2 X' N2 T' rfl (by show dp + 1 + 1 < recursionLimit; lia) (by show un + 3 + 8 * 1 < cLine; lia) ?_
  rintro r news' h3 tk3 F3 N3 ⟨⟨ts, rfl⟩, rfl⟩
  iterate 26 walk1
  rename_i h4 F4 N4
  refine slice_strN_ns F4 N4 (fun h5 t5 k5 F5 N5 => ?_) (hsz := by rw [sizeLine_eq]; lia)
  obtain ⟨hd', hhd⟩ : ∃ y, y = Txt.slice x none (some (Txt.rfind x "/" + 1)) := ⟨_, rfl⟩
  rw [← hhd]
  have hhl : hd'.cps.toList = (cs0.flatMap fun c => [47, c]) ++ [47] := by rw [hhd, hx]; exact way_head _ _ hc
  have hhz : hd'.length ≠ 0 := by
    intro e
    have e2 : hd'.cps.toList.length = 0 := by simpa [Str.length] using e
    rw [hhl] at e2
    simp at e2
  have hhle : hd'.length ≤ x.length := by rw [hhd]; exact Txt.slice_le _ _ _
  have hhle2 : hd'.length ≤ 1048576 := by lia
  iterate 7 walk1
  rw [if_pos (by simpa using hhz)]
  iterate 12 walk1
  refine SB.mul (mul_ok _ hhle2) (fun t6 k6 => ?_)
  have hmul := mul_slash hd'.length hhz
  refine PyProof.Rows.ne_str ?_
  refine wpAny_truthy_bool ?_
  rcases List.eq_nil_or_concat cs0 with e0 | ⟨ds, d, e0⟩
  · have e1 : (hd' != Txt.mul "/" (hd'.length : Int)) = false := by
      have : hd' = Txt.mul "/" (hd'.length : Int) := by
        apply Str.ext_list
        have hl1 : hd'.length = 1 := by
          have : hd'.cps.toList.length = 1 := by rw [hhl, e0]; rfl
          simpa [Str.length] using this
        rw [hmul, hhl, e0, hl1]; rfl
      rw [← this]; simp
    rw [e1, if_neg (by simp), if_neg (by simp)]
    iterate 4 walk1
    rename_i h6 F6 N6
    have ew : hd' = wayS cs0 := by apply Str.ext_list; rw [hhl, e0]; rfl
    rw [ew]
    exact leaveK_ F6 N6 (fun F N => hret _ _ _ _ F N ⟨⟨_, rfl⟩, rfl⟩)
  · have e1 : (hd' != Txt.mul "/" (hd'.length : Int)) = true := by
      rw [bne_iff_ne]
      intro e
      have e2 := congrArg (fun y => y.cps.toList) e
      simp only [hmul] at e2
      have : d ∈ List.replicate hd'.length 47 := by rw [← e2, hhl, e0]; simp
      have := (List.mem_replicate.mp this).2
      exact hcs d (by rw [e0]; simp) this
    rw [e1, if_pos rfl]
    iterate 12 walk1
    have ew : Txt.rstripChars hd' "/" = wayS cs0 := by
      have hd2 : hd'.cps.toList = ((ds.flatMap fun c => [47, c]) ++ [47]) ++ [d, 47] := by rw [hhl, e0]; simp [List.concat_eq_append]
      rw [rstrip_at hd' _ d hd2 (hcs d (by rw [e0]; simp))]
      apply Str.ext_list
      rw [wayS_cps, e0, List.concat_eq_append, wayL_snoc]
      simp
    rw [ew]
    iterate 6 walk1
    rename_i h6 F6 N6
    exact leaveK_ F6 N6 (fun F N => hret _ _ _ _ F N ⟨⟨_, rfl⟩, rfl⟩)
end Mine
end
/-! part K6 -/
section
example : True := by w_top off; trivial
open PySem PySem.W PyProof.Rows HeadC
set_option maxRecDepth 100000
namespace Mine
theorem k_fill_nowK6 {w : World} : ∃ _ : Challenge.rw_pd0166_01 = Challenge.rw_pd0166_01, hd.heap_1 w.params = hd.heap_1 w.params := by
  k_fill
  exact ⟨rfl, rfl⟩
theorem chr_txt (n : Nm) : chrS n.chr = n.txt := by cases n <;> rfl
theorem rng_small (k : Nat) (h : k ≤ 25) : Builtin.Range.small 0 (k : Int) 1 = true ∧ Builtin.Range.rangeSize 0 (k : Int) 1 = k := by
  have : ∀ k : Fin 26, Builtin.Range.small 0 ((k : Nat) : Int) 1 = true ∧ Builtin.Range.rangeSize 0 ((k : Nat) : Int) 1 = k := by decide
  exact this ⟨k, by lia⟩
set_option maxHeartbeats 8000000 in
theorem c_home {prog : Program} {w : World} {mean : ExcName → Option Value} {mg mb : Str → Option Value} {news : List (Addr × Obj)} {st : W4} {cs : Way} {t u : Tok} (hcs : cs.length ≤ 25) :
    CallD prog w mean mg mb 3 214 [.str (waS cs) t, .bytes (run cs st).arr u] news (fun r news' => ∃ a t1 t2 n, r = .ref a ∧ news' = (a, ({ cls := .type "tuple", data := .seq #[.str (waS []) t1, .bytes st.arr t2] n } : Obj)) :: news) := by
  intro dp un gd cn cs' a ccd cl outer A₀ base h₀ L m s Q E B F X N T hk hdp hun hret
  refine wpC_call ?_
  k_dflt (refine' code_defC' ?k1 ?k2 ?k3 ?k4 ?k5 ?kA ?kF ?kK ?k6 ?k7 ?k8 ?k9 ?kB ?_ ?c2 ?c3 ?c4 ?c5; (case kA => exact rfl); (case kF => exact rfl); (case kK => assumption); (case k1 => k_asm); (case k2 => k_asm); (case k3 => k_asm); (case k4 => k_asm); (case k5 => k_asm); (case k6 => k_is); (case k7 => k_is); (case k8 => ktr_room); (case k9 => exact BindsTo.of_eq rfl); (case c5 => decide); (case kB => exact locs rfl); (case c2 => exact rfl); (case c3 => exact rfl); (case c4 => exact rfl); k_whole; intro _ _ _ _ _ _ _ _ _; (try dsimp only); (try k_fold))
  rename_i g' L' h' FG F' N' B' X' T'
  (first | refine letEnv ?_ | refine letEnvC ?_); intro Az envz Qz Ez
  have hwl : (waS cs).length ≤ 100 := by rw [waS_len]; split <;> lia
  refine execsC_cons (ForC ?_)
  (repeat ((fail_if_success (with_reducible show wpAny _ _ (PySem.call (Value.type _) _) _ _ _)); walk1))
  have hfd : Int.fdiv ((waS cs).length : Int) 2 = (cs.length : Int) := by
    rw [waS_len]
    split
    · rename_i h; rw [h]; rfl
    · rw [Int.fdiv_eq_ediv_of_nonneg _ (by decide)]; lia
  obtain ⟨hs1, hs2⟩ := rng_small cs.length hcs
  (rename Fr g' L' h' _ => F1)
  rw [hfd]
  refine range1_rows F1 N' ?_
  intro h6 tk6 t6 u6 v6 hr6 F6 N6 k6
  try dsimp only
  refine iter_loopC (fun i m1 news1 => news1 = news ∧ ∃ t1 t2, Has m1 [("way", .str (waS (cs.take (cs.length - i))) t1), ("word", .bytes (run (cs.take (cs.length - i)) st).arr t2)])
    (fun m1 news1 => news1 = news ∧ ∃ t1 t2, Has m1 [("way", .str (waS []) t1), ("word", .bytes st.arr t2)])
    (srcT_range rfl F6 N6 hr6 hs1 hs2) (fun _ h => nomatch h) (⟨rfl, Mine.I2 t u (by rw [Nat.sub_zero, List.take_length]; exact ⟨rfl, rfl, trivial⟩)⟩) ?_ ?_ ?_
  · rintro i v m1 news1 h7 tk7 I oI hi ⟨tv, rfl⟩ hlt hnI ⟨rfl, t1, t2, hm⟩ F7 N7
    obtain ⟨j, hj⟩ : ∃ j, cs.length - i = j + 1 := ⟨cs.length - i - 1, by lia⟩
    have hj2 : cs.length - (i + 1) = j := by lia
    rw [hj] at hm
    rw [hj2]
    obtain ⟨n, hn⟩ : ∃ n, cs[j]? = some n := ⟨_, List.getElem?_eq_getElem (by lia)⟩
    have htk : cs.take (j + 1) = cs.take j ++ [n] := by rw [List.take_add_one, hn]; rfl
    rw [htk, run_snoc] at hm
    generalize hds : cs.take j = ds at hm ⊢
    have hdl : ds.length ≤ 25 := by rw [← hds, List.length_take]; lia
    refine frsG F7 hm ?_; clear F7; intro _ F7
    iterate 2 walk1
    rename_i h8 F8 N8
    refine execsC_cons (AssignC (CallC_eval ?_))
    iterate 1 walk1
    refine callWithC X' (by rfl) ?_
    have ew : waS (ds ++ [n]) = wayS (ds.map Nm.chr ++ [n.chr]) := by unfold waS; rw [List.map_append]; rfl
    (repeat ((fail_if_success (with_reducible show wpAny _ _ (PySem.call (Value.ref _) _) _ _ _)); (fail_if_success (with_reducible show wpC _ _ _ _ _ _)); walk1))
    refine CallC.use (by rw [ew]; exact c_basename (cs0 := ds.map Nm.chr) (c := n.chr) (Nm.chr_ne n) (by rw [List.length_map]; lia)) B' F8 X' N8 T' rfl ?_ ?_ ?_
    · show dp + 1 + 2 < recursionLimit; lia
    · show un + 3 + 8 * 2 < cLine; lia
    rintro r news' h9 tk9 F9 N9 ⟨⟨t9, rfl⟩, rfl⟩
    rw [chr_txt]
    (repeat ((fail_if_success (with_reducible show wpC _ _ _ _ _ _)); walk1))
    refine CallD.use (by exact c_turned (x := turn n (run ds st)) (n := n) (t := t2) (u := t9)) B' F9 X' N9 T' rfl ?_ ?_ ?_
    · show dp + 1 + 2 < recursionLimit; lia
    · show un + 3 + 8 * 2 < cLine; lia
    rintro r news' h10 tk10 F10 N10 ⟨⟨t10, rfl⟩, rfl⟩
    rw [turn_turn]
    refine wpC_of ?_
    iterate 1 walk1
    rename_i h11 F11 N11
    try dsimp only
    refine execsC_cons (wpC_of ?_)
    (repeat ((fail_if_success (with_reducible show wpAny _ _ (PySem.call (Value.ref _) _) _ _ _)); (fail_if_success (with_reducible show wpC _ _ _ _ _ _)); walk1))
    refine CallC.use (by rw [ew]; exact c_dirname (cs0 := ds.map Nm.chr) (c := n.chr) (Nm.chr_ne n) (by intro d hd; obtain ⟨k, _, rfl⟩ := List.mem_map.mp hd; exact Nm.chr_ne k) (by rw [List.length_map]; lia)) B' F11 X' N11 T' rfl ?_ ?_ ?_
    · show dp + 1 + 2 < recursionLimit; lia
    · show un + 3 + 8 * 2 < cLine; lia
    rintro r news' h12 tk12 F12 N12 ⟨⟨t12, rfl⟩, rfl⟩
    iterate 1 walk1
    rename_i h13 F13 N13
    try dsimp only
    refine wpC_of (wpAny_execs_nil ?_)
    exact Mine.I4 _ _ _ _ ⟨rfl, F13, N13, hnI, rfl, Mine.I2 t12 t10 ⟨rfl, rfl, trivial⟩⟩
  · rintro m1 news1 ⟨rfl, t1, t2, hm⟩
    rw [Nat.sub_self] at hm
    exact ⟨rfl, Mine.I2 t1 t2 hm⟩
  · rintro m1 news1 h7 tk7 F7 N7 ⟨rfl, t1, t2, hm⟩
    refine frsG F7 hm ?_; clear F7; intro _ F7
    refine execsC_cons (wpC_of ?_)
    iterate 8 walk1
    rename_i aR h8 F8 N8 l8
    exact leaveK_ F8 N8 (fun F N => hret _ _ _ _ F N (Mine.I4 aR _ _ _ ⟨rfl, rfl⟩))
end Mine
end
/-! part C3 -/
section
example : True := by w_top off; trivial
open PySem PySem.W PyProof.Rows HeadC
set_option maxRecDepth 100000
namespace Mine
theorem k_fill_now3 {w : World} : ∃ _ : Challenge.rw_pd0166_01 = Challenge.rw_pd0166_01, hd.heap_1 w.params = hd.heap_1 w.params := by
  k_fill
  exact ⟨rfl, rfl⟩

set_option maxHeartbeats 8000000 in
theorem c_heappush {prog : Program} {w : World} {mean : ExcName → Option Value} {mg mb : Str → Option Value} {hp : Addr} {news : List (Addr × Obj)} {ps : List VI} {n : Nat} {new : VI}
    (hne : ∀ p ∈ news, p.1 ≠ hp) (hit : ∀ p ∈ ps, IsItem news p.1 p.2) (hz : ps.length + 1 < 2 ^ 20) (hnew : IsItem news new.1 new.2) :
    CallC prog w mean mg mb 2 28 [.ref hp, new.1] ((hp, listOf (vals ps).toArray n) :: news)
      (fun r news' => r = .none ∧ ∃ n', news' = (hp, listOf (vals (sdGo viLt new ps.length (ps ++ [new]) ps.length)).toArray n') :: news) := by
  intro dp un gd cn cs a ccd cl outer A₀ base h₀ L m s Q E B F X N T hk hdp hun hret
  refine wpAny_call ?_
  k_dflt ktr_enter
  rename_i g' L' h' FG F' N' B' X' T' 
  (first | refine letEnv ?_ | refine letEnvC ?_); intro Az envz Qz Ez
  iterate 10 walk1
  refine append_K F' N' (Upd.head hne) (fun h1 F1 N1 => ?_) (by rw [sizeLine_eq, List.size_toArray, vals_len]; lia)
  have ev : (vals ps).toArray.push new.1 = (vals (ps ++ [new])).toArray := by simp [vals]
  rw [ev] at N1
  iterate 17 walk1
  refine len_at N1 (.head _) (by rw [vals_len]; simp; lia) (fun tL tk' => ?_)
  rw [vals_len, List.length_append, List.length_singleton]
  iterate 2 walk1
  rw [show (((ps.length + 1 : Nat) : Int) - 1) = (ps.length : Int) by lia]
  iterate 2 walk1
  refine CallC.use (c_siftdown (ps := ps ++ [new]) (pos := ps.length) (new := new) (news := news) hne ?_ (by simp; lia) (by simp)) B' F1 X' N1 T' rfl ?_ ?_ ?_
  · intro q hq
    rcases List.mem_append.mp hq with h | h
    · exact hit _ h
    · rw [List.mem_singleton.mp h]; exact hnew
  · show dp + 1 + 1 < recursionLimit; lia
  · show un + 3 + 8 * 1 < cLine; lia
  · rintro r news' h5 tk5 F5 N5 hz6
    try ((fail_if_success (with_reducible show Gz)); with_reducible (first | (refine letW ?_; intro Gz) | (refine letWC ?_; intro Gz)))
    obtain ⟨rfl, rfl⟩ := hz6
    try ((fail_if_success (with_reducible show wpAny _ _ _ Qz _ _)); with_reducible (first | (refine letQ ?_; intro Qz) | (refine letQC ?_; intro Qz)))
    try ((fail_if_success (with_reducible show wpAny _ _ _ _ _ Sz)); with_reducible (first | (refine letS ?_; intro Sz) | (refine letSC ?_; intro Sz)))
    refine wpAny_execs_nil ?_
    exact leaveK_ F5 N5 (fun F N => hret _ _ _ _ F N ⟨rfl, _, rfl⟩)

set_option maxHeartbeats 8000000 in
theorem c_heappop {prog : Program} {w : World} {mean : ExcName → Option Value} {mg mb : Str → Option Value} {hp : Addr} {news : List (Addr × Obj)} {ps : List VI} {n : Nat} {last : VI}
    (hne : ∀ p ∈ news, p.1 ≠ hp) (hit : ∀ p ∈ ps ++ [last], IsItem news p.1 p.2) (hz : ps.length + 1 < 2 ^ 20) :
    CallC prog w mean mg mb 3 35 [.ref hp] ((hp, listOf (vals (ps ++ [last])).toArray n) :: news)
      (fun r news' => ∃ n', match ps with
        | [] => r = last.1 ∧ news' = (hp, listOf #[] n') :: news
        | top :: _ => r = top.1 ∧ news' = (hp, listOf (vals (suAll viLt last (ps.set 0 last))).toArray n') :: news) := by
  intro dp un gd cn cs a ccd cl outer A₀ base h₀ L m s Q E B F X N T hk hdp hun hret
  refine wpAny_call ?_
  k_dflt ktr_enter
  rename_i g' L' h' FG F' N' B' X' T' 
  (first | refine letEnv ?_ | refine letEnvC ?_); intro Az envz Qz Ez
  iterate 7 walk1
  refine kl_pop F' N' (p := vals ps) (y := last.1) (by show kl_last (vals (ps ++ [last])) = _; rw [show vals (ps ++ [last]) = vals ps ++ [last.1] by simp [vals]]; exact kpa_last _ _) (Upd.head hne) (by simp only [vals_len, List.length_append, sizeLine_eq]; simp; lia) (fun h1 F1 N1 => ?_)
  iterate 5 walk1
  rename_i h2 F2 N2
  refine truthy_at N2 (.head _) (by rw [vals_len]; lia) (fun tk1 => ?_)
  cases ps with
  | nil =>
    refine ifN (by simp [vals]) ?_
    iterate 4 walk1
    exact leaveK_ F2 N2 (fun F N => hret _ _ _ _ F N ⟨_, rfl, rfl⟩)
  | cons top rest =>
    refine ifP (by simp [vals]) ?_
    iterate 5 walk1
    refine item_at (k := 0) (vs := vals (top :: rest)) N2 (.head _) rfl (by rw [vals_len]; lia) (v := top.1) (by simp [vals]) ?_
    iterate 6 walk1
    rename_i h3 F3 N3
    refine set_at (k := 0) (vs := vals (top :: rest)) F3 N3 hne rfl (by rw [vals_len]; lia) (by rw [vals_len]; simp) ?_
    intro h4 F4 N4
    rw [vals_set] at N4
    iterate 11 walk1
    refine CallC.use (c_siftup (ps := (top :: rest).set 0 last) (new := last) (news := news) hne ?_ (by simp at hz ⊢; lia) (by simp)) B' F4 X' N4 T' rfl ?_ ?_ ?_
    · intro q hq
      rcases List.mem_or_eq_of_mem_set hq with h | h
      · exact hit _ (List.mem_append.mpr (.inl h))
      · rw [h]; exact hit _ (by simp)
    · show dp + 1 + 2 < recursionLimit; lia
    · show un + 3 + 8 * 2 < cLine; lia
    · rintro r news' h5 tk5 F5 N5 hz6
      try ((fail_if_success (with_reducible show Gz)); with_reducible (first | (refine letW ?_; intro Gz) | (refine letWC ?_; intro Gz)))
      obtain ⟨rfl, rfl⟩ := hz6
      try ((fail_if_success (with_reducible show wpAny _ _ _ Qz _ _)); with_reducible (first | (refine letQ ?_; intro Qz) | (refine letQC ?_; intro Qz)))
      try ((fail_if_success (with_reducible show wpAny _ _ _ _ _ Sz)); with_reducible (first | (refine letS ?_; intro Sz) | (refine letSC ?_; intro Sz)))
      iterate 3 walk1
      exact leaveK_ F5 N5 (fun F N => hret _ _ _ _ F N ⟨_, rfl, rfl⟩)
end Mine
end
/-! part P5 -/
section
open PySem PySem.W PyProof.Rows HeadC
namespace Mine
structure PopOk (qs : List VI) (top : VI) (rest : List VI) : Prop where
  mem : top ∈ qs
  min : ∀ q ∈ qs, viLt q top = false
  ok : HeapOk viLt rest
  sub : ∀ q ∈ rest, q ∈ qs
  all : ∀ q ∈ qs, q = top ∨ q ∈ rest
  len : rest.length + 1 = qs.length
theorem pop_one {st : W4} {last : VI} (hG : ∀ q ∈ [last], Good st q) : PopOk [last] last [] where
  mem := by simp
  min := heap_min (vi_asym (st := st)) vi_ntr (fun i a b h0 ha _ => by
    have := (List.getElem?_eq_some_iff.mp ha).1; simp at this; lia) hG rfl
  ok := fun i a b h0 ha _ => by simp at ha
  sub := fun _ h => nomatch h
  all := fun q hq => .inl (List.mem_singleton.mp hq)
  len := rfl
theorem pop_more {st : W4} {top last : VI} {ps : List VI} (hG : ∀ q ∈ (top :: ps) ++ [last], Good st q) (hh : HeapOk viLt ((top :: ps) ++ [last])) :
    PopOk ((top :: ps) ++ [last]) top (suAll viLt last ((top :: ps).set 0 last)) where
  mem := by simp
  min := heap_min (vi_asym (st := st)) vi_ntr hh hG rfl
  ok := by
    refine suAll_ok (P := Good st) vi_asym vi_ntr (by simp) ⟨by simp, ?_, ?_, ?_⟩ (hG _ (by simp))
    · intro i a b h0 hi hpi ha hb
      rw [List.getElem?_set_ne (Ne.symm hi)] at ha
      rw [List.getElem?_set_ne (Ne.symm hpi)] at hb
      have l1 := (List.getElem?_eq_some_iff.mp ha).1
      have l2 := (List.getElem?_eq_some_iff.mp hb).1
      exact hh i a b h0 (by rw [List.getElem?_append_left l1]; exact ha) (by rw [List.getElem?_append_left l2]; exact hb)
    · intro i a h0 hpi ha b hb0
      lia
    · intro a ha
      rcases List.mem_or_eq_of_mem_set ha with h | h
      · exact hG a (List.mem_append_left _ h)
      · rw [h]; exact hG _ (by simp)
  sub := fun q hq => by
    rw [suAll_mem (by simp), List.set_set] at hq
    simp only [List.set_cons_zero, List.mem_cons] at hq
    rcases hq with h | h
    · rw [h]; simp
    · simp [h]
  all := fun q hq => by
    rw [suAll_mem (by simp), List.set_set]
    simp only [List.set_cons_zero, List.mem_cons]
    simp only [List.cons_append, List.mem_cons, List.mem_append, List.not_mem_nil, or_false] at hq
    rcases hq with h | h | h
    · exact .inl h
    · exact .inr (.inr h)
    · exact .inr (.inl h)
  len := by rw [suAll_len]; simp
theorem push_ok {st : W4} {new : VI} {ps : List VI} (hG : ∀ q ∈ ps, Good st q) (hn : Good st new) (hh : HeapOk viLt ps) : HeapOk viLt (sdGo viLt new ps.length (ps ++ [new]) ps.length) := by
  refine sdGo_ok (P := Good st) vi_asym vi_ntr new _ _ _ (Nat.le_refl _) ⟨by simp, ?_, ?_, ?_, hn⟩
  · intro i a b h0 hi hpi ha hb
    have l1 := (List.getElem?_eq_some_iff.mp ha).1
    have l2 : i < ps.length := by simp at l1; lia
    rw [List.getElem?_append_left l2] at ha
    rw [List.getElem?_append_left (by lia)] at hb
    exact hh i a b h0 ha hb
  · intro i a h0 hpi ha
    have l1 := (List.getElem?_eq_some_iff.mp ha).1
    simp at l1; lia
  · intro a ha
    rcases List.mem_append.mp ha with h | h
    · exact hG a h
    · rw [List.mem_singleton.mp h]; exact hn
theorem push_mem {new : VI} {ps : List VI} (q : VI) : q ∈ sdGo viLt new ps.length (ps ++ [new]) ps.length ↔ q = new ∨ q ∈ ps := by
  rw [sdGo_mem new _ _ _ (by simp)]
  have : (ps ++ [new]).set ps.length new = ps ++ [new] := by
    rw [List.set_append_right _ _ (Nat.le_refl _)]; simp
  rw [this, List.mem_append, List.mem_singleton, or_comm]
theorem push_len {new : VI} {ps : List VI} : (sdGo viLt new ps.length (ps ++ [new]) ps.length).length = ps.length + 1 := by
  rw [sdGo_len]; simp
/-! the state of the settling loop -/
structure SJ (prog : Program) (w : World) (st : W4) (c : Nm → Int) (hp D : Addr) (base : List (Addr × Obj)) (R : Ent → Nm → Prop) (S H : List Ent) (ps : List VI) (oD : Obj) (kvs : List (Str × Value)) (extra : List (Addr × Obj)) : Prop where
  inv : DInv st c S H R
  heap : HeapOk viLt ps
  items : ∀ q ∈ ps, IsItem (extra ++ base) q.1 q.2
  psH : ∀ q ∈ ps, ∃ e ∈ H, q.2 = itm e
  Hps : ∀ e ∈ H, ∃ q ∈ ps, q.2 = itm e
  dict : oD.IsDictOf (PySem.strKind prog w) kvs
  tab : TabR (EntV (extra ++ base)) S kvs
  offHp : ∀ p ∈ extra ++ base, p.1 ≠ hp
  offD : ∀ p ∈ extra ++ base, p.1 ≠ D
  hpD : hp ≠ D
  low : (D == sysModules) = false
variable {prog : Program} {w : World} {st : W4} {c : Nm → Int} {hp D : Addr} {base : List (Addr × Obj)} {R : Ent → Nm → Prop} {S H : List Ent} {ps : List VI} {oD : Obj} {kvs : List (Str × Value)} {extra : List (Addr × Obj)}
theorem SJ.good (J : SJ prog w st c hp D base R S H ps oD kvs extra) : ∀ q ∈ ps, Good st q := fun q hq => by
  refine Exists.elim (J.psH q hq) ?_
  intro e
  refine And.elim ?_
  intro he
  intro h
  exact ⟨e, J.inv.runH e he, h⟩
open Classical in
theorem SJ.kvs_has (J : SJ prog w st c hp D base R S H ps oD kvs extra) (x : W4) : (valueAt kvs x.txt).isSome = decide (inK S x) := by
  rw [J.tab.has]; exact decide_eq_decide.mpr Iff.rfl
open Classical in
/-- what the least item says -/
theorem SJ.popped (J : SJ prog w st c hp D base R S H ps oD kvs extra) {top : VI} {rest : List VI} (P : PopOk ps top rest) : ∃ e ∈ H, top.2 = itm e ∧ (∀ h ∈ H, ¬ ELt h.2 e.2) ∧ e.1 = run e.2.2 st := by
  refine Exists.elim (J.psH top P.mem) ?_
  intro e
  refine And.elim ?_
  intro he
  intro h
  refine ⟨e, he, h, fun f hf => ?_, J.inv.runH e he⟩
  refine Exists.elim (J.Hps f hf) ?_
  intro q
  refine And.elim ?_
  intro hq
  intro h2
  have := P.min q hq
  unfold viLt at this
  rw [h, h2, itemLt_itm (J.inv.runH f hf) (J.inv.runH e he)] at this
  exact of_decide_eq_false this
open Classical in
/-- the rest of the heap, in words -/
theorem SJ.restH (J : SJ prog w st c hp D base R S H ps oD kvs extra) {top : VI} {rest : List VI} (P : PopOk ps top rest) {e : Ent} (he : top.2 = itm e) (hr : e.1 = run e.2.2 st) :
    ∃ H' : List Ent, (∀ h ∈ H', h ∈ H) ∧ (∀ h ∈ H, h = e ∨ h ∈ H') ∧ (∀ q ∈ rest, ∃ f ∈ H', q.2 = itm f) ∧ (∀ f ∈ H', ∃ q ∈ rest, q.2 = itm f) := by
  refine ⟨H.filter fun f => decide (∃ q ∈ rest, q.2 = itm f), fun h hh => (List.mem_filter.mp hh).1, fun h hh => ?_, fun q hq => ?_, fun f hf => of_decide_eq_true (List.mem_filter.mp hf).2⟩
  · refine Exists.elim (J.Hps h hh) ?_
    intro q
    refine And.elim ?_
    intro hq
    intro h2
    rcases P.all q hq with h3 | h3
    · left
      rw [h3, he] at h2
      have e1 : e.2.1 = h.2.1 := congrArg (fun x : Item => x.1) h2
      have e2 : e.2.2 = h.2.2 := waS_inj (congrArg (fun x : Item => x.2.1) h2)
      have e3 : e.1 = h.1 := by rw [hr, e2, ← J.inv.runH h hh]
      obtain ⟨a, b, d⟩ := e
      obtain ⟨a', b', d'⟩ := h
      simp only at e1 e2 e3
      rw [e1, e2, e3]
    · exact .inr (List.mem_filter.mpr ⟨hh, decide_eq_true ⟨q, h3, h2⟩⟩)
  · refine Exists.elim (J.psH q (P.sub q hq)) ?_
    intro f
    refine And.elim ?_
    intro hf
    intro h
    exact ⟨f, List.mem_filter.mpr ⟨hf, decide_eq_true ⟨q, hq, h⟩⟩, h⟩
/-- a new object beside -/
theorem SJ.more (J : SJ prog w st c hp D base R S H ps oD kvs extra) {x : Addr × Obj} (h1 : x.1 ≠ hp) (h2 : x.1 ≠ D) : SJ prog w st c hp D base R S H ps oD kvs (x :: extra) := { J with
  items := fun q hq => IsItem.mono (fun p hp => .tail _ hp) (J.items q hq)
  tab := J.tab.mono fun e v h => EntV.mono (fun p hp => .tail _ hp) e v h
  offHp := fun p hp' => by
    rcases List.mem_cons.mp hp' with rfl | hp'
    · exact h1
    · exact J.offHp p hp'
  offD := fun p hp' => by
    rcases List.mem_cons.mp hp' with rfl | hp'
    · exact h2
    · exact J.offD p hp' }
theorem SJ.push (J : SJ prog w st c hp D base R S H ps oD kvs extra) {R' : Ent → Nm → Prop} {new : VI} {e : Ent} (hi : IsItem (extra ++ base) new.1 new.2) (he : new.2 = itm e) (hinv : DInv st c S (e :: H) R') :
    SJ prog w st c hp D base R' S (e :: H) (sdGo viLt new ps.length (ps ++ [new]) ps.length) oD kvs extra := { J with
  inv := hinv
  heap := push_ok J.good ⟨e, hinv.runH e (.head _), he⟩ J.heap
  items := fun q hq => by
    rcases (push_mem q).mp hq with rfl | h
    · exact hi
    · exact J.items q h
  psH := fun q hq => by
    rcases (push_mem q).mp hq with rfl | h
    · exact ⟨e, .head _, he⟩
    · refine Exists.elim (J.psH q h) ?_
      intro f
      refine And.elim ?_
      intro hf
      intro h2
      exact ⟨f, .tail _ hf, h2⟩
  Hps := fun f hf => by
    rcases List.mem_cons.mp hf with rfl | hf
    · exact ⟨new, (push_mem _).mpr (.inl rfl), he⟩
    · refine Exists.elim (J.Hps f hf) ?_
      intro q
      refine And.elim ?_
      intro hq
      intro h2
      exact ⟨q, (push_mem _).mpr (.inr hq), h2⟩ }
end Mine
end
/-! part K3 -/
section
example : True := by w_top off; trivial
open PySem PySem.W PyProof.Rows HeadC
set_option maxRecDepth 100000
namespace Mine
theorem News.swap {h₀ h : Heap} {L : Addr} {p q : Addr × Obj} {r : List (Addr × Obj)} (N : News h₀ L h (p :: q :: r)) : News h₀ L h (q :: p :: r) := fun x hx => N x (by
  rcases List.mem_cons.mp hx with rfl | hx
  · exact .tail _ (.head _)
  · rcases List.mem_cons.mp hx with rfl | hx
    · exact .head _
    · exact .tail _ (.tail _ hx))
theorem k_fill_nowK3 {w : World} : ∃ _ : Challenge.rw_pd0166_01 = Challenge.rw_pd0166_01, hd.heap_1 w.params = hd.heap_1 w.params := by
  k_fill
  exact ⟨rfl, rfl⟩
theorem c_heappop' {prog : Program} {w : World} {mean : ExcName → Option Value} {mg mb : Str → Option Value} {hp : Addr} {news : List (Addr × Obj)} {qs : List VI} {n : Nat} {st : W4}
    (hne : ∀ p ∈ news, p.1 ≠ hp) (hit : ∀ p ∈ qs, IsItem news p.1 p.2) (hz : qs.length < 2 ^ 20) (hG : ∀ q ∈ qs, Good st q) (hh : HeapOk viLt qs) (hq : qs ≠ []) :
    CallC prog w mean mg mb 3 35 [.ref hp] ((hp, listOf (vals qs).toArray n) :: news) (fun r news' => ∃ top rest n', r = top.1 ∧ news' = (hp, listOf (vals rest).toArray n') :: news ∧ PopOk qs top rest) := by
  rcases List.eq_nil_or_concat qs with e | ⟨ps, last, e⟩
  · exact absurd e hq
  · rw [List.concat_eq_append] at e
    subst e
    refine (c_heappop hne hit (by simpa using hz)).mono fun r nw h => ?_
    try ((fail_if_success (with_reducible show Gz)); with_reducible (first | (refine letW ?_; intro Gz) | (refine letWC ?_; intro Gz)))
    obtain ⟨n', h⟩ := h
    cases ps with
    | nil => exact Mine.I3 last [] n' ⟨h.1, h.2, pop_one hG⟩
    | cons top ps => exact Mine.I3 top _ n' ⟨h.1, h.2, pop_more hG hh⟩
open Classical in
set_option maxHeartbeats 8000000 in
theorem c_settled {prog : Program} {w : World} {mean : ExcName → Option Value} {mg mb : Str → Option Value} {news : List (Addr × Obj)} {st : W4} {c : Nm → Int} {dP : Addr} {oP : Obj} {t : Tok} (hP : (dP, oP) ∈ news) (hT : PriceTab prog w c dP oP) :
    CallD prog w mean mg mb 5 188 [.bytes st.arr t, .ref dP] news (fun r news' => ∃ D oD kvs S extra, r = .ref D ∧ news' = (D, oD) :: (extra ++ news) ∧ (D == sysModules) = false ∧ (∀ p ∈ extra ++ news, p.1 ≠ D) ∧ oD.IsDictOf (PySem.strKind prog w) kvs ∧ TabR (EntV (extra ++ news)) S kvs ∧
      DInv st c S [] (fun _ _ => False) ∧ (st, 0, []) ∈ S) := by
  intro dp un gd cn cs a ccd cl outer A₀ base h₀ L m s Q E B F X N T hk hdp hun hret
  refine wpC_call ?_
  k_dflt (refine' code_defC' ?k1 ?k2 ?k3 ?k4 ?k5 ?kA ?kF ?kK ?k6 ?k7 ?k8 ?k9 ?kB ?_ ?c2 ?c3 ?c4 ?c5; (case kA => exact rfl); (case kF => exact rfl); (case kK => assumption); (case k1 => k_asm); (case k2 => k_asm); (case k3 => k_asm); (case k4 => k_asm); (case k5 => k_asm); (case k6 => k_is); (case k7 => k_is); (case k8 => ktr_room); (case k9 => exact BindsTo.of_eq rfl); (case c5 => decide); (case kB => exact locs rfl); (case c2 => exact rfl); (case c3 => exact rfl); (case c4 => exact rfl); k_whole; intro _ _ _ _ _ _ _ _ _; (try dsimp only); (try k_fold))
  rename_i g' L' h' FG F' N' B' X' T'
  (first | refine letEnv ?_ | refine letEnvC ?_); intro Az envz Qz Ez
  refine execsC_cons (wpC_of ?_)
  (repeat ((fail_if_success (with_reducible show wpC _ _ _ _ _ _)); walk1))
  rename_i hp h1 l1 h2 F2 N2
  refine execsC_cons (wpC_of ?_)
  (repeat ((fail_if_success (with_reducible show wpAny _ _ (PySem.call (Value.ref _) _) _ _ _)); (fail_if_success (with_reducible show wpC _ _ _ _ _ _)); walk1))
  rename_i a0 h3 F3 N3 l3
  refine CallC.use (by exact c_heappush (hp := hp) (ps := []) (new := (.ref a0, itm (st, 0, []))) (by
    intro p hp'
    rcases List.mem_cons.mp hp' with rfl | hp'
    · exact Nat.ne_of_gt l3.1
    · exact Nat.ne_of_lt (l1 p hp')) (fun _ h => nomatch h) (by decide) (Mine.I5 a0 _ _ _ _ ⟨rfl, .head _⟩)) B' F3 X' (News.swap N3) T' rfl ?_ ?_ ?_
  · show dp + 1 + 2 < recursionLimit; lia
  · show un + 3 + 8 * 2 < cLine; lia
  rintro r news' h4 tk4 F4 N4 hz6
  try ((fail_if_success (with_reducible show Gz)); with_reducible (first | (refine letW ?_; intro Gz) | (refine letWC ?_; intro Gz)))
  refine And.elim ?_ hz6
  clear hz6
  intro hR1
  subst hR1
  refine fun hq => Exists.elim hq ?_; clear hq
  intro n4
  intro hR2
  subst hR2
  try ((fail_if_success (with_reducible show wpAny _ _ _ Qz _ _)); with_reducible (first | (refine letQ ?_; intro Qz) | (refine letQC ?_; intro Qz)))
  try ((fail_if_success (with_reducible show wpAny _ _ _ _ _ Sz)); with_reducible (first | (refine letS ?_; intro Sz) | (refine letSC ?_; intro Sz)))
  try dsimp only
  refine execsC_cons (wpC_of ?_)
  iterate 3 walk1
  rename_i D h5 oD lo hdD _ _ _ l5 h6 F6 N6
  try dsimp only
  have hnp : ∀ p ∈ news, p.1 ≠ hp ∧ p.1 ≠ D := fun p hp' => ⟨Nat.ne_of_lt (l1 p hp'), by
    have := l5.2.2
    exact Nat.ne_of_lt (allLt_mem _ this p hp')⟩
  refine execsC_cons (While_invC (fun k m1 news1 => ∃ S H ps nh oD kvs extra, news1 = (hp, listOf (vals ps).toArray nh) :: (D, oD) :: (extra ++ news) ∧ Has m1 [("prices", .ref dP), ("heap", .ref hp), ("settled", .ref D)] ∧
      SJ prog w st c hp D news (fun _ _ => False) S H ps oD kvs extra ∧ ps.length ≤ 3 * S.length + 1 ∧ k = 4 * (24 - S.length) + ps.length)
    (fun m1 news1 => ∃ S nh oD kvs extra, news1 = (hp, listOf #[] nh) :: (D, oD) :: (extra ++ news) ∧ Has m1 [("settled", .ref D)] ∧ SJ prog w st c hp D news (fun _ _ => False) S [] [] oD kvs extra)
    F6 (News.swap N6) (n₀ := 97) (Mine.I6 [] [(st, 0, [])] [(.ref a0, itm (st, 0, []))] n4 oD [] ⟨[(a0, _)], ⟨rfl, ⟨rfl, rfl, rfl, trivial⟩, ?_, Nat.le_refl 1, rfl⟩⟩) ?_ ?_)
  · refine ⟨DInv.init, ?_, ?_, ?_, ?_, hdD, .nil, ?_, ?_, ?_, lo⟩
    · intro i a b h0 ha hb
      have := (List.getElem?_eq_some_iff.mp ha).1
      simp at this; lia
    · intro q hq
      rw [List.mem_singleton.mp hq]
      exact Mine.I5 a0 _ _ _ _ ⟨rfl, .head _⟩
    · intro q hq
      rw [List.mem_singleton.mp hq]
      exact ⟨_, .head _, rfl⟩
    · intro e he
      rw [List.mem_singleton.mp he]
      exact ⟨_, .head _, rfl⟩
    · intro p hp'
      rcases List.mem_cons.mp hp' with rfl | hp'
      · exact Nat.ne_of_gt l3.1
      · exact (hnp p hp').1
    · intro p hp'
      rcases List.mem_cons.mp hp' with rfl | hp'
      · exact Nat.ne_of_lt l5.2.1
      · exact (hnp p hp').2
    · exact Nat.ne_of_lt l5.1
  · rintro k m1 news1 h7 tk7 F7 N7 hz7
    try ((fail_if_success (with_reducible show Gz)); with_reducible (first | (refine letW ?_; intro Gz) | (refine letWC ?_; intro Gz)))
    refine Mine.E6 ?_ hz7
    clear hz7
    intro S H ps nh oD kvs
    refine fun hq => Exists.elim hq ?_; clear hq
    intro extra
    refine Mine.A5 ?_
    intro hR3
    subst hR3
    intro hm J hsz
    intro hR4
    subst hR4
    try ((fail_if_success (with_reducible show wpAny _ _ _ Qz _ _)); with_reducible (first | (refine letQ ?_; intro Qz) | (refine letQC ?_; intro Qz)))
    try ((fail_if_success (with_reducible show wpAny _ _ _ _ _ Sz)); with_reducible (first | (refine letS ?_; intro Sz) | (refine letSC ?_; intro Sz)))
    refine frsG F7 hm ?_; clear F7; intro _ F7
    have hS := J.inv.size
    refine wpC_of ?_
    iterate 2 walk1
    refine truthy_at (vs := vals ps) N7 (.head _) (by rw [vals_len]; lia) (fun tk8 => ?_)
    cases ps with
    | nil =>
      refine ifN (by simp [vals]) ?_
      have hH : H = [] := by
        cases H with
        | nil => rfl
        | cons e H => obtain ⟨q, hq, _⟩ := J.Hps e (.head _); nomatch hq
      subst hH
      exact Mine.I4 _ _ _ _ ⟨rfl, F7, N7, Mine.I5 S nh oD kvs extra ⟨rfl, ⟨rfl, trivial⟩, J⟩⟩
    | cons p0 ps0 =>
      refine ifP (by simp [vals]) ?_
      obtain ⟨ps, hps⟩ : ∃ ps, ps = p0 :: ps0 := ⟨_, rfl⟩
      rw [← hps] at J hsz N7 ⊢
      have hpn : ps ≠ [] := by rw [hps]; simp
      refine execsC_cons (wpC_of ?_)
      (repeat ((fail_if_success (with_reducible show wpAny _ _ (PySem.call (Value.ref _) _) _ _ _)); (fail_if_success (with_reducible show wpC _ _ _ _ _ _)); walk1))
      refine CallC.use (by exact c_heappop' (st := st) (qs := ps) (by
        intro p hp'
        rcases List.mem_cons.mp hp' with rfl | hp'
        · exact J.hpD.symm
        · exact J.offHp p hp') (fun q hq => IsItem.mono (fun p hp => .tail _ hp) (J.items q hq)) (by lia) J.good J.heap hpn) B' F7 X' N7 T' rfl ?_ ?_ ?_
      · show dp + 1 + 3 < recursionLimit; lia
      · show un + 3 + 8 * 3 < cLine; lia
      rintro r news' h9 tk9 F9 N9 hz6
      try ((fail_if_success (with_reducible show Gz)); with_reducible (first | (refine letW ?_; intro Gz) | (refine letWC ?_; intro Gz)))
      refine Mine.E3 ?_ hz6
      clear hz6
      intro top rest n9
      refine Mine.A3 ?_
      intro hR5
      subst hR5
      intro hR6
      subst hR6
      intro P
      try ((fail_if_success (with_reducible show wpAny _ _ _ Qz _ _)); with_reducible (first | (refine letQ ?_; intro Qz) | (refine letQC ?_; intro Qz)))
      try ((fail_if_success (with_reducible show wpAny _ _ _ _ _ Sz)); with_reducible (first | (refine letS ?_; intro Sz) | (refine letSC ?_; intro Sz)))
      try ((fail_if_success (with_reducible show Gz)); with_reducible (first | (refine letW ?_; intro Gz) | (refine letWC ?_; intro Gz)))
      refine Exists.elim (J.popped P) ?_
      intro e
      refine Mine.A4 ?_
      intro heH htop hmin
      intro hrun
      try ((fail_if_success (with_reducible show Gz)); with_reducible (first | (refine letW ?_; intro Gz) | (refine letWC ?_; intro Gz)))
      refine Exists.elim (J.restH P htop hrun) ?_
      intro H'
      refine Mine.A4 ?_
      intro hs1 hs2 hr1
      intro hr2
      try ((fail_if_success (with_reducible show Gz)); with_reducible (first | (refine letW ?_; intro Gz) | (refine letWC ?_; intro Gz)))
      refine Mine.E5 ?_ (J.items _ P.mem)
      intro at_ u1 u2 u3 nt
      refine And.elim ?_
      intro e1
      intro mt
      rw [e1]
      have hTup := News.isTup N9 (.tail _ (.tail _ mt))
      rw [htop] at hTup
      (repeat ((fail_if_success (with_reducible show wpC _ _ _ _ _ _)); walk1))
      rename_i h10 F10 N10
      dsimp only [itm] at F10
      refine execsC_cons (IfC (wpC_of ?_))
      (repeat ((fail_if_success (with_reducible show wpAny _ _ (PySem.call (Value.ref _) _) _ _ _)); (fail_if_success (with_reducible show wpC _ _ _ _ _ _)); walk1))
      refine CallC.use (by exact c_text (x := e.1) (t := u3)) B' F10 X' N10 T' rfl ?_ ?_ ?_
      · show dp + 1 + 2 < recursionLimit; lia
      · show un + 3 + 8 * 2 < cLine; lia
      rintro r news' h11 tk11 F11 N11 hz6
      try ((fail_if_success (with_reducible show Gz)); with_reducible (first | (refine letW ?_; intro Gz) | (refine letWC ?_; intro Gz)))
      obtain ⟨⟨t11, rfl⟩, rfl⟩ := hz6
      try ((fail_if_success (with_reducible show wpAny _ _ _ Qz _ _)); with_reducible (first | (refine letQ ?_; intro Qz) | (refine letQC ?_; intro Qz)))
      try ((fail_if_success (with_reducible show wpAny _ _ _ _ _ Sz)); with_reducible (first | (refine letS ?_; intro Sz) | (refine letSC ?_; intro Sz)))
      iterate 1 walk1
      refine kdg_notin N11 (.tail _ (.head _)) J.dict J.low (strKind_is _ _ _ _) (decide (inK S e.1)) (J.kvs_has e.1) ?_
      iterate 1 walk1
      by_cases hin : inK S e.1
      · rw [decide_eq_true hin, Bool.not_true, if_neg (by simp)]
        refine wpC_of (wpAny_execs_nil ?_)
        try dsimp only
        refine wpC_of (wpAny_execs_nil ?_)
        refine Mine.I5 _ _ _ _ (4 * (24 - S.length) + rest.length) ⟨rfl, F11, N11, by have := P.len; lia, Mine.I6 S H' rest n9 oD kvs ⟨extra, ⟨rfl, ⟨rfl, rfl, rfl, trivial⟩, ?_, by have := P.len; lia, rfl⟩⟩⟩
        exact { J with inv := J.inv.skip hs1 hs2 heH hin, heap := P.ok, items := fun q hq => J.items q (P.sub q hq), psH := hr1, Hps := hr2 }
      · rw [decide_eq_false hin, Bool.not_false, if_pos rfl]
        have hfr0 : ∀ p ∈ (hp, listOf (vals rest).toArray n9) :: (D, oD) :: (extra ++ news), p.1 < h11.objs.size := fun p hp' => Heap.lt_size (N11 p hp').1
        refine execsC_cons (wpC_of ?_)
        (repeat ((fail_if_success (with_reducible show wpAny _ _ (PySem.call (Value.ref _) _) _ _ _)); (fail_if_success (with_reducible show wpC _ _ _ _ _ _)); walk1))
        rename_i h12 F12 N12 _ _ _
        obtain ⟨aV, hA⟩ : ∃ x, x = h11.objs.size := ⟨_, rfl⟩
        try dsimp only at N12
        rw [← hA] at N12 ⊢
        try ((fail_if_success (with_reducible show Gz)); with_reducible (first | (refine letW ?_; intro Gz) | (refine letWC ?_; intro Gz)))
        refine Exists.elim (News.named N12) ?_
        intro tV
        refine And.elim ?_
        intro htV
        intro N12
        have hfr : ∀ p ∈ (hp, listOf (vals rest).toArray n9) :: (D, oD) :: (extra ++ news), p.1 ≠ aV := fun p hp' => by
          rw [hA]; exact Nat.ne_of_lt (hfr0 p hp')
        refine CallC.use (by exact c_text (x := e.1) (t := u3)) B' F12 X' N12 T' rfl ?_ ?_ ?_
        · show dp + 1 + 2 < recursionLimit; lia
        · show un + 3 + 8 * 2 < cLine; lia
        rintro r news' h13 tk13 F13 N13 hz6
        try ((fail_if_success (with_reducible show Gz)); with_reducible (first | (refine letW ?_; intro Gz) | (refine letWC ?_; intro Gz)))
        obtain ⟨⟨t13, rfl⟩, rfl⟩ := hz6
        try ((fail_if_success (with_reducible show wpAny _ _ _ Qz _ _)); with_reducible (first | (refine letQ ?_; intro Qz) | (refine letQC ?_; intro Qz)))
        try ((fail_if_success (with_reducible show wpAny _ _ _ _ _ Sz)); with_reducible (first | (refine letS ?_; intro Sz) | (refine letSC ?_; intro Sz)))
        refine kda_set (k := e.1.txt) F13 N13 (.tail (hfr (D, oD) (.tail _ (.head _))).symm (.tail J.hpD (.head J.offD))) J.dict (strKind_is _ _ _ _) (by rw [J.tab.len, sizeLine_eq]; lia) ?_
        intro h14 oD' F14 N14 hd14
        try dsimp only at N14
        refine execsC_cons (ForC ?_)
        iterate 1 walk1
        have hS' : (S ++ [e]).length = S.length + 1 := by simp
        try ((fail_if_success (with_reducible show Gz)); with_reducible (first | (refine letW ?_; intro Gz) | (refine letWC ?_; intro Gz)))
        obtain ⟨DI, hle⟩ := J.inv.settle hT.pos hs1 hs2 heH hmin hin
        have J0 : SJ prog w st c hp D news (fun f k => f = e ∧ k ∈ nms.drop 0) (S ++ [e]) H' rest oD' (stored kvs e.1.txt (.ref aV)) ((aV, tV) :: extra) := {
          inv := DI.weak fun f k h => ⟨h, by simpa using nms_all k⟩
          heap := P.ok
          items := fun q hq => IsItem.mono (fun p hp => .tail _ hp) (J.items q (P.sub q hq))
          psH := hr1
          Hps := hr2
          dict := hd14
          tab := (J.tab.mono fun a v h => EntV.mono (fun p hp => .tail _ hp) a v h).snoc hin (Mine.I4 aV u1 u2 0 ⟨rfl, by rw [htV]; exact .head _⟩)
          offHp := fun p hp' => by
            rcases List.mem_cons.mp hp' with rfl | hp'
            · exact (hfr _ (.head _)).symm
            · exact J.offHp p hp'
          offD := fun p hp' => by
            rcases List.mem_cons.mp hp' with rfl | hp'
            · exact (hfr _ (.tail _ (.head _))).symm
            · exact J.offD p hp'
          hpD := J.hpD
          low := J.low }
        have N15 := News.sub N14 (b := (hp, listOf (vals rest).toArray n9) :: (D, oD') :: (((aV, tV) :: extra) ++ news)) (fun p hp' => by
          rcases List.mem_cons.mp hp' with rfl | hp'
          · exact .tail _ (.head _)
          · rcases List.mem_cons.mp hp' with rfl | hp'
            · exact .tail _ (.tail _ (.head _))
            · rcases List.mem_cons.mp hp' with rfl | hp'
              · exact .head _
              · exact .tail _ (.tail _ (.tail _ hp')))
        generalize (aV, tV) :: extra = ex at J0 N15
        generalize stored kvs e.1.txt (.ref aV) = kvs' at J0
        refine iter_loopC (fun i m1 news1 => ∃ H ps nh extra, news1 = (hp, listOf (vals ps).toArray nh) :: (D, oD') :: (extra ++ news) ∧ Has m1 [("prices", .ref dP), ("heap", .ref hp), ("settled", .ref D), ("price", .int e.2.1 u1), ("way", .str (waS e.2.2) u2), ("word", .bytes e.1.arr u3)] ∧
            SJ prog w st c hp D news (fun f k => f = e ∧ k ∈ nms.drop i) (S ++ [e]) H ps oD' kvs' extra ∧ ps.length ≤ rest.length + i)
          (fun m1 news1 => ∃ H ps nh extra, news1 = (hp, listOf (vals ps).toArray nh) :: (D, oD') :: (extra ++ news) ∧ Has m1 [("prices", .ref dP), ("heap", .ref hp), ("settled", .ref D)] ∧
            SJ prog w st c hp D news (fun _ _ => False) (S ++ [e]) H ps oD' kvs' extra ∧ ps.length ≤ rest.length + 3)
          (srcT_str rfl (by decide +kernel) F14 N15) (fun _ h => nomatch h) (Mine.I4 H' rest n9 ex ⟨rfl, ⟨rfl, rfl, rfl, rfl, rfl, rfl, trivial⟩, J0, Nat.le_refl _⟩) ?_ ?_ ?_
        · rintro i v m2 news2 h16 tk16 I oI hi hv hltI hnI hz12 F16 N16
          try ((fail_if_success (with_reducible show Gz)); with_reducible (first | (refine letW ?_; intro Gz) | (refine letWC ?_; intro Gz)))
          refine Mine.E4 ?_ hz12
          clear hz12
          intro H2 ps2 nh2 extra2
          refine Mine.A4 ?_
          intro hR7
          subst hR7
          intro hm2 J2
          intro hsz2
          try ((fail_if_success (with_reducible show wpAny _ _ _ Qz _ _)); with_reducible (first | (refine letQ ?_; intro Qz) | (refine letQC ?_; intro Qz)))
          try ((fail_if_success (with_reducible show wpAny _ _ _ _ _ Sz)); with_reducible (first | (refine letS ?_; intro Sz) | (refine letSC ?_; intro Sz)))
          try ((fail_if_success (with_reducible show Gz)); with_reducible (first | (refine letW ?_; intro Gz) | (refine letWC ?_; intro Gz)))
          refine Mine.E2 ?_ (nms_at hv)
          intro n un'
          refine And.elim ?_
          intro hn
          intro hR8
          subst hR8
          refine frsG F16 hm2 ?_; clear F16; intro _ F16
          iterate 2 walk1
          rename_i h17 F17 N17
          have hIhp : I ≠ hp := (hnI _ (.head _)).symm
          have hID : I ≠ D := (hnI _ (.tail _ (.head _))).symm
          refine execsC_cons (AssignC (CallC_eval ?_))
          iterate 1 walk1
          refine callWithC X' (by rfl) ?_
          (repeat ((fail_if_success (with_reducible show wpC _ _ _ _ _ _)); walk1))
          refine CallD.use (by exact c_turned (x := e.1) (n := n) (t := u3) (u := un')) B' F17 X' N17 T' rfl ?_ ?_ ?_
          · show dp + 1 + 2 < recursionLimit; lia
          · show un + 3 + 8 * 2 < cLine; lia
          rintro r news' h18 tk18 F18 N18 hz6
          try ((fail_if_success (with_reducible show Gz)); with_reducible (first | (refine letW ?_; intro Gz) | (refine letWC ?_; intro Gz)))
          obtain ⟨⟨t18, rfl⟩, rfl⟩ := hz6
          try ((fail_if_success (with_reducible show wpAny _ _ _ Qz _ _)); with_reducible (first | (refine letQ ?_; intro Qz) | (refine letQC ?_; intro Qz)))
          try ((fail_if_success (with_reducible show wpAny _ _ _ _ _ Sz)); with_reducible (first | (refine letS ?_; intro Sz) | (refine letSC ?_; intro Sz)))
          refine wpC_of ?_
          iterate 1 walk1
          try dsimp only
          refine wpC_of ?_
          (repeat ((fail_if_success (with_reducible show wpAny _ _ (PySem.call (Value.ref _) _) _ _ _)); (fail_if_success (with_reducible show wpC _ _ _ _ _ _)); walk1))
          rename_i h19 F19 N19
          refine CallC.use (by exact c_text (x := turn n e.1) (t := t18)) B' F19 X' N19 T' rfl ?_ ?_ ?_
          · show dp + 1 + 2 < recursionLimit; lia
          · show un + 3 + 8 * 2 < cLine; lia
          rintro r news' h20 tk20 F20 N20 hz6
          try ((fail_if_success (with_reducible show Gz)); with_reducible (first | (refine letW ?_; intro Gz) | (refine letWC ?_; intro Gz)))
          obtain ⟨⟨t20, rfl⟩, rfl⟩ := hz6
          try ((fail_if_success (with_reducible show wpAny _ _ _ Qz _ _)); with_reducible (first | (refine letQ ?_; intro Qz) | (refine letQC ?_; intro Qz)))
          try ((fail_if_success (with_reducible show wpAny _ _ _ _ _ Sz)); with_reducible (first | (refine letS ?_; intro Sz) | (refine letSC ?_; intro Sz)))
          iterate 1 walk1
          refine kdg_notin N20 (.tail _ (.tail _ (.head _))) J2.dict J2.low (strKind_is _ _ _ _) (decide (inK (S ++ [e]) (turn n e.1))) (J2.kvs_has _) ?_
          iterate 1 walk1
          have heS : e ∈ S ++ [e] := by simp
          by_cases hin2 : inK (S ++ [e]) (turn n e.1)
          · rw [decide_eq_true hin2, Bool.not_true, if_neg (by simp)]
            refine wpAny_execs_nil ?_
            try dsimp only
            refine wpAny_execs_nil ?_
            refine Mine.I4 _ _ _ _ ⟨rfl, F20, N20, ?_, Mine.I4 H2 ps2 nh2 extra2 ⟨rfl, ⟨rfl, rfl, rfl, rfl, rfl, rfl, trivial⟩, ?_, by lia⟩⟩
            · exact hnI
            · exact { J2 with inv := (J2.inv.over hT.pos heS hle hin2).weak fun f k h => ⟨h.1.1, nms_drop hn h.1.2 fun h' => h.2 ⟨h.1.1, h'⟩⟩ }
          · rw [decide_eq_false hin2, Bool.not_false, if_pos rfl]
            have hcs : e.2.2.length ≤ 24 := by have := J.inv.lenH e heH; lia
            have hwz : (waS e.2.2).length < 2 ^ 20 := by rw [waS_len]; split <;> lia
            have hwp : (waS e.2.2).length ≠ 0 := by
              rw [waS_len]; split
              · simp
              · rename_i h; have : e.2.2.length ≠ 0 := fun e' => h (List.length_eq_zero_iff.mp e'); lia
            (repeat ((fail_if_success (with_reducible show wpAny _ _ (PySem.call (Value.ref _) _) _ _ _)); (fail_if_success (with_reducible show wpC _ _ _ _ _ _)); walk1))
            rename_i tk21
            try ((fail_if_success (with_reducible show Gz)); with_reducible (first | (refine letW ?_; intro Gz) | (refine letWC ?_; intro Gz)))
            refine Exists.elim hT.dict ?_
            intro pk
            refine And.elim ?_
            intro hpk
            intro hpv
            try ((fail_if_success (with_reducible show Gz)); with_reducible (first | (refine letW ?_; intro Gz) | (refine letWC ?_; intro Gz)))
            obtain ⟨tp, hpv⟩ := hpv n
            refine kda_item N20 (.tail _ (.tail _ (.tail _ (List.mem_append_right _ hP)))) hpk (strKind_is _ _ _ _) hpv ?_
            (repeat ((fail_if_success (with_reducible show wpAny _ _ (PySem.call (Value.ref _) _) _ _ _)); (fail_if_success (with_reducible show wpC _ _ _ _ _ _)); walk1))
            refine CallC.use (by exact c_join (x := waS e.2.2) (y := n.txt) (nm_start n) hwp hwz (by cases n <;> decide)) B' F20 X' N20 T' rfl ?_ ?_ ?_
            · show dp + 1 + 2 < recursionLimit; lia
            · show un + 3 + 8 * 2 < cLine; lia
            rintro r news' h22 tk22 F22 N22 hz6
            try ((fail_if_success (with_reducible show Gz)); with_reducible (first | (refine letW ?_; intro Gz) | (refine letWC ?_; intro Gz)))
            obtain ⟨⟨t22, rfl⟩, rfl⟩ := hz6
            try ((fail_if_success (with_reducible show wpAny _ _ _ _ _ Sz)); with_reducible (first | (refine letS ?_; intro Sz) | (refine letSC ?_; intro Sz)))
            rw [waS_join]
            have hfr2 : ∀ p ∈ (I, oI) :: (hp, listOf (vals ps2).toArray nh2) :: (D, oD') :: (extra2 ++ news), p.1 < h22.objs.size := fun p hp' => Heap.lt_size (N22 p hp').1
            (repeat ((fail_if_success (with_reducible show wpAny _ _ (PySem.call (Value.ref _) _) _ _ _)); (fail_if_success (with_reducible show wpC _ _ _ _ _ _)); walk1))
            rename_i h23 F23 N23 _ _ _
            obtain ⟨aN, hAN⟩ : ∃ x, x = h22.objs.size := ⟨_, rfl⟩
            try dsimp only at N23
            rw [← hAN] at N23 ⊢
            try ((fail_if_success (with_reducible show Gz)); with_reducible (first | (refine letW ?_; intro Gz) | (refine letWC ?_; intro Gz)))
            refine Exists.elim (News.named N23) ?_
            intro tN
            refine And.elim ?_
            intro htN
            intro N23
            have hfr3 : ∀ p ∈ (I, oI) :: (hp, listOf (vals ps2).toArray nh2) :: (D, oD') :: (extra2 ++ news), p.1 ≠ aN := fun p hp' => by
              rw [hAN]; exact Nat.ne_of_lt (hfr2 p hp')
            have N24 := News.sub N23 (b := (hp, listOf (vals ps2).toArray nh2) :: ((aN, tN) :: (I, oI) :: (D, oD') :: (extra2 ++ news))) (fun p hp' => by
              rcases List.mem_cons.mp hp' with rfl | hp'
              · exact .tail _ (.tail _ (.head _))
              · rcases List.mem_cons.mp hp' with rfl | hp'
                · exact .head _
                · rcases List.mem_cons.mp hp' with rfl | hp'
                  · exact .tail _ (.head _)
                  · exact .tail _ (.tail _ (.tail _ hp')))
            have hsub : ∀ p ∈ extra2 ++ news, p ∈ (aN, tN) :: (I, oI) :: (D, oD') :: (extra2 ++ news) := fun p hp' => .tail _ (.tail _ (.tail _ hp'))
            refine CallC.use (by exact c_heappush (new := (.ref aN, itm (turn n e.1, e.2.1 + c n, e.2.2 ++ [n]))) (ps := ps2) (by
              intro p hp'
              rcases List.mem_cons.mp hp' with rfl | hp'
              · exact (hfr3 _ (.tail _ (.head _))).symm
              · rcases List.mem_cons.mp hp' with rfl | hp'
                · exact hIhp
                · rcases List.mem_cons.mp hp' with rfl | hp'
                  · exact J2.hpD.symm
                  · exact J2.offHp p hp') (fun q hq => IsItem.mono hsub (J2.items q hq)) (by have := P.len; have : i < 3 := hi; lia) (Mine.I5 aN _ _ _ 0 ⟨rfl, by rw [htN]; exact .head _⟩)) B' F23 X' N24 T' rfl ?_ ?_ ?_
            · show dp + 1 + 2 < recursionLimit; lia
            · show un + 3 + 8 * 2 < cLine; lia
            rintro r news' h25 tk25 F25 N25 hz6
            try ((fail_if_success (with_reducible show Gz)); with_reducible (first | (refine letW ?_; intro Gz) | (refine letWC ?_; intro Gz)))
            refine And.elim ?_ hz6
            clear hz6
            intro hR9
            subst hR9
            refine fun hq => Exists.elim hq ?_; clear hq
            intro n25
            intro hR10
            subst hR10
            try ((fail_if_success (with_reducible show wpAny _ _ _ Qz _ _)); with_reducible (first | (refine letQ ?_; intro Qz) | (refine letQC ?_; intro Qz)))
            try ((fail_if_success (with_reducible show wpAny _ _ _ _ _ Sz)); with_reducible (first | (refine letS ?_; intro Sz) | (refine letSC ?_; intro Sz)))
            refine wpAny_execs_nil ?_
            try dsimp only
            refine wpAny_execs_nil ?_
            have hI' : ∀ p ∈ (hp, listOf (vals (sdGo viLt (.ref aN, itm (turn n e.1, e.2.1 + c n, e.2.2 ++ [n])) ps2.length (ps2 ++ [(.ref aN, itm (turn n e.1, e.2.1 + c n, e.2.2 ++ [n]))]) ps2.length)).toArray n25) :: (D, oD') :: (((aN, tN) :: extra2) ++ news), p.1 ≠ I := fun p hp' => by
              rcases List.mem_cons.mp hp' with rfl | hp'
              · exact hIhp.symm
              · rcases List.mem_cons.mp hp' with rfl | hp'
                · exact hID.symm
                · rcases List.mem_cons.mp hp' with rfl | hp'
                  · exact (hfr3 _ (.head _)).symm
                  · exact hnI p (.tail _ (.tail _ hp'))
            have N26 := News.sub N25 (b := (I, oI) :: (hp, listOf (vals (sdGo viLt (.ref aN, itm (turn n e.1, e.2.1 + c n, e.2.2 ++ [n])) ps2.length (ps2 ++ [(.ref aN, itm (turn n e.1, e.2.1 + c n, e.2.2 ++ [n]))]) ps2.length)).toArray n25) :: (D, oD') :: (((aN, tN) :: extra2) ++ news)) (fun p hp' => by
              rcases List.mem_cons.mp hp' with rfl | hp'
              · exact .tail _ (.tail _ (.head _))
              · rcases List.mem_cons.mp hp' with rfl | hp'
                · exact .head _
                · rcases List.mem_cons.mp hp' with rfl | hp'
                  · exact .tail _ (.tail _ (.tail _ (.head _)))
                  · rcases List.mem_cons.mp hp' with rfl | hp'
                    · exact .tail _ (.head _)
                    · exact .tail _ (.tail _ (.tail _ (.tail _ hp'))))
            refine Mine.I4 _ _ _ _ ⟨rfl, F25, N26, hI', Mine.I4 _ _ n25 _ ⟨rfl, ⟨rfl, rfl, rfl, rfl, rfl, rfl, trivial⟩, (J2.more (x := (aN, tN)) (hfr3 _ (.tail _ (.head _))).symm (hfr3 _ (.tail _ (.tail _ (.head _)))).symm).push (Mine.I5 aN _ _ _ 0 ⟨rfl, by rw [htN]; exact .head _⟩) rfl
                ((J2.inv.push hT.pos heS hle hin2).weak fun f k h => ⟨h.1.1, nms_drop hn h.1.2 fun h' => h.2 ⟨h.1.1, h'⟩⟩), by rw [push_len]; lia⟩⟩
        · rintro m2 news2 hz2
          try ((fail_if_success (with_reducible show Gz)); with_reducible (first | (refine letW ?_; intro Gz) | (refine letWC ?_; intro Gz)))
          refine Mine.E4 ?_ hz2
          clear hz2
          intro H2 ps2 nh2 extra2
          refine Mine.A4 ?_
          intro hR11
          subst hR11
          intro hm2 J2
          intro hsz2
          try ((fail_if_success (with_reducible show wpAny _ _ _ Qz _ _)); with_reducible (first | (refine letQ ?_; intro Qz) | (refine letQC ?_; intro Qz)))
          try ((fail_if_success (with_reducible show wpAny _ _ _ _ _ Sz)); with_reducible (first | (refine letS ?_; intro Sz) | (refine letSC ?_; intro Sz)))
          refine Mine.I4 H2 ps2 nh2 extra2 ⟨rfl, ⟨hm2.1, hm2.2.1, hm2.2.2.1, trivial⟩, { J2 with inv := J2.inv.weak fun f k h => ?_ }, hsz2⟩
          have h2 : k ∈ nms.drop 3 := h.2
          simp [nms] at h2
        · rintro m2 news2 h16 tk16 F16 N16 hz6
          try ((fail_if_success (with_reducible show Gz)); with_reducible (first | (refine letW ?_; intro Gz) | (refine letWC ?_; intro Gz)))
          refine Mine.E4 ?_ hz6
          clear hz6
          intro H2 ps2 nh2 extra2
          refine Mine.A4 ?_
          intro hR12
          subst hR12
          intro hm2 J2
          intro hsz2
          try ((fail_if_success (with_reducible show wpAny _ _ _ Qz _ _)); with_reducible (first | (refine letQ ?_; intro Qz) | (refine letQC ?_; intro Qz)))
          try ((fail_if_success (with_reducible show wpAny _ _ _ _ _ Sz)); with_reducible (first | (refine letS ?_; intro Sz) | (refine letSC ?_; intro Sz)))
          refine frsG F16 hm2 ?_; clear F16; intro _ F16
          have hsz3 := J2.inv.size
          rw [hS'] at hsz3
          have hPl := P.len
          try dsimp only
          refine wpC_of (wpAny_execs_nil ?_)
          try dsimp only
          refine wpC_of (wpAny_execs_nil ?_)
          refine Mine.I5 _ _ _ _ (4 * (24 - (S ++ [e]).length) + ps2.length) ⟨rfl, F16, N16, by rw [hS']; lia, Mine.I6 (S ++ [e]) H2 ps2 nh2 oD' kvs' ⟨extra2, ⟨rfl, ⟨rfl, rfl, rfl, trivial⟩, J2, by rw [hS']; lia, rfl⟩⟩⟩
  · rintro m1 news1 h7 tk7 F7 N7 hz6
    try ((fail_if_success (with_reducible show Gz)); with_reducible (first | (refine letW ?_; intro Gz) | (refine letWC ?_; intro Gz)))
    refine Mine.E5 ?_ hz6
    clear hz6
    intro S nh oD kvs extra
    refine Mine.A3 ?_
    intro hR13
    subst hR13
    intro hm
    intro J
    try ((fail_if_success (with_reducible show wpAny _ _ _ Qz _ _)); with_reducible (first | (refine letQ ?_; intro Qz) | (refine letQC ?_; intro Qz)))
    try ((fail_if_success (with_reducible show wpAny _ _ _ _ _ Sz)); with_reducible (first | (refine letS ?_; intro Sz) | (refine letSC ?_; intro Sz)))
    refine frsG F7 hm ?_; clear F7; intro _ F7
    try dsimp only
    refine execsC_cons (wpC_of ?_)
    iterate 2 walk1
    have hst : (st, 0, []) ∈ S := by
      rcases J.inv.start with ⟨_, h, _⟩ | h
      · nomatch h
      · exact h
    exact leaveK_ F7 (news' := (D, oD) :: (extra ++ news)) (fun p hp => N7 p (.tail _ hp)) (fun F N => hret _ _ _ _ F N (Mine.I5 D oD kvs S extra ⟨rfl, rfl, J.low, J.offD, J.dict, J.tab, J.inv, hst⟩))
end Mine
end
/-! part P6 -/
section
open PySem PySem.W PyProof.Rows HeadC
namespace Mine
/-! ### prices put right until none can be lowered -/
inductive Path (st : W4) (c : Nm → Int) : W4 → Int → Prop
  | start : Path st c st 0
  | step {w : W4} {p : Int} (n : Nm) : Path st c w p → Path st c (turn n w) (p + c n)
variable {st : W4} {c : Nm → Int} {L : List (W4 × Int)} {Q : List W4} {R : W4 → Nm → Prop}
theorem Path.univ {w : W4} {p : Int} (h : Path st c w p) : w ∈ univ st := by
  induction h with
  | start => exact univ_start _
  | step n _ ih => exact univ_turn n ih
theorem Path.pos (hc : ∀ n, 1 ≤ c n) {w : W4} {p : Int} (h : Path st c w p) : 0 ≤ p := by
  induction h with
  | start => exact Int.le_refl _
  | step n _ ih => have := hc n; lia
theorem mem_put {α : Type} {L : List (W4 × α)} {w x : W4} {a b : α} : (x, b) ∈ putA L w a ↔ (x = w ∧ b = a) ∨ (x ≠ w ∧ (x, b) ∈ L) := by
  unfold putA
  split
  · rename_i h
    refine Exists.elim (List.any_eq_true.mp h) ?_
    intro e
    refine And.elim ?_
    intro he
    intro h
    have h : e.1 = w := by simpa using h
    constructor
    · intro hx
      refine Exists.elim (List.mem_map.mp hx) ?_
      intro f
      refine And.elim ?_
      intro hf
      intro e1
      by_cases h2 : f.1 = w
      · rw [if_pos h2] at e1; cases e1; exact .inl ⟨h2, rfl⟩
      · rw [if_neg h2] at e1; subst e1; exact .inr ⟨h2, hf⟩
    · rintro (⟨rfl, rfl⟩ | ⟨h1, h2⟩)
      · exact List.mem_map.mpr ⟨e, he, by rw [if_pos h, h]⟩
      · exact List.mem_map.mpr ⟨_, h2, by rw [if_neg h1]⟩
  · rename_i h
    rw [List.mem_append, List.mem_singleton]
    have hn : ∀ e ∈ L, e.1 ≠ w := fun e he h1 => h (List.any_eq_true.mpr ⟨e, he, by simp [h1]⟩)
    constructor
    · rintro (h1 | h1)
      · exact .inr ⟨hn _ h1, h1⟩
      · cases h1; exact .inl ⟨rfl, rfl⟩
    · rintro (⟨rfl, rfl⟩ | ⟨_, h2⟩)
      · exact .inr rfl
      · exact .inl h2
theorem keys_put {α : Type} {L : List (W4 × α)} {w : W4} {a : α} (hn : (L.map (·.1)).Nodup) : ((putA L w a).map (·.1)).Nodup := by
  unfold putA
  split
  · have : (L.map fun e => if e.1 = w then (e.1, a) else e).map (·.1) = L.map (·.1) := by
      rw [List.map_map]; apply List.map_congr_left; intro e _; dsimp only [Function.comp]; split <;> rfl
    rw [this]; exact hn
  · rename_i h
    rw [List.map_append, List.nodup_append]
    refine ⟨hn, by simp, fun x hx y hy => ?_⟩
    refine Exists.elim (List.mem_map.mp hx) ?_
    intro e
    refine And.elim ?_
    intro he
    intro hR1
    subst hR1
    simp only [List.map_cons, List.map_nil, List.mem_singleton] at hy
    subst hy
    exact fun h1 => h (List.any_eq_true.mpr ⟨e, he, by simp [h1]⟩)
noncomputable def sumP (L : List (W4 × Int)) : Int := (L.map (·.2)).sum
theorem sumP_low {L : List (W4 × Int)} {w : W4} {p : Int} (h : ∀ e ∈ L, e.1 = w → p ≤ e.2) : sumP (L.map fun e => if e.1 = w then (e.1, p) else e) ≤ sumP L := by
  induction L with
  | nil => exact Int.le_refl _
  | cons e L ih =>
    have := ih fun f hf => h f (.tail _ hf)
    unfold sumP at this ⊢
    simp only [List.map_cons, List.sum_cons]
    by_cases h1 : e.1 = w
    · rw [if_pos h1]; have := h e (.head _) h1; dsimp only; lia
    · rw [if_neg h1]; lia
theorem sumP_lt {L : List (W4 × Int)} {w : W4} {p : Int} (h : ∀ e ∈ L, e.1 = w → p ≤ e.2) (hx : ∃ e ∈ L, e.1 = w ∧ p < e.2) : sumP (L.map fun e => if e.1 = w then (e.1, p) else e) < sumP L := by
  induction L with
  | nil => obtain ⟨e, he, _⟩ := hx; nomatch he
  | cons e L ih =>
    have lo := sumP_low (w := w) (p := p) fun f hf => h f (.tail _ hf)
    refine Exists.elim hx ?_
    clear hx
    intro f
    refine Mine.A3 ?_
    intro hf h1
    intro h2
    rcases List.mem_cons.mp hf with rfl | hf
    · unfold sumP at lo ⊢
      simp only [List.map_cons, List.sum_cons]
      rw [if_pos h1]; dsimp only; lia
    · have := ih (fun f hf => h f (.tail _ hf)) ⟨f, hf, h1, h2⟩
      unfold sumP at this ⊢
      simp only [List.map_cons, List.sum_cons]
      by_cases h3 : e.1 = w
      · rw [if_pos h3]; have := h e (.head _) h3; dsimp only; lia
      · rw [if_neg h3]; lia
noncomputable def phi (L : List (W4 × Int)) : Int := sumP L + 208 * (24 - (L.length : Int))
structure LInv (st : W4) (c : Nm → Int) (L : List (W4 × Int)) (Q : List W4) (R : W4 → Nm → Prop) : Prop where
  nodup : (L.map (·.1)).Nodup
  path : ∀ e ∈ L, Path st c e.1 e.2
  cov : ∀ e ∈ L, ∀ n, e.1 ∈ Q ∨ R e.1 n ∨ ∃ q, (turn n e.1, q) ∈ L ∧ q ≤ e.2 + c n
  start : (st, 0) ∈ L
  pend : ∀ w ∈ Q, ∃ p, (w, p) ∈ L
  bnd : ∀ e ∈ L, e.2 + 9 ≤ 9 * (L.length : Int)
theorem LInv.size (I : LInv st c L Q R) : L.length ≤ 24 := by
  have : (L.map (·.1)).length ≤ (univ st).length := List.Nodup.length_le_of_subset I.nodup fun w hw => by
    refine Exists.elim (List.mem_map.mp hw) ?_
    intro e
    refine And.elim ?_
    intro he
    intro hR2
    subst hR2
    exact (I.path e he).univ
  rwa [univ_len, List.length_map] at this
theorem LInv.uniq (I : LInv st c L Q R) {w : W4} {p q : Int} (h1 : (w, p) ∈ L) (h2 : (w, q) ∈ L) : p = q := by
  have := I.nodup
  clear I
  induction L with
  | nil => nomatch h1
  | cons e L ih =>
    rw [List.map_cons, List.nodup_cons] at this
    rcases List.mem_cons.mp h1 with e1 | h1 <;> rcases List.mem_cons.mp h2 with e2 | h2
    · rw [← e1] at e2; cases e2; rfl
    · exact absurd (List.mem_map.mpr ⟨_, h2, by rw [← e1]⟩) this.1
    · exact absurd (List.mem_map.mpr ⟨_, h1, by rw [← e2]⟩) this.1
    · exact ih h1 h2 this.2
theorem LInv.init : LInv st c [(st, 0)] [st] (fun _ _ => False) where
  nodup := by simp
  path := fun e he => by rw [List.mem_singleton.mp he]; exact .start
  cov := fun e he n => by rw [List.mem_singleton.mp he]; exact .inl (.head _)
  start := .head _
  pend := fun w hw => by rw [List.mem_singleton.mp hw]; exact ⟨0, .head _⟩
  bnd := fun e he => by rw [List.mem_singleton.mp he]; show (0 : Int) + 9 ≤ 9 * ((1 : Nat) : Int); decide
theorem LInv.pop {u : W4} (I : LInv st c L (u :: Q) (fun _ _ => False)) : LInv st c L Q (fun w _ => w = u) := { I with
  cov := fun e he n => by
    rcases I.cov e he n with h | h | h
    · rcases List.mem_cons.mp h with h | h
      · exact .inr (.inl h)
      · exact .inl h
    · exact h.elim
    · exact .inr (.inr h)
  pend := fun w hw => I.pend w (.tail _ hw) }
theorem LInv.weak {R' : W4 → Nm → Prop} (I : LInv st c L Q R) (h : ∀ w n, R w n → R' w n) : LInv st c L Q R' := { I with
  cov := fun e he n => (I.cov e he n).imp id fun x => x.imp (h _ _) id }
theorem LInv.over {u : W4} {p q : Int} {n : Nm} (I : LInv st c L Q R) (hu : (u, p) ∈ L) (ho : (turn n u, q) ∈ L) (hle : q ≤ p + c n) : LInv st c L Q (fun w k => R w k ∧ ¬ (w = u ∧ k = n)) := { I with
  cov := fun e he k => by
    by_cases h0 : e.1 = u ∧ k = n
    · obtain ⟨h1, rfl⟩ := h0
      obtain ⟨w, r⟩ := e
      dsimp only at h1
      subst h1
      rw [I.uniq hu he] at hle
      exact .inr (.inr ⟨q, ho, hle⟩)
    · rcases I.cov e he k with h | h | h
      · exact .inl h
      · exact .inr (.inl ⟨h, h0⟩)
      · exact .inr (.inr h) }
theorem LInv.put (hc : ∀ n, 1 ≤ c n) (hc9 : ∀ n, c n ≤ 9) {u : W4} {p : Int} {n : Nm} (I : LInv st c L Q R) (hu : (u, p) ∈ L) (ho : ∀ q, (turn n u, q) ∈ L → p + c n < q) :
    LInv st c (putA L (turn n u) (p + c n)) (Q ++ [turn n u]) (fun w k => R w k ∧ ¬ (w = u ∧ k = n)) ∧ (u, p) ∈ putA L (turn n u) (p + c n) ∧ phi (putA L (turn n u) (p + c n)) + 1 ≤ phi L := by
  have hcn := hc n
  have hcn9 := hc9 n
  have hne : u ≠ turn n u := fun h => by
    have := ho p (by rw [← h]; exact hu)
    lia
  have pu := I.path _ hu
  have up := pu.pos hc
  dsimp only at up
  have hun : (u, p) ∈ putA L (turn n u) (p + c n) := mem_put.mpr (.inr ⟨hne, hu⟩)
  have hlen : L.length ≤ (putA L (turn n u) (p + c n)).length := by
    unfold putA; split <;> simp
  have hI : LInv st c (putA L (turn n u) (p + c n)) (Q ++ [turn n u]) (fun w k => R w k ∧ ¬ (w = u ∧ k = n)) := by
    refine ⟨keys_put I.nodup, ?_, ?_, ?_, ?_, ?_⟩
    · rintro ⟨w, q⟩ he
      rcases mem_put.mp he with ⟨rfl, rfl⟩ | ⟨_, h⟩
      · exact .step n pu
      · exact I.path _ h
    · rintro ⟨w, q⟩ he k
      dsimp only
      rcases mem_put.mp he with ⟨rfl, rfl⟩ | ⟨h1, h⟩
      · exact .inl (by simp)
      · by_cases h0 : w = u ∧ k = n
        · obtain ⟨rfl, rfl⟩ := h0
          refine .inr (.inr ⟨p + c k, mem_put.mpr (.inl ⟨rfl, rfl⟩), ?_⟩)
          have := I.uniq hu h
          lia
        · rcases I.cov _ h k with h2 | h2 | ⟨r, h2, h3⟩
          · exact .inl (List.mem_append_left _ h2)
          · exact .inr (.inl ⟨h2, h0⟩)
          · dsimp only at h2 h3
            by_cases h4 : turn k w = turn n u
            · refine .inr (.inr ⟨p + c n, mem_put.mpr (.inl ⟨h4, rfl⟩), ?_⟩)
              rw [h4] at h2
              have := ho r h2
              lia
            · exact .inr (.inr ⟨r, mem_put.mpr (.inr ⟨h4, h2⟩), h3⟩)
    · refine mem_put.mpr (.inr ⟨fun h => ?_, I.start⟩)
      have := ho 0 (by rw [← h]; exact I.start)
      lia
    · intro w hw
      rcases List.mem_append.mp hw with hw | hw
      · by_cases h : w = turn n u
        · exact ⟨_, mem_put.mpr (.inl ⟨h, rfl⟩)⟩
        · obtain ⟨q, hq⟩ := I.pend w hw
          exact ⟨q, mem_put.mpr (.inr ⟨h, hq⟩)⟩
      · exact ⟨_, mem_put.mpr (.inl ⟨List.mem_singleton.mp hw, rfl⟩)⟩
    · rintro ⟨w, q⟩ he
      dsimp only
      have hb := I.bnd _ hu
      dsimp only at hb
      rcases mem_put.mp he with ⟨rfl, rfl⟩ | ⟨_, h⟩
      · by_cases hx : ∃ r, (turn n u, r) ∈ L
        · obtain ⟨r, hr⟩ := hx
          have h1 := ho r hr
          have h2 := I.bnd _ hr
          dsimp only at h2
          lia
        · have : (putA L (turn n u) (p + c n)).length = L.length + 1 := by
            unfold putA
            rw [if_neg]
            · simp
            · intro h
              refine Exists.elim (List.any_eq_true.mp h) ?_
              intro e
              refine And.elim ?_
              intro he
              intro h
              have h : e.1 = turn n u := by simpa using h
              exact hx ⟨e.2, by rw [← h]; exact he⟩
          lia
      · have := I.bnd _ h
        dsimp only at this
        lia
  refine ⟨hI, hun, ?_⟩
  have hsz := hI.size
  have hb := I.bnd _ hu
  dsimp only at hb
  unfold putA at hsz ⊢
  unfold phi
  split
  · rename_i h
    refine Exists.elim (List.any_eq_true.mp h) ?_
    intro e
    refine And.elim ?_
    intro he
    intro h
    have h : e.1 = turn n u := by simpa using h
    have he' : (turn n u, e.2) ∈ L := by rw [← h]; exact he
    have := sumP_lt (L := L) (w := turn n u) (p := p + c n) (fun f hf h1 => by
      have := ho f.2 (by rw [← h1]; exact hf)
      lia) ⟨e, he, h, ho _ he'⟩
    rw [List.length_map]
    lia
  · rename_i h
    rw [if_neg h] at hsz
    unfold sumP
    rw [List.map_append, List.sum_append, List.length_append] at *
    simp only [List.map_cons, List.map_nil, List.sum_cons, List.sum_nil, List.length_cons, List.length_nil] at *
    lia
theorem LInv.least (I : LInv st c L [] (fun _ _ => False)) {w : W4} {p : Int} (h : Path st c w p) : ∃ q, (w, q) ∈ L ∧ q ≤ p := by
  induction h with
  | start => exact ⟨0, I.start, Int.le_refl _⟩
  | step n _ ih =>
    refine Exists.elim ih ?_
    clear ih
    intro q
    refine And.elim ?_
    intro hq
    intro hle
    rcases I.cov _ hq n with h | h | ⟨r, hr, h⟩
    · nomatch h
    · exact h.elim
    · exact ⟨r, hr, by dsimp only at h; lia⟩
theorem phi_nonneg (hc : ∀ n, 1 ≤ c n) (I : LInv st c L Q R) : 0 ≤ phi L := by
  have h1 := I.size
  have h2 : 0 ≤ sumP L := by
    have : ∀ e ∈ L, 0 ≤ e.2 := fun e he => (I.path e he).pos hc
    clear I h1
    induction L with
    | nil => exact Int.le_refl _
    | cons e L ih =>
      have a := this e (.head _)
      have b := ih fun f hf => this f (.tail _ hf)
      unfold sumP at b ⊢
      simp only [List.map_cons, List.sum_cons]
      lia
  unfold phi
  lia
end Mine
end
/-! part K4 -/
section
example : True := by w_top off; trivial
open PySem PySem.W PyProof.Rows HeadC
set_option maxRecDepth 100000
namespace Mine
theorem k_fill_nowK4 {w : World} : ∃ _ : Challenge.rw_pd0166_01 = Challenge.rw_pd0166_01, hd.heap_1 w.params = hd.heap_1 w.params := by
  k_fill
  exact ⟨rfl, rfl⟩
noncomputable def IntV (p : Int) (v : Value) : Prop := ∃ t, v = .int p t
theorem ne_nil {prog : Program} {w : World} {A : Around} {E : Value → Shared → Prop} {s : Shared} {h₀ : Heap} {L l b : Addr} {news : List (Addr × Obj)} {vs : List Value} {n n2 : Nat} {Q : Value → Shared → Prop} (hu : A.units < cLine) (N : News h₀ L s.heap news)
    (hl : (l, listOf vs.toArray n) ∈ news) (hb : (b, listOf #[] n2) ∈ news) (h : Q (.bool (!vs.isEmpty)) s) : wpAny (model prog w) A (compareOp .NotEq (.ref l) (.ref b)) Q E s := by
  have hl' := (N _ hl).1
  have hb' := (N _ hb).1
  refine cmp_ofNotEq ?_
  cases vs with
  | nil =>
    refine richCompare_meets_room ⟨_, hl', rfl⟩ ⟨_, hb', rfl⟩ F.slot_list_ne F.entry_list_ne (F.args_list_ne_2 _ _) (SeqAt.list_neAt l b #[] #[] n n2 none none #[] #[] rfl (fun _ => true)) ⟨hl', hb', (fun j h1 => by simp at h1), (fun e => nomatch e), ?_⟩ hu
    simpa using h
  | cons v vs =>
    refine richCompare_meets_room ⟨_, hl', rfl⟩ ⟨_, hb', rfl⟩ F.slot_list_ne F.entry_list_ne (F.args_list_ne_2 _ _) (SeqAt.list_ne_lengthsAt l b (v :: vs).toArray #[] n n2 none none #[] #[] (by simp)) ⟨hl', hb', (fun e => nomatch e), ?_⟩ hu
    simpa using h
set_option maxHeartbeats 8000000 in
theorem c_least {prog : Program} {w : World} {mean : ExcName → Option Value} {mg mb : Str → Option Value} {news : List (Addr × Obj)} {st : W4} {c : Nm → Int} {dP : Addr} {oP : Obj} {t : Tok} (hP : (dP, oP) ∈ news) (hT : PriceTab prog w c dP oP) :
    CallC prog w mean mg mb 3 202 [.str st.txt t, .ref dP] news (fun r news' => ∃ D oD kvs L, r = .ref D ∧ news' = (D, oD) :: news ∧ (D == sysModules) = false ∧ (∀ p ∈ news, p.1 ≠ D) ∧ oD.IsDictOf (PySem.strKind prog w) kvs ∧ TabR IntV L kvs ∧
      LInv st c L [] (fun _ _ => False)) := by
  intro dp un gd cn cs a ccd cl outer A₀ base h₀ L m s Q E B F X N T hk hdp hun hret
  refine wpAny_call ?_
  k_dflt ktr_enter
  rename_i g' L' h' FG F' N' B' X' T'
  (first | refine letEnv ?_ | refine letEnvC ?_); intro Az envz Qz Ez
  iterate 3 walk1
  refine kdn_eval (knd := PySem.strKind prog w) F' N' (Top.nolimit T') (by rfl) (by rfl) (List.cons_ne_nil _ _) (by decide) ?_
  intro D h1 o1 F1 N1 l1 lo hd1
  iterate 4 walk1
  refine kdn_made_str F1 N1 (.head fun p hp => Nat.ne_of_lt (l1 p hp)) hd1 rfl (by show List.Nodup [st.txt]; simp) ?_
  intro h2 o2 F2 N2 hd2
  (repeat ((fail_if_success (with_reducible show wpAny _ _ (PySem.exec (Stmt.While _ _ _ _) _) _ _ _)); walk1))
  rename_i row h3 l3 h4 F4 N4
  refine While_inv3 (fun k m1 news1 => ∃ (L : List (W4 × Int)) (Q : List W4) (rs : List Value) (nr : Nat) (oD : Obj) (kvs : List (Str × Value)), news1 = (row, listOf rs.toArray nr) :: (D, oD) :: news ∧ Has m1 [("prices", .ref dP), ("least", .ref D), ("row", .ref row)] ∧
      StrsAre rs (Q.map W4.txt) ∧ oD.IsDictOf (PySem.strKind prog w) kvs ∧ TabR IntV L kvs ∧ LInv st c L Q (fun _ _ => False) ∧ (k : Int) = 2 * phi L + Q.length ∧ k ≤ 9569)
    (fun m1 news1 => ∃ (L : List (W4 × Int)) (rs : List Value) (nr : Nat) (oD : Obj) (kvs : List (Str × Value)), news1 = (row, listOf rs.toArray nr) :: (D, oD) :: news ∧ Has m1 [("least", .ref D)] ∧ oD.IsDictOf (PySem.strKind prog w) kvs ∧ TabR IntV L kvs ∧ LInv st c L [] (fun _ _ => False))
    F4 N4 (n₀ := 9569) (Mine.I6 [(st, 0)] [st] _ _ _ _ ⟨rfl, ⟨rfl, rfl, rfl, trivial⟩, .cons _ _ .nil, hd2, .cons ⟨_, rfl⟩ .nil, LInv.init, rfl, Nat.le_refl _⟩) ?_ ?_
  · rintro k m1 news1 h5 tk5 F5 N5 hz7
    try ((fail_if_success (with_reducible show Gz)); with_reducible (first | (refine letW ?_; intro Gz) | (refine letWC ?_; intro Gz)))
    refine Mine.E6 ?_ hz7
    clear hz7
    intro L Q rs nr oD kvs
    refine Mine.A8 ?_
    intro hR1
    subst hR1
    intro hm hrs hd hT5 I hk
    intro hk9
    try ((fail_if_success (with_reducible show wpAny _ _ _ Qz _ _)); with_reducible (first | (refine letQ ?_; intro Qz) | (refine letQC ?_; intro Qz)))
    try ((fail_if_success (with_reducible show wpAny _ _ _ _ _ Sz)); with_reducible (first | (refine letS ?_; intro Sz) | (refine letSC ?_; intro Sz)))
    refine frsG F5 hm ?_; clear F5; intro _ F5
    have hlen : rs.length = Q.length := by have := hrs.length; simpa using this
    (repeat ((fail_if_success (with_reducible show wpAny _ _ (PySem.compareOp _ _ _) _ _ _)); walk1))
    rename_i eL h6 F6 N6 l6
    refine ne_nil (vs := rs) (by show un + 3 < cLine; lia) N6 (.tail _ (.head _)) (.head _) ?_
    iterate 1 walk1
    have hrow : ∀ p ∈ (D, oD) :: news, p.1 ≠ row := fun p hp => by
      rcases List.mem_cons.mp hp with rfl | hp
      · exact Nat.ne_of_lt l3.1
      · exact Nat.ne_of_lt (allLt_mem _ l3.2 p hp)
    have hrowD : row ≠ D := (hrow _ (.head _)).symm
    have hDn : ∀ p ∈ news, p.1 ≠ D := fun p hp => Nat.ne_of_lt (l1 p hp)
    have hsz := I.size
    have hphi := phi_nonneg hT.pos I
    cases Q with
    | nil =>
      cases hrs
      refine ifN (by simp) ?_
      exact Mine.I4 _ _ _ _ ⟨rfl, F6, News.sub N6 (fun p hp => .tail _ hp), Mine.I5 L [] nr oD kvs ⟨rfl, ⟨rfl, trivial⟩, hd, hT5, I⟩⟩
    | cons u Q =>
      have hk' : (k : Int) = 2 * phi L + ((Q.length + 1 : Nat) : Int) := by simpa using hk
      cases hrs with
      | @cons _ tu vs _ hrs =>
      refine ifP (by simp) ?_
      (repeat ((fail_if_success (with_reducible show wpAny _ _ (PySem.exec (Stmt.For _ _ _ _ _) _) _ _ _)); walk1))
      refine kl_popAt (k := 0) (p := []) (q := vs) (y := .str u.txt tu) F6 (News.sub N6 fun p hp => .tail _ hp) rfl (by unfold seqIndex?; simp) rfl (.head hrow) (by rw [sizeLine_eq]; simp only [List.length_cons] at hlen hk ⊢; lia) ?_
      intro h7 F7 N7
      (repeat ((fail_if_success (with_reducible show wpAny _ _ (PySem.exec (Stmt.For _ _ _ _ _) _) _ _ _)); walk1))
      rename_i _ h8 F8 N8
      rw [List.nil_append] at N8
      try ((fail_if_success (with_reducible show Gz)); with_reducible (first | (refine letW ?_; intro Gz) | (refine letWC ?_; intro Gz)))
      obtain ⟨p, hup⟩ := I.pend u (.head _)
      have Ip := I.pop
      refine wpAny_For ?_
      iterate 1 walk1
      refine iter_loop (fun i m1 news1 => ∃ (Lm : List (W4 × Int)) (Q' : List W4) (rs : List Value) (nr : Nat) (oD : Obj) (kvs : List (Str × Value)), news1 = (row, listOf rs.toArray nr) :: (D, oD) :: news ∧ Has m1 [("text", .str u.txt tu), ("prices", .ref dP), ("least", .ref D), ("row", .ref row)] ∧
          StrsAre rs (Q'.map W4.txt) ∧ oD.IsDictOf (PySem.strKind prog w) kvs ∧ TabR IntV Lm kvs ∧ LInv st c Lm Q' (fun w n => w = u ∧ n ∈ nms.drop i) ∧ (u, p) ∈ Lm ∧ 2 * phi Lm + Q'.length ≤ 2 * phi L + Q.length)
        (fun m1 news1 => ∃ (Lm : List (W4 × Int)) (Q' : List W4) (rs : List Value) (nr : Nat) (oD : Obj) (kvs : List (Str × Value)), news1 = (row, listOf rs.toArray nr) :: (D, oD) :: news ∧ Has m1 [("prices", .ref dP), ("least", .ref D), ("row", .ref row)] ∧
          StrsAre rs (Q'.map W4.txt) ∧ oD.IsDictOf (PySem.strKind prog w) kvs ∧ TabR IntV Lm kvs ∧ LInv st c Lm Q' (fun _ _ => False) ∧ 2 * phi Lm + Q'.length ≤ 2 * phi L + Q.length)
        (src_str rfl (by decide +kernel) F8 N8) (fun _ h => nomatch h) (Mine.I6 L Q vs _ oD kvs ⟨rfl, ⟨rfl, rfl, rfl, rfl, trivial⟩, hrs, hd, hT5, Ip.weak fun w n h => ⟨h, by simpa using nms_all n⟩, hup, Int.le_refl _⟩) ?_ ?_ ?_
      · rintro i v m2 news2 h9 tk9 it oI hi hv hlt hnI hz12 F9 N9
        try ((fail_if_success (with_reducible show Gz)); with_reducible (first | (refine letW ?_; intro Gz) | (refine letWC ?_; intro Gz)))
        refine Mine.E6 ?_ hz12
        clear hz12
        intro Lm Q' rs nr' oD' kvs'
        refine Mine.A8 ?_
        intro hR2
        subst hR2
        intro hm2 hrs2 hd2 hT2 I2 hu2
        intro hle2
        try ((fail_if_success (with_reducible show wpAny _ _ _ Qz _ _)); with_reducible (first | (refine letQ ?_; intro Qz) | (refine letQC ?_; intro Qz)))
        try ((fail_if_success (with_reducible show wpAny _ _ _ _ _ Sz)); with_reducible (first | (refine letS ?_; intro Sz) | (refine letSC ?_; intro Sz)))
        try ((fail_if_success (with_reducible show Gz)); with_reducible (first | (refine letW ?_; intro Gz) | (refine letWC ?_; intro Gz)))
        refine Mine.E2 ?_ (nms_at hv)
        intro n un'
        refine And.elim ?_
        intro hn
        intro hR3
        subst hR3
        have hlen2 : rs.length = Q'.length := by have := hrs2.length; simpa using this
        have hphi2 := phi_nonneg hT.pos I2
        refine frsG F9 (l := [("name", .str n.txt un'), ("text", .str u.txt tu), ("prices", .ref dP), ("least", .ref D), ("row", .ref row)]) ⟨rfl, hm2.1, hm2.2.1, hm2.2.2.1, hm2.2.2.2.1, trivial⟩ ?_; clear F9; intro _ F9
        (repeat ((fail_if_success (with_reducible show wpAny _ _ (PySem.call (Value.ref _) _) _ _ _)); walk1))
        refine CallC.use (by exact c_order (x := u) (n := n) (t := tu) (u := un')) B' F9 X' N9 T' rfl ?_ ?_ ?_
        · show dp + 1 + 1 < recursionLimit; lia
        · show un + 3 + 8 * 1 < cLine; lia
        rintro r news' h10 tk10 F10 N10 hz6
        try ((fail_if_success (with_reducible show Gz)); with_reducible (first | (refine letW ?_; intro Gz) | (refine letWC ?_; intro Gz)))
        obtain ⟨⟨t10, rfl⟩, rfl⟩ := hz6
        try ((fail_if_success (with_reducible show wpAny _ _ _ Qz _ _)); with_reducible (first | (refine letQ ?_; intro Qz) | (refine letQC ?_; intro Qz)))
        try ((fail_if_success (with_reducible show wpAny _ _ _ _ _ Sz)); with_reducible (first | (refine letS ?_; intro Sz) | (refine letSC ?_; intro Sz)))
        try ((fail_if_success (with_reducible show Gz)); with_reducible (first | (refine letW ?_; intro Gz) | (refine letWC ?_; intro Gz)))
        refine Exists.elim (hT2.here I2.nodup hu2) ?_
        intro vp
        refine And.elim ?_
        intro hvp
        refine fun hq => Exists.elim hq ?_; clear hq
        intro tvp
        intro hR4
        subst hR4
        try ((fail_if_success (with_reducible show Gz)); with_reducible (first | (refine letW ?_; intro Gz) | (refine letWC ?_; intro Gz)))
        refine Exists.elim hT.dict ?_
        intro pk
        refine And.elim ?_
        intro hpk
        intro hpv
        try ((fail_if_success (with_reducible show Gz)); with_reducible (first | (refine letW ?_; intro Gz) | (refine letWC ?_; intro Gz)))
        obtain ⟨tp, hpv⟩ := hpv n
        (repeat ((fail_if_success (with_reducible show wpAny _ _ (PySem.subscriptTail _ _ _ _) _ _ _)); walk1))
        rename_i _ h11 F11 N11
        refine kda_item N11 (.tail _ (.tail _ (.head _))) hd2 (strKind_is _ _ _ _) hvp ?_
        (repeat ((fail_if_success (with_reducible show wpAny _ _ (PySem.subscriptTail _ _ _ _) _ _ _)); walk1))
        refine kda_item N11 (.tail _ (.tail _ (.tail _ hP))) hpk (strKind_is _ _ _ _) hpv ?_
        (repeat ((fail_if_success (with_reducible show wpAny _ _ (PySem.compareOp _ _ _) _ _ _)); walk1))
        rename_i _ h12 F12 N12
        refine kdg_notin N12 (.tail _ (.tail _ (.head _))) hd2 lo (strKind_is _ _ _ _) (decide (∃ e ∈ Lm, e.1 = turn n u)) (hT2.has _) ?_
        by_cases hin : ∃ e ∈ Lm, e.1 = turn n u
        · rw [decide_eq_true hin, Bool.not_true]
          try ((fail_if_success (with_reducible show Gz)); with_reducible (first | (refine letW ?_; intro Gz) | (refine letWC ?_; intro Gz)))
          refine Exists.elim hin ?_
          clear hin
          intro hN5
          obtain ⟨_, q⟩ := hN5
          refine And.elim ?_
          intro he
          intro hR6
          subst hR6
          try ((fail_if_success (with_reducible show Gz)); with_reducible (first | (refine letW ?_; intro Gz) | (refine letWC ?_; intro Gz)))
          refine Exists.elim (hT2.here I2.nodup he) ?_
          intro vq
          refine And.elim ?_
          intro hvq
          refine fun hq => Exists.elim hq ?_; clear hq
          intro tvq
          intro hR7
          subst hR7
          (repeat ((fail_if_success (with_reducible show wpAny _ _ (PySem.subscriptTail _ _ _ _) _ _ _)); walk1))
          refine kda_item N12 (.tail _ (.tail _ (.head _))) hd2 (strKind_is _ _ _ _) hvq ?_
          iterate 2 walk1
          by_cases hlt : p + c n < q
          · refine ifP (by simpa using hlt) ?_
            have ho : ∀ q', (turn n u, q') ∈ Lm → p + c n < q' := fun q' h' => by rw [I2.uniq h' he]; exact hlt
            have hnI0 : it ≠ row := (hnI _ (.head _)).symm
            have hnI1 : it ≠ D := (hnI _ (.tail _ (.head _))).symm
            try ((fail_if_success (with_reducible show Gz)); with_reducible (first | (refine letW ?_; intro Gz) | (refine letWC ?_; intro Gz)))
            refine Mine.A3 ?_ (I2.put hT.pos hT.top hu2 ho)
            intro I3 hu3
            intro hphi3
            (repeat ((fail_if_success (with_reducible show wpAny _ _ (PySem.setItem _ _ _) _ _ _)); walk1))
            refine kda_set (k := (turn n u).txt) F12 N12 (.tail hnI1 (.tail hrowD (.head hDn))) hd2 (strKind_is _ _ _ _) (by rw [hT2.len, sizeLine_eq]; have := I2.size; lia) ?_
            intro h13 oD2 F13 N13 hd13
            (repeat ((fail_if_success (with_reducible show wpAny _ _ (PySem.call (Value.builtin _) _) _ _ _)); walk1))
            refine append_K F13 N13 (Upd.tail hnI0 (Upd.head (fun p hp => by
              rcases List.mem_cons.mp hp with rfl | hp
              · exact hrowD.symm
              · exact Nat.ne_of_lt (allLt_mem _ l3.2 p hp)))) (fun h14 F14 N14 => ?_) (by rw [sizeLine_eq, List.size_toArray]; lia)
            refine wpAny_execs_nil ?_
            dsimp only
            refine wpAny_execs_nil ?_
            refine Mine.I4 _ _ _ _ ⟨rfl, F14, N14, ?_, Mine.I6 (putA Lm (turn n u) (p + c n)) (Q' ++ [turn n u]) (rs ++ [.str (turn n u).txt t10]) (nr' + 1) oD2 _ ⟨by simp, ⟨rfl, rfl, rfl, rfl, trivial⟩, ?_, hd13, hT2.put ⟨_, rfl⟩, I3.weak fun w k h => ⟨h.1.1, nms_drop hn h.1.2 fun h' => h.2 ⟨h.1.1, h'⟩⟩, hu3, ?_⟩⟩
            · intro p hp
              rcases List.mem_cons.mp hp with rfl | hp
              · exact hnI0.symm
              · rcases List.mem_cons.mp hp with rfl | hp
                · exact hnI1.symm
                · exact hnI p (.tail _ (.tail _ hp))
            · rw [List.map_append]; exact strs_snoc hrs2
            · simp only [List.length_append, List.length_singleton]; lia
          · refine ifN (by simpa using hlt) ?_
            iterate 1 walk1
            refine ifN (by simp) ?_
            refine wpAny_execs_nil ?_
            dsimp only
            refine wpAny_execs_nil ?_
            exact Mine.I4 _ _ _ _ ⟨rfl, F12, N12, hnI, Mine.I6 Lm Q' rs nr' oD' kvs' ⟨rfl, ⟨rfl, rfl, rfl, rfl, trivial⟩, hrs2, hd2, hT2, (I2.over hu2 he (by lia)).weak fun w k h => ⟨h.1.1, nms_drop hn h.1.2 fun h' => h.2 ⟨h.1.1, h'⟩⟩, hu2, hle2⟩⟩
        · rw [decide_eq_false hin, Bool.not_false]
          iterate 3 walk1
          have ho : ∀ q', (turn n u, q') ∈ Lm → p + c n < q' := fun q' h' => (hin ⟨_, h', rfl⟩).elim
          have hnI0 : it ≠ row := (hnI _ (.head _)).symm
          have hnI1 : it ≠ D := (hnI _ (.tail _ (.head _))).symm
          try ((fail_if_success (with_reducible show Gz)); with_reducible (first | (refine letW ?_; intro Gz) | (refine letWC ?_; intro Gz)))
          refine Mine.A3 ?_ (I2.put hT.pos hT.top hu2 ho)
          intro I3 hu3
          intro hphi3
          (repeat ((fail_if_success (with_reducible show wpAny _ _ (PySem.setItem _ _ _) _ _ _)); walk1))
          refine kda_set (k := (turn n u).txt) F12 N12 (.tail hnI1 (.tail hrowD (.head hDn))) hd2 (strKind_is _ _ _ _) (by rw [hT2.len, sizeLine_eq]; have := I2.size; lia) ?_
          intro h13 oD2 F13 N13 hd13
          (repeat ((fail_if_success (with_reducible show wpAny _ _ (PySem.call (Value.builtin _) _) _ _ _)); walk1))
          refine append_K F13 N13 (Upd.tail hnI0 (Upd.head (fun p hp => by
            rcases List.mem_cons.mp hp with rfl | hp
            · exact hrowD.symm
            · exact Nat.ne_of_lt (allLt_mem _ l3.2 p hp)))) (fun h14 F14 N14 => ?_) (by rw [sizeLine_eq, List.size_toArray]; lia)
          refine wpAny_execs_nil ?_
          dsimp only
          refine wpAny_execs_nil ?_
          refine Mine.I4 _ _ _ _ ⟨rfl, F14, N14, ?_, Mine.I6 (putA Lm (turn n u) (p + c n)) (Q' ++ [turn n u]) (rs ++ [.str (turn n u).txt t10]) (nr' + 1) oD2 _ ⟨by simp, ⟨rfl, rfl, rfl, rfl, trivial⟩, ?_, hd13, hT2.put ⟨_, rfl⟩, I3.weak fun w k h => ⟨h.1.1, nms_drop hn h.1.2 fun h' => h.2 ⟨h.1.1, h'⟩⟩, hu3, ?_⟩⟩
          · intro p hp
            rcases List.mem_cons.mp hp with rfl | hp
            · exact hnI0.symm
            · rcases List.mem_cons.mp hp with rfl | hp
              · exact hnI1.symm
              · exact hnI p (.tail _ (.tail _ hp))
          · rw [List.map_append]; exact strs_snoc hrs2
          · simp only [List.length_append, List.length_singleton]; lia
      · rintro m2 news2 hz2
        try ((fail_if_success (with_reducible show Gz)); with_reducible (first | (refine letW ?_; intro Gz) | (refine letWC ?_; intro Gz)))
        refine Mine.E6 ?_ hz2
        clear hz2
        intro Lm Q' rs nr' oD' kvs'
        refine Mine.A8 ?_
        intro hR8
        subst hR8
        intro hm2 hrs2 hd2 hT2 I2 hu2
        intro hle2
        try ((fail_if_success (with_reducible show wpAny _ _ _ Qz _ _)); with_reducible (first | (refine letQ ?_; intro Qz) | (refine letQC ?_; intro Qz)))
        try ((fail_if_success (with_reducible show wpAny _ _ _ _ _ Sz)); with_reducible (first | (refine letS ?_; intro Sz) | (refine letSC ?_; intro Sz)))
        exact Mine.I6 Lm Q' rs nr' oD' kvs' ⟨rfl, ⟨hm2.2.1, hm2.2.2.1, hm2.2.2.2.1, trivial⟩, hrs2, hd2, hT2, I2.weak fun w k h => (by have h2 : k ∈ nms.drop 3 := h.2; simp [nms] at h2), hle2⟩
      · rintro m2 news2 h9 tk9 F9 N9 hz6
        try ((fail_if_success (with_reducible show Gz)); with_reducible (first | (refine letW ?_; intro Gz) | (refine letWC ?_; intro Gz)))
        refine Mine.E6 ?_ hz6
        clear hz6
        intro Lm Q' rs nr' oD' kvs'
        refine Mine.A6 ?_
        intro hR9
        subst hR9
        intro hm2 hrs2 hd2 hT2
        refine And.elim ?_
        intro I2
        intro hle2
        try ((fail_if_success (with_reducible show wpAny _ _ _ Qz _ _)); with_reducible (first | (refine letQ ?_; intro Qz) | (refine letQC ?_; intro Qz)))
        try ((fail_if_success (with_reducible show wpAny _ _ _ _ _ Sz)); with_reducible (first | (refine letS ?_; intro Sz) | (refine letSC ?_; intro Sz)))
        have hphi2 := phi_nonneg hT.pos I2
        refine wpAny_execs_nil ?_
        exact Mine.I5 _ _ _ _ ((2 * phi Lm + Q'.length).toNat) ⟨rfl, F9, N9, by lia, Mine.I6 Lm Q' rs nr' oD' kvs' ⟨rfl, hm2, hrs2, hd2, hT2, I2, by lia, by lia⟩⟩
  · rintro m1 news1 h5 tk5 F5 N5 hz6
    try ((fail_if_success (with_reducible show Gz)); with_reducible (first | (refine letW ?_; intro Gz) | (refine letWC ?_; intro Gz)))
    refine Mine.E5 ?_ hz6
    clear hz6
    intro L rs nr oD kvs
    refine Mine.A5 ?_
    intro hR10
    subst hR10
    intro hm hd hT5
    intro I
    try ((fail_if_success (with_reducible show wpAny _ _ _ Qz _ _)); with_reducible (first | (refine letQ ?_; intro Qz) | (refine letQC ?_; intro Qz)))
    try ((fail_if_success (with_reducible show wpAny _ _ _ _ _ Sz)); with_reducible (first | (refine letS ?_; intro Sz) | (refine letSC ?_; intro Sz)))
    refine frsG F5 hm ?_; clear F5; intro _ F5
    iterate 3 walk1
    exact leaveK_ F5 (news' := (D, oD) :: news) (fun p hp => N5 p (.tail _ hp)) (fun F N => hret _ _ _ _ F N (Mine.I4 D oD kvs L ⟨rfl, rfl, lo, fun p hp => Nat.ne_of_lt (l1 p hp), hd, hT5, I⟩))
end Mine
end
/-! part P7 -/
section
example : True := by w_top off; trivial
open PySem PySem.W PyProof.Rows HeadC
namespace Mine
/-! ### what is settled and what is told are one -/
structure Fin1 (st : W4) (c : Nm → Int) (T : List Ent) : Prop where
  nodup : (T.map (·.1)).Nodup
  start : (st, 0, []) ∈ T
  from_ : ∀ e ∈ T, From st c T e
  best : ∀ e ∈ T, ∀ f ∈ T, ∀ n, e.1 = turn n f.1 → e.2.1 = f.2.1 + c n → ¬ wk (f.2.2 ++ [n]) < wk e.2.2
  path : ∀ e ∈ T, Path st c e.1 e.2.1
  least : ∀ w p, Path st c w p → ∃ e ∈ T, e.1 = w ∧ e.2.1 ≤ p
theorem ent_uniq {T : List Ent} (h : (T.map (·.1)).Nodup) {e f : Ent} (he : e ∈ T) (hf : f ∈ T) (h1 : e.1 = f.1) : e = f := by
  induction T with
  | nil => nomatch he
  | cons g T ih =>
    rw [List.map_cons, List.nodup_cons] at h
    rcases List.mem_cons.mp he with e1 | he' <;> rcases List.mem_cons.mp hf with e2 | hf'
    · rw [e1, e2]
    · exact (h.1 (List.mem_map.mpr ⟨_, hf', by rw [← h1, e1]⟩)).elim
    · exact (h.1 (List.mem_map.mpr ⟨_, he', by rw [h1, e2]⟩)).elim
    · exact ih h.2 he' hf'
variable {st : W4} {c : Nm → Int}
theorem fin_price {S T : List Ent} (hS : Fin1 st c S) (hT : Fin1 st c T) {e : Ent} (he : e ∈ S) : ∃ f ∈ T, f.1 = e.1 ∧ f.2.1 = e.2.1 := by
  refine Exists.elim (hT.least _ _ (hS.path e he)) ?_
  intro f
  refine Mine.A3 ?_
  intro hf h1
  intro h2
  refine Exists.elim (hS.least _ _ (hT.path f hf)) ?_
  intro g
  refine Mine.A3 ?_
  intro hg h3
  intro h4
  have := ent_uniq hS.nodup hg he (h3.trans h1)
  subst this
  exact ⟨f, hf, h1, by lia⟩
theorem fin_eq (hc : ∀ n, 1 ≤ c n) {S T : List Ent} (hS : Fin1 st c S) (hT : Fin1 st c T) : ∀ e, e ∈ S ↔ e ∈ T := by
  have key : ∀ (k : Nat) {S T : List Ent}, Fin1 st c S → Fin1 st c T → (∀ e : Ent, e.2.1.toNat < k → (e ∈ S ↔ e ∈ T)) → ∀ e ∈ S, e.2.1.toNat = k → e ∈ T := by
    intro k S T hS hT ih e he hk
    refine Exists.elim (fin_price hS hT he) ?_
    intro f
    refine Mine.A3 ?_
    intro hf h1
    intro h2
    have pe : 0 ≤ e.2.1 := (hS.path e he).pos hc
    have low : ∀ {U : List Ent} {g x : Ent} {n : Nm}, Fin1 st c U → g ∈ U → x.2.1 = g.2.1 + c n → x.2.1 = e.2.1 → g.2.1.toNat < k := fun {U g x n} hU hg hx hxe => by
      have := (hU.path g hg).pos hc
      have := hc n
      lia
    have same : e.2.2 = f.2.2 → e = f := fun h3 => by
      obtain ⟨a, b, d⟩ := e
      obtain ⟨a', b', d'⟩ := f
      dsimp only at h1 h2 h3
      rw [h1, h2, h3]
    rcases hS.from_ e he with h | ⟨g, hg, n, g1, g2, g3⟩
    · rcases hT.from_ f hf with h' | ⟨g, hg, n, g1, g2, g3⟩
      · rw [h] at *; rw [h'] at hf; exact hf
      · exfalso
        have := (hT.path g hg).pos hc
        have := hc n
        rw [h] at h2
        dsimp only at h2
        lia
    · rcases hT.from_ f hf with h' | ⟨g', hg', n', g1', g2', g3'⟩
      · exfalso
        have := (hS.path g hg).pos hc
        have := hc n
        rw [h'] at h2
        dsimp only at h2
        lia
      · have hgT : g ∈ T := (ih g (low hS hg g2 rfl)).mp hg
        have hgS : g' ∈ S := (ih g' (low hT hg' g2' h2)).mpr hg'
        have b1 := hT.best f hf g hgT n (h1.trans g1) (by rw [h2]; exact g2)
        have b2 := hS.best e he g' hgS n' (h1.symm.trans g1') (by rw [← h2]; exact g2')
        rw [← g3] at b1
        rw [← g3'] at b2
        have : wk e.2.2 = wk f.2.2 := List.le_antisymm (List.not_lt.mp b2) (List.not_lt.mp b1)
        rw [same (wk_inj this)]
        exact hf
  have all : ∀ k : Nat, ∀ e : Ent, e.2.1.toNat < k → (e ∈ S ↔ e ∈ T) := by
    intro k
    induction k with
    | zero => intro e h; lia
    | succ k ih =>
      intro e h
      by_cases h1 : e.2.1.toNat < k
      · exact ih e h1
      · have h2 : e.2.1.toNat = k := by lia
        exact ⟨fun he => key k hS hT ih e he h2, fun he => key k hT hS (fun e h => (ih e h).symm) e he h2⟩
  exact fun e => all (e.2.1.toNat + 1) e (by lia)
theorem DInv.fin (hc : ∀ n, 1 ≤ c n) {S : List Ent} (D : DInv st c S [] (fun _ _ => False)) (h0 : (st, 0, []) ∈ S) : Fin1 st c S where
  nodup := D.nodup
  start := h0
  from_ := D.fromS
  best := fun e he f hf n h1 h2 h3 => by
    rcases D.cov f hf n with h | ⟨g, hg, g1, g2⟩ | h
    · exact h
    · have := ent_uniq D.nodup hg he (g1.trans h1.symm)
      subst this
      exact g2 (.inr ⟨h2.symm, h3⟩)
    · nomatch h
  path := by
    have : ∀ (k : Nat) (e : Ent), e ∈ S → e.2.1.toNat < k → Path st c e.1 e.2.1 := by
      intro k
      induction k with
      | zero => intro e _ h; lia
      | succ k ih =>
        intro e he h
        rcases D.fromS e he with h1 | ⟨f, hf, n, h1, h2, _⟩
        · rw [h1]; exact .start
        · have := D.posS f hf
          have := hc n
          rw [h1, h2]
          exact .step n (ih f hf (by lia))
    exact fun e he => this _ e he (Nat.lt_succ_self _)
  least := fun w p h => by
    induction h with
    | start => exact ⟨_, h0, rfl, Int.le_refl _⟩
    | step n _ ih =>
      refine Exists.elim ih ?_
      clear ih
      intro f
      refine Mine.A3 ?_
      intro hf h1
      intro h2
      rcases D.cov f hf n with h | ⟨g, hg, g1, g2⟩ | h
      · exact h.elim
      · refine ⟨g, hg, by rw [g1, h1], ?_⟩
        unfold ELt at g2
        lia
      · nomatch h
/-! telling: the words in the order of their prices -/
structure TInv (st : W4) (c : Nm → Int) (Ls : List (W4 × Int)) (i : Nat) (T : List Ent) : Prop where
  nodup : (T.map (·.1)).Nodup
  start : (st, 0, []) ∈ T
  from_ : ∀ e ∈ T, From st c T e
  best : ∀ e ∈ T, ∀ f ∈ T, ∀ n, e.1 = turn n f.1 → e.2.1 = f.2.1 + c n → ¬ wk (f.2.2 ++ [n]) < wk e.2.2
  mem : ∀ e ∈ T, (e.1, e.2.1) ∈ Ls
  early : ∀ e ∈ T, e = (st, 0, []) ∨ ∃ j p, j < i ∧ Ls[j]? = some (e.1, p)
  done : ∀ j w p, j < i → Ls[j]? = some (w, p) → ∃ e ∈ T, e.1 = w
  len : ∀ e ∈ T, e.2.2.length < T.length
structure LeastOk (st : W4) (c : Nm → Int) (Ls : List (W4 × Int)) : Prop where
  nodup : (Ls.map (·.1)).Nodup
  path : ∀ e ∈ Ls, Path st c e.1 e.2
  least : ∀ w p, Path st c w p → ∃ q, (w, q) ∈ Ls ∧ q ≤ p
  rise : ∀ (i j : Nat) a b, i < j → Ls[i]? = some a → Ls[j]? = some b → a.2 ≤ b.2
theorem pr_uniq {L : List (W4 × Int)} (h : (L.map (·.1)).Nodup) {w : W4} {p q : Int} (h1 : (w, p) ∈ L) (h2 : (w, q) ∈ L) : p = q := by
  induction L with
  | nil => nomatch h1
  | cons e L ih =>
    rw [List.map_cons, List.nodup_cons] at h
    rcases List.mem_cons.mp h1 with e1 | h1 <;> rcases List.mem_cons.mp h2 with e2 | h2
    · rw [← e1] at e2; cases e2; rfl
    · exact absurd (List.mem_map.mpr ⟨_, h2, by rw [← e1]⟩) h.1
    · exact absurd (List.mem_map.mpr ⟨_, h1, by rw [← e2]⟩) h.1
    · exact ih h.2 h1 h2
variable {Ls : List (W4 × Int)} {i : Nat} {T : List Ent} {w : W4} {p : Int}
theorem LeastOk.st0 (hc : ∀ n, 1 ≤ c n) (O : LeastOk st c Ls) : (st, 0) ∈ Ls := by
  refine Exists.elim (O.least st 0 .start) ?_
  intro q
  refine And.elim ?_
  intro hq
  intro h
  have := (O.path _ hq).pos hc
  dsimp only at this
  rw [show (0 : Int) = q by lia]; exact hq
theorem TInv.init (hc : ∀ n, 1 ≤ c n) (O : LeastOk st c Ls) : TInv st c Ls 0 [(st, 0, [])] where
  nodup := by simp
  start := .head _
  from_ := fun e he => .inl (List.mem_singleton.mp he)
  best := fun e he f hf n h1 h2 => by
    rw [List.mem_singleton.mp he, List.mem_singleton.mp hf] at h2
    have := hc n
    dsimp only at h2
    lia
  mem := fun e he => by rw [List.mem_singleton.mp he]; exact O.st0 hc
  early := fun e he => .inl (List.mem_singleton.mp he)
  done := fun j w p h => by lia
  len := fun e he => by rw [List.mem_singleton.mp he]; exact Nat.zero_lt_one
/-- a word one turning nearer has been told before -/
theorem TInv.near (hc : ∀ n, 1 ≤ c n) (O : LeastOk st c Ls) (I : TInv st c Ls i T) (hi : Ls[i]? = some (w, p)) {n : Nm} {q : Int} (hq : (turn n w, q) ∈ Ls) (he : q + c n = p) : ∃ f ∈ T, f.1 = turn n w ∧ f.2.1 = q := by
  obtain ⟨j, hj⟩ := List.mem_iff_getElem?.mp hq
  have hcn := hc n
  have hji : j < i := by
    rcases Nat.lt_or_ge j i with h | h
    · exact h
    · exfalso
      rcases Nat.lt_or_eq_of_le h with h | h
      · have := O.rise i j _ _ h hi hj
        dsimp only at this; lia
      · rw [← h, hi] at hj
        have := congrArg Prod.snd (Option.some.inj hj)
        dsimp only at this
        lia
  refine Exists.elim (I.done j _ _ hji hj) ?_
  intro f
  refine And.elim ?_
  intro hf
  intro h1
  refine ⟨f, hf, h1, ?_⟩
  have := I.mem f hf
  rw [h1] at this
  exact pr_uniq O.nodup this hq
theorem TInv.skip (hc : ∀ n, 1 ≤ c n) (O : LeastOk st c Ls) (I : TInv st c Ls i T) (hi : Ls[i]? = some (w, p)) (hno : ∀ n q, (turn n w, q) ∈ Ls → q + c n ≠ p) : TInv st c Ls (i + 1) T := { I with
  early := fun e he => (I.early e he).imp id fun ⟨j, p, h1, h2⟩ => Mine.I2 j p ⟨by lia, h2⟩
  done := fun j w' p' hj h => by
    rcases Nat.lt_or_eq_of_le (Nat.le_of_lt_succ hj) with h1 | h1
    · exact I.done j w' p' h1 h
    · subst h1
      rw [hi] at h
      have e0 := congrArg Prod.fst (Option.some.inj h)
      have key : ∀ w p, Path st c w p → (w, p) ∈ Ls → (∀ n q, (turn n w, q) ∈ Ls → q + c n ≠ p) → w = st := by
        intro w p h hm hno
        cases h with
        | start => rfl
        | @step u q n h =>
          exfalso
          refine Exists.elim (O.least _ _ h) ?_
          intro r
          refine And.elim ?_
          intro hr
          intro h1
          refine Exists.elim (O.least _ _ (.step n (O.path _ hr))) ?_
          intro s
          refine And.elim ?_
          intro hs
          intro h2
          have := pr_uniq O.nodup hm hs
          dsimp only at h2
          exact hno n r (by rw [turn_turn]; exact hr) (by lia)
      have hm := List.mem_of_getElem? hi
      have hw := key w p (O.path _ hm) hm hno
      exact ⟨_, I.start, by rw [← hw]; exact e0⟩ }
theorem TInv.tell (hc : ∀ n, 1 ≤ c n) (O : LeastOk st c Ls) (I : TInv st c Ls i T) (hi : Ls[i]? = some (w, p)) {cs : Way} {n : Nm} {f : Ent} (hf : f ∈ T) (h1 : f.1 = turn n w) (h2 : f.2.1 + c n = p) (h3 : cs = f.2.2 ++ [n])
    (hb : ∀ g ∈ T, ∀ k, g.1 = turn k w → g.2.1 + c k = p → ¬ wk (g.2.2 ++ [k]) < wk cs) : TInv st c Ls (i + 1) (T ++ [(w, p, cs)]) ∧ ¬ ∃ e ∈ T, e.1 = w := by
  have hm := List.mem_of_getElem? hi
  have hno : ¬ ∃ e ∈ T, e.1 = w := by
    rintro ⟨e, he, e1⟩
    have hep := I.mem e he
    rw [e1] at hep
    have hpp := pr_uniq O.nodup hep hm
    rcases I.early e he with h | ⟨j, p', h, h'⟩
    · rw [h] at hpp
      have := (O.path _ (I.mem f hf)).pos hc
      have := hc n
      dsimp only at hpp this
      lia
    · rw [e1] at h'
      have hj := (List.getElem?_eq_some_iff.mp h').1
      have hi' := (List.getElem?_eq_some_iff.mp hi).1
      have a1 : (Ls.map (·.1))[j]'(by simpa using hj) = w := by
        rw [List.getElem_map, (List.getElem?_eq_some_iff.mp h').2]
      have a2 : (Ls.map (·.1))[i]'(by simpa using hi') = w := by
        rw [List.getElem_map, (List.getElem?_eq_some_iff.mp hi).2]
      have := (List.getElem_inj O.nodup).mp (a1.trans a2.symm)
      lia
  refine ⟨⟨?_, List.mem_append_left _ I.start, ?_, ?_, ?_, ?_, ?_, ?_⟩, hno⟩
  · rw [List.map_append, List.nodup_append]
    refine ⟨I.nodup, by simp, fun x hx y hy => ?_⟩
    refine Exists.elim (List.mem_map.mp hx) ?_
    intro e
    refine And.elim ?_
    intro he
    intro hR1
    subst hR1
    simp only [List.map_cons, List.map_nil, List.mem_singleton] at hy
    subst hy
    exact fun h => hno ⟨e, he, h⟩
  · intro e he
    rcases List.mem_append.mp he with he | he
    · exact (I.from_ e he).mono fun g hg => List.mem_append_left _ hg
    · rw [List.mem_singleton.mp he]
      exact .inr ⟨f, List.mem_append_left _ hf, n, by rw [h1, turn_turn], h2.symm, h3⟩
  · intro e he g hg k k1 k2
    have hck := hc k
    rcases List.mem_append.mp he with he | he
    · rcases List.mem_append.mp hg with hg | hg
      · exact I.best e he g hg k k1 k2
      · exfalso
        rw [List.mem_singleton.mp hg] at k2
        dsimp only at k2
        rcases I.early e he with h | ⟨j, p', h, h'⟩
        · rw [h] at k2
          have := (O.path _ hm).pos hc
          dsimp only at k2 this
          lia
        · have h5 := O.rise j i _ _ h h' hi
          have h6 := pr_uniq O.nodup (I.mem e he) (List.mem_of_getElem? h')
          dsimp only at h5
          lia
    · rw [List.mem_singleton.mp he] at k1 k2 ⊢
      dsimp only at k1 k2 ⊢
      rcases List.mem_append.mp hg with hg | hg
      · exact hb g hg k (by rw [k1, turn_turn]) k2.symm
      · exfalso
        rw [List.mem_singleton.mp hg] at k2
        dsimp only at k2
        lia
  · intro e he
    rcases List.mem_append.mp he with he | he
    · exact I.mem e he
    · rw [List.mem_singleton.mp he]; exact hm
  · intro e he
    rcases List.mem_append.mp he with he | he
    · exact (I.early e he).imp id fun ⟨j, p, h1, h2⟩ => Mine.I2 j p ⟨by lia, h2⟩
    · rw [List.mem_singleton.mp he]; exact .inr (Mine.I2 i p ⟨by lia, hi⟩)
  · intro j w' p' hj h
    rcases Nat.lt_or_eq_of_le (Nat.le_of_lt_succ hj) with h1 | h1
    · refine Exists.elim (I.done j w' p' h1 h) ?_
      intro e
      refine And.elim ?_
      intro he
      intro e1
      exact ⟨e, List.mem_append_left _ he, e1⟩
    · subst h1
      rw [hi] at h
      exact ⟨_, List.mem_append_right _ (.head _), congrArg Prod.fst (Option.some.inj h)⟩
  · intro e he
    rw [List.length_append, List.length_singleton]
    rcases List.mem_append.mp he with he | he
    · have := I.len e he; lia
    · rw [List.mem_singleton.mp he]
      have := I.len f hf
      dsimp only
      rw [h3, List.length_append, List.length_singleton]; lia
theorem TInv.fin (O : LeastOk st c Ls) (I : TInv st c Ls Ls.length T) : Fin1 st c T where
  nodup := I.nodup
  start := I.start
  from_ := I.from_
  best := I.best
  path := fun e he => O.path _ (I.mem e he)
  least := fun w p h => by
    refine Exists.elim (O.least w p h) ?_
    intro q
    refine And.elim ?_
    intro hq
    intro h1
    obtain ⟨j, hj⟩ := List.mem_iff_getElem?.mp hq
    refine Exists.elim (I.done j _ _ (List.getElem?_eq_some_iff.mp hj).1 hj) ?_
    intro e
    refine And.elim ?_
    intro he
    intro e1
    have := I.mem e he
    rw [e1] at this
    have := pr_uniq O.nodup this hq
    exact ⟨e, he, e1, by lia⟩
end Mine
end
/-! part P8 -/
section
open PySem PySem.W PyProof.Rows HeadC
namespace Mine
/-! ### the library's sorting tree sorts -/
/-- the tree run with the answers of lt stays below n and ends in Post -/
noncomputable def TreeOk {α : Type} (n : Nat) (lt : Nat → Nat → Bool) (Post : α → Prop) : KasT α → Prop
  | .ret a => Post a
  | .ask i j k => i < n ∧ j < n ∧ i ≠ j ∧ TreeOk n lt Post (k (lt i j))
theorem TreeOk.bind {α β : Type} {n : Nat} {lt : Nat → Nat → Bool} {P : α → Prop} {Q : β → Prop} {f : α → KasT β} : ∀ {t : KasT α}, TreeOk n lt P t → (∀ a, P a → TreeOk n lt Q (f a)) → TreeOk n lt Q (t.bind f)
  | .ret a, h, hf => hf a h
  | .ask i j k, h, hf => ⟨h.1, h.2.1, h.2.2.1, TreeOk.bind h.2.2.2 hf⟩
theorem TreeOk.mono {α : Type} {n : Nat} {lt : Nat → Nat → Bool} {P Q : α → Prop} (hq : ∀ a, P a → Q a) : ∀ {t : KasT α}, TreeOk n lt P t → TreeOk n lt Q t
  | .ret a, h => hq a h
  | .ask i j k, h => ⟨h.1, h.2.1, h.2.2.1, TreeOk.mono hq h.2.2.2⟩
theorem TreeOk.wp {α : Type} {n : Nat} {lt : Nat → Nat → Bool} {Post : α → Prop} {cmp : Nat → Nat → (Bool → Shared → Prop) → Shared → Prop} {Q : α → Shared → Prop} {s : Shared}
    (hc : ∀ i j C, i < n → j < n → i ≠ j → C (lt i j) s → cmp i j C s) (hq : ∀ a, Post a → Q a s) : ∀ {t : KasT α}, TreeOk n lt Post t → t.kasWp cmp Q s
  | .ret a, h => hq a h
  | .ask i j k, h => hc i j _ h.1 h.2.1 h.2.2.1 (TreeOk.wp hc hq h.2.2.2)
section
variable {n : Nat} {lt : Nat → Nat → Bool}
structure Prm (n : Nat) (p : Array Nat) : Prop where
  size : p.size = n
  low : ∀ i, i < n → p.getD i 0 < n
  inj : ∀ i j, i < n → j < n → p.getD i 0 = p.getD j 0 → i = j
  all : ∀ k, k < n → ∃ i, i < n ∧ p.getD i 0 = k
/-- in order up to k -/
noncomputable def Std (lt : Nat → Nat → Bool) (p : Array Nat) (k : Nat) : Prop := ∀ i j, i < j → j < k → lt (p.getD i 0) (p.getD j 0) = true
theorem getD_of {p : Array Nat} {i : Nat} : p.getD i 0 = (p[i]?).getD 0 := by
  by_cases h : i < p.size
  · simp [Array.getD, h]
  · simp [Array.getD, h]
theorem rev_getD {p : Array Nat} {m k : Nat} (hm : m ≤ p.size) (hk : k < m) : (kas_rev p 0 m).getD k 0 = p.getD (m - 1 - k) 0 := by
  unfold kas_rev
  rw [getD_of, getElem?_mirror_all hm, if_pos ⟨Nat.zero_le _, hk⟩, getD_of, Nat.zero_add]
theorem rev_getD' {p : Array Nat} {m k : Nat} (hm : m ≤ p.size) (hk : m ≤ k) : (kas_rev p 0 m).getD k 0 = p.getD k 0 := by
  unfold kas_rev
  rw [getD_of, getElem?_mirror_all hm, if_neg (by lia), getD_of]
theorem Prm.rev {p : Array Nat} (h : Prm n p) {m : Nat} (hm : m ≤ n) : Prm n (kas_rev p 0 m) := by
  have hm' : m ≤ p.size := by rw [h.size]; exact hm
  have key : ∀ i, i < n → ∃ i', i' < n ∧ (kas_rev p 0 m).getD i 0 = p.getD i' 0 ∧ (i < m → i' = m - 1 - i) ∧ (¬ i < m → i' = i) := fun i hi => by
    by_cases h1 : i < m
    · exact ⟨m - 1 - i, by lia, rev_getD hm' h1, fun _ => rfl, fun h2 => absurd h1 h2⟩
    · exact ⟨i, hi, rev_getD' hm' (by lia), fun h2 => absurd h2 h1, fun _ => rfl⟩
  refine ⟨(kas_rev_size _ _).trans h.size, fun i hi => ?_, fun i j hi hj e => ?_, fun k hk => ?_⟩
  · obtain ⟨i', h1, h2, _⟩ := key i hi; rw [h2]; exact h.low _ h1
  · obtain ⟨i', h1, h2, h3, h4⟩ := key i hi
    obtain ⟨j', k1, k2, k3, k4⟩ := key j hj
    rw [h2, k2] at e
    have := h.inj _ _ h1 k1 e
    by_cases a : i < m <;> by_cases b : j < m
    · have := h3 a; have := k3 b; lia
    · have := h3 a; have := k4 b; lia
    · have := h4 a; have := k3 b; lia
    · have := h4 a; have := k4 b; lia
  · obtain ⟨i, hi, e⟩ := h.all k hk
    by_cases a : i < m
    · exact ⟨m - 1 - i, by lia, by rw [rev_getD hm' (by lia), show m - 1 - (m - 1 - i) = i by lia]; exact e⟩
    · exact ⟨i, hi, by rw [rev_getD' hm' (by lia)]; exact e⟩
theorem bub_getD {p : Array Nat} {src l k : Nat} (hs : src < p.size) (hl : l ≤ src) : (bubble p src (src - l)).getD k 0 = if k = l then p.getD src 0 else if l < k ∧ k ≤ src then p.getD (k - 1) 0 else p.getD k 0 := by
  rw [getD_of, getElem?_bubble hs _ (by lia), show src - (src - l) = l by lia]
  by_cases h1 : k = l
  · rw [if_pos h1, if_pos h1, getD_of]
  · rw [if_neg h1, if_neg h1]
    by_cases h2 : l < k ∧ k ≤ src
    · rw [if_pos h2, if_pos h2, getD_of]
    · rw [if_neg h2, if_neg h2, getD_of]
theorem Prm.bub {p : Array Nat} (h : Prm n p) {src l : Nat} (hs : src < n) (hl : l ≤ src) : Prm n (bubble p src (src - l)) := by
  have hs' : src < p.size := by rw [h.size]; exact hs
  have key : ∀ i, i < n → ∃ i', i' < n ∧ (bubble p src (src - l)).getD i 0 = p.getD i' 0 ∧ (i = l → i' = src) ∧ (i ≠ l → l < i ∧ i ≤ src → i' = i - 1) ∧ (i ≠ l → ¬ (l < i ∧ i ≤ src) → i' = i) := fun i hi => by
    by_cases h1 : i = l
    · exact ⟨src, hs, by rw [bub_getD hs' hl, if_pos h1], fun _ => rfl, fun h2 => absurd h1 h2, fun h2 => absurd h1 h2⟩
    · by_cases h2 : l < i ∧ i ≤ src
      · exact ⟨i - 1, by lia, by rw [bub_getD hs' hl, if_neg h1, if_pos h2], fun h3 => absurd h3 h1, fun _ _ => rfl, fun _ h3 => absurd h2 h3⟩
      · exact ⟨i, hi, by rw [bub_getD hs' hl, if_neg h1, if_neg h2], fun h3 => absurd h3 h1, fun _ h3 => absurd h3 h2, fun _ _ => rfl⟩
  refine ⟨(bubble_size _ _ _).trans h.size, fun i hi => ?_, fun i j hi hj e => ?_, fun k hk => ?_⟩
  · obtain ⟨i', h1, h2, _⟩ := key i hi; rw [h2]; exact h.low _ h1
  · obtain ⟨i', h1, h2, h3, h4, h5⟩ := key i hi
    obtain ⟨j', k1, k2, k3, k4, k5⟩ := key j hj
    rw [h2, k2] at e
    have := h.inj _ _ h1 k1 e
    have ci : (i = l ∧ i' = src) ∨ (i ≠ l ∧ l < i ∧ i ≤ src ∧ i' = i - 1) ∨ (i ≠ l ∧ ¬ (l < i ∧ i ≤ src) ∧ i' = i) := by
      by_cases a : i = l
      · exact .inl ⟨a, h3 a⟩
      · by_cases a2 : l < i ∧ i ≤ src
        · exact .inr (.inl ⟨a, a2.1, a2.2, h4 a a2⟩)
        · exact .inr (.inr ⟨a, a2, h5 a a2⟩)
    have cj : (j = l ∧ j' = src) ∨ (j ≠ l ∧ l < j ∧ j ≤ src ∧ j' = j - 1) ∨ (j ≠ l ∧ ¬ (l < j ∧ j ≤ src) ∧ j' = j) := by
      by_cases a : j = l
      · exact .inl ⟨a, k3 a⟩
      · by_cases a2 : l < j ∧ j ≤ src
        · exact .inr (.inl ⟨a, a2.1, a2.2, k4 a a2⟩)
        · exact .inr (.inr ⟨a, a2, k5 a a2⟩)
    lia
  · obtain ⟨i, hi, e⟩ := h.all k hk
    by_cases a : i = src
    · exact ⟨l, by lia, by rw [bub_getD hs' hl, if_pos rfl, ← a]; exact e⟩
    · by_cases b : l ≤ i ∧ i < src
      · exact ⟨i + 1, by lia, by rw [bub_getD hs' hl, if_neg (by lia), if_pos (by lia)]; exact e⟩
      · exact ⟨i, hi, by rw [bub_getD hs' hl, if_neg (by lia), if_neg (by lia)]; exact e⟩
variable (htr : ∀ a b c, lt a b = true → lt b c = true → lt a c = true) (has : ∀ a b, lt a b = true → lt b a = false) (htot : ∀ a b, a < n → b < n → a ≠ b → lt a b = false → lt b a = true)
include htr has htot
theorem Std.more {p : Array Nat} {k : Nat} (h : Std lt p k) (hk : 0 < k) (e : lt (p.getD (k - 1) 0) (p.getD k 0) = true) : Std lt p (k + 1) := fun i j hij hj => by
  by_cases h1 : j = k
  · subst h1
    by_cases h2 : i = j - 1
    · rw [h2]; exact e
    · exact htr _ _ _ (h i (j - 1) (by lia) (by lia)) e
  · exact h i j hij (by lia)
theorem asc_ok {p : Array Nat} (hp : Prm n p) : ∀ (f m : Nat), 1 ≤ m → m + f ≤ n → Std lt p m → TreeOk n lt (fun r => m ≤ r ∧ r ≤ m + f ∧ Std lt p r ∧ (r < m + f → lt (p.getD r 0) (p.getD (r - 1) 0) = true)) (kas_asc p f m)
  | 0, m, hm, hf, hs => ⟨Nat.le_refl _, Nat.le_refl _, hs, fun h => by lia⟩
  | f + 1, m, hm, hf, hs => by
    have hne : p.getD m 0 ≠ p.getD (m - 1) 0 := fun e => by have := hp.inj _ _ (by lia) (by lia) e; lia
    refine ⟨hp.low _ (by lia), hp.low _ (by lia), hne, ?_⟩
    cases hc : lt (p.getD m 0) (p.getD (m - 1) 0) with
    | true => exact ⟨Nat.le_refl _, by lia, hs, fun _ => hc⟩
    | false =>
      refine TreeOk.mono (fun r h => ⟨by lia, by lia, h.2.2.1, fun h' => h.2.2.2 (by lia)⟩) (asc_ok hp f (m + 1) (by lia) (by lia) (hs.more htr has htot hm (htot _ _ (hp.low _ (by lia)) (hp.low _ (by lia)) hne hc)))
noncomputable def Dsc (lt : Nat → Nat → Bool) (p : Array Nat) (k : Nat) : Prop := ∀ i j, i < j → j < k → lt (p.getD j 0) (p.getD i 0) = true
theorem desc_ok {p : Array Nat} (hp : Prm n p) : ∀ (f m : Nat), 1 ≤ m → m + f ≤ n → Dsc lt p m → TreeOk n lt (fun r => r.1 = p ∧ m ≤ r.2.1 ∧ r.2.1 ≤ m + f ∧ r.2.2 = 0 ∧ Dsc lt p r.2.1) (kas_desc f p m 0)
  | 0, m, hm, hf, hs => ⟨rfl, Nat.le_refl _, Nat.le_refl _, rfl, hs⟩
  | f + 1, m, hm, hf, hs => by
    have hne : p.getD m 0 ≠ p.getD (m - 1) 0 := fun e => by have := hp.inj _ _ (by lia) (by lia) e; lia
    refine ⟨hp.low _ (by lia), hp.low _ (by lia), hne, ?_⟩
    cases hc : lt (p.getD m 0) (p.getD (m - 1) 0) with
    | true =>
      refine TreeOk.mono (fun r h => ⟨h.1, by lia, by lia, h.2.2.2.1, h.2.2.2.2⟩) (desc_ok hp f (m + 1) (by lia) (by lia) (fun i j hij hj => ?_))
      by_cases h1 : j = m
      · subst h1
        by_cases h2 : i = j - 1
        · rw [h2]; exact hc
        · exact htr _ _ _ hc (hs i (j - 1) (by lia) (by lia))
      · exact hs i j hij (by lia)
    | false =>
      refine ⟨hp.low _ (by lia), hp.low _ (by lia), Ne.symm hne, ?_⟩
      rw [htot _ _ (hp.low _ (by lia)) (hp.low _ (by lia)) hne hc]
      exact ⟨rfl, Nat.le_refl _, Nat.le_add_right _ _, rfl, hs⟩
theorem count_ok {p : Array Nat} (hp : Prm n p) (hn : 2 ≤ n) : TreeOk n lt (fun r => 1 ≤ r.1 ∧ r.1 ≤ n ∧ Prm n r.2 ∧ Std lt r.2 r.1) (kas_count n p) := by
  unfold kas_count
  refine TreeOk.bind (asc_ok htr has htot hp (n - 1) 1 (Nat.le_refl _) (by lia) (fun i j hij hj => by lia)) (fun m h => ?_)
  refine Mine.A4 ?_ h
  clear h
  intro h1 h2 h3
  intro h4
  by_cases e1 : (m == n) = true
  · rw [if_pos e1]
    exact ⟨h1, by lia, hp, h3⟩
  · rw [if_neg e1]
    have hmn : m < n := by
      have : m ≠ n := fun e => e1 (by simp [e])
      lia
    by_cases e2 : m > 1
    · rw [if_pos e2]
      refine ⟨hp.low _ (by lia), hp.low _ (by lia), fun e => (by have := hp.inj _ _ (by lia) (by lia) e; lia), ?_⟩
      rw [h3 0 (m - 1) (by lia) (by lia)]
      exact ⟨h1, by lia, hp, h3⟩
    · rw [if_neg e2]
      have hm1 : m = 1 := by lia
      subst hm1
      have hd := h4 (by lia)
      unfold kas_descPart
      refine TreeOk.bind (desc_ok htr has htot hp (n - 2) 2 (by lia) (by lia) (fun i j hij hj => ?_)) (fun r h => ?_)
      · have : i = 0 := by lia
        have : j = 1 := by lia
        subst_vars
        exact hd
      · obtain ⟨r1, r2, r3⟩ := r
        refine Mine.A5 ?_ h
        clear h
        intro hR1
        subst hR1
        intro a1 a2 hR2
        subst hR2
        intro a3
        dsimp only at a1 a2 a3 ⊢
        rw [if_neg (by lia)]
        unfold kas_tail3
        have hr2 : r2 ≤ n := by lia
        have hr2' : r2 ≤ r1.size := by rw [hp.size]; exact hr2
        refine TreeOk.bind (asc_ok htr has htot (hp.rev hr2) (n - r2) r2 (by lia) (by lia) (fun i j hij hj => ?_)) (fun m h => ?_)
        · rw [rev_getD hr2' (by lia), rev_getD hr2' hj]
          exact a3 _ _ (by lia) (by lia)
        · exact ⟨by have := h.1; lia, by have := h.2.1; lia, hp.rev hr2, h.2.2.1⟩
theorem place_ok {p : Array Nat} (hp : Prm n p) {k : Nat} (hk : k < n) (hs : Std lt p k) : ∀ (f l r : Nat), l ≤ r → r ≤ k → r - l ≤ f → (∀ j, j < l → lt (p.getD j 0) (p.getD k 0) = true) → (∀ j, r ≤ j → j < k → lt (p.getD k 0) (p.getD j 0) = true) →
    TreeOk n lt (fun x => x ≤ k ∧ (∀ j, j < x → lt (p.getD j 0) (p.getD k 0) = true) ∧ ∀ j, x ≤ j → j < k → lt (p.getD k 0) (p.getD j 0) = true) (kas_place p k f l r)
  | 0, l, r, hlr, hr, hf, h1, h2 => ⟨by lia, h1, fun j hj hjk => h2 j (by lia) hjk⟩
  | f + 1, l, r, hlr, hr, hf, h1, h2 => by
    unfold kas_place
    by_cases hge : l ≥ r
    · rw [if_pos hge]
      exact ⟨by lia, h1, fun j hj hjk => h2 j (by lia) hjk⟩
    · rw [if_neg hge]
      have hmid : (l + r) / 2 < r := by lia
      have hmid2 : l ≤ (l + r) / 2 := by lia
      have hne : p.getD k 0 ≠ p.getD ((l + r) / 2) 0 := fun e => by have := hp.inj _ _ hk (by lia) e; lia
      refine ⟨hp.low _ hk, hp.low _ (by lia), hne, ?_⟩
      cases hc : lt (p.getD k 0) (p.getD ((l + r) / 2) 0) with
      | true =>
        refine place_ok hp hk hs f l ((l + r) / 2) hmid2 (by lia) (by lia) h1 (fun j hj hjk => ?_)
        by_cases e : j = (l + r) / 2
        · rw [e]; exact hc
        · exact htr _ _ _ hc (hs _ _ (by lia) hjk)
      | false =>
        have hc' := htot _ _ (hp.low _ hk) (hp.low _ (by lia)) hne hc
        refine place_ok hp hk hs f ((l + r) / 2 + 1) r (by lia) hr (by lia) (fun j hj => ?_) h2
        by_cases e : j = (l + r) / 2
        · rw [e]; exact hc'
        · exact htr _ _ _ (hs _ _ (by lia) (by lia)) hc'
theorem bin_ok : ∀ (f : Nat) (p : Array Nat) (k : Nat), Prm n p → k + f = n → Std lt p k → TreeOk n lt (fun p' => Prm n p' ∧ Std lt p' n) (kas_bin f p k)
  | 0, p, k, hp, hk, hs => ⟨hp, by rw [← hk]; exact hs⟩
  | f + 1, p, k, hp, hk, hs => by
    unfold kas_bin
    refine TreeOk.bind (place_ok htr has htot hp (by lia) hs k 0 k (Nat.zero_le _) (Nat.le_refl _) (by lia) (fun j hj => by lia) (fun j hj hjk => by lia)) (fun l h => ?_)
    refine Mine.A3 ?_ h
    clear h
    intro h1 h2
    intro h3
    have hsz : k < p.size := by rw [hp.size]; lia
    refine bin_ok f _ (k + 1) (hp.bub (by lia) h1) (by lia) (fun i j hij hj => ?_)
    rw [bub_getD hsz h1, bub_getD hsz h1]
    by_cases a : i = l <;> by_cases b : j = l
    · lia
    · rw [if_pos a, if_neg b, if_pos (by lia)]
      exact h3 _ (by lia) (by lia)
    · rw [if_neg a, if_pos b, if_neg (by lia)]
      exact h2 _ (by lia)
    · rw [if_neg a, if_neg b]
      by_cases a2 : l < i ∧ i ≤ k <;> by_cases b2 : l < j ∧ j ≤ k
      · rw [if_pos a2, if_pos b2]; exact hs _ _ (by lia) (by lia)
      · lia
      · rw [if_neg a2, if_pos b2]; exact hs _ _ (by lia) (by lia)
      · rw [if_neg a2, if_neg b2]; exact hs _ _ (by lia) (by lia)
theorem sort_ok (hn : 2 ≤ n) : TreeOk n lt (fun p => Prm n p ∧ Std lt p n) (kas_sort n) := by
  unfold kas_sort
  have h0 : Prm n (List.toArray (List.range n)) := by
    have e : ∀ i, i < n → (List.toArray (List.range n)).getD i 0 = i := fun i hi => by simp [Array.getD, hi]
    exact ⟨by simp, fun i hi => by rw [e i hi]; exact hi, fun i j hi hj h => by rwa [e i hi, e j hj] at h, fun k hk => ⟨k, hk, e k hk⟩⟩
  refine TreeOk.bind (count_ok htr has htot h0 hn) (fun r h => ?_)
  obtain ⟨m, p⟩ := r
  refine Mine.A4 ?_ h
  clear h
  intro h1 h2 h3
  intro h4
  dsimp only at h1 h2 h3 h4 ⊢
  by_cases e : m < n
  · rw [if_pos e, show max m 1 = m by lia]
    exact bin_ok htr has htot (n - m) p m h3 (by lia) h4
  · rw [if_neg e]
    have : m = n := by lia
    rw [this] at h4
    exact ⟨h3, h4⟩
end
end Mine
end
/-! part P9 -/
section
open PySem PySem.W PySem.Calls PyProof.Rows HeadC
set_option maxRecDepth 100000
set_option maxHeartbeats 4000000
namespace Mine
/-- o is an order of the places below n, rising by lt -/
structure Srt (n : Nat) (lt : Nat → Nat → Bool) (o : List Nat) : Prop where
  len : o.length = n
  low : ∀ i ∈ o, i < n
  nodup : o.Nodup
  all : ∀ k, k < n → k ∈ o
  sorted : ∀ (i j a b : Nat), i < j → o[i]? = some a → o[j]? = some b → lt a b = true
theorem Srt.of {n : Nat} {lt : Nat → Nat → Bool} {p : Array Nat} (h : Prm n p) (hs : Std lt p n) : Srt n lt p.toList := by
  have e : ∀ (i a : Nat), p.toList[i]? = some a → i < n ∧ p.getD i 0 = a := fun i a h1 => by
    have h2 : p[i]? = some a := by simpa using h1
    have h3 := (Array.getElem?_eq_some_iff.mp h2).1
    exact ⟨by rw [← h.size]; exact h3, by rw [getD_of, h2]; rfl⟩
  refine ⟨by simp [h.size], fun a ha => ?_, ?_, fun k hk => ?_, fun i j a b hij ha hb => ?_⟩
  · try ((fail_if_success (with_reducible show Gz)); with_reducible (first | (refine letW ?_; intro Gz) | (refine letWC ?_; intro Gz)))
    obtain ⟨i, hi⟩ := List.mem_iff_getElem?.mp ha
    try ((fail_if_success (with_reducible show Gz)); with_reducible (first | (refine letW ?_; intro Gz) | (refine letWC ?_; intro Gz)))
    obtain ⟨h1, h2⟩ := e i a hi
    rw [← h2]; exact h.low i h1
  · rw [List.nodup_iff_pairwise_ne, List.pairwise_iff_getElem]
    intro i j hi hj hij he
    have h1 := e i _ (List.getElem?_eq_getElem hi)
    have h2 := e j _ (List.getElem?_eq_getElem hj)
    have := h.inj i j h1.1 h2.1 (by rw [h1.2, h2.2, he])
    lia
  · try ((fail_if_success (with_reducible show Gz)); with_reducible (first | (refine letW ?_; intro Gz) | (refine letWC ?_; intro Gz)))
    refine Exists.elim (h.all k hk) ?_
    intro i
    refine And.elim ?_
    intro hi
    intro h1
    have : i < p.size := by rw [h.size]; exact hi
    have h2 : p[i]? = some k := by
      rw [getD_of] at h1
      rw [Array.getElem?_eq_getElem this] at h1 ⊢
      simpa using h1
    rw [Array.mem_toList_iff]
    exact Array.mem_of_getElem? h2
  · try ((fail_if_success (with_reducible show Gz)); with_reducible (first | (refine letW ?_; intro Gz) | (refine letWC ?_; intro Gz)))
    obtain ⟨h1, h2⟩ := e i a ha
    try ((fail_if_success (with_reducible show Gz)); with_reducible (first | (refine letW ?_; intro Gz) | (refine letWC ?_; intro Gz)))
    obtain ⟨h3, h4⟩ := e j b hb
    rw [← h2, ← h4]; exact hs i j hij h3
section
variable {prog : Program} {w : World} {A : Around} {E : Value → Shared → Prop} {s : Shared} {h₀ : Heap} {L : Addr} {m : Str → Option Value} {news : List (Addr × Obj)} {vs : List Value}
theorem list_sort_few {a : Addr} {n : Nat} {P : PySem.Fin → Shared → Prop} (F : Fr h₀ L s.heap m) (N : News h₀ L s.heap news) (ho : s.heap.get? a = some (seqObj "list" vs.toArray n)) (haL : a ≠ L) (ha0 : h₀.get? a = none) (hna : ∀ p ∈ news, p.1 ≠ a)
    (h2 : vs.length < 2) (h : ∀ h' c, Fr h₀ L h' m → News h₀ L h' ((a, listOf vs.toArray c) :: news) → P (.done (.ret .none)) { s with heap := h' }) :
    wpAny (model prog w) A (Builtin.«list.sort» ⟨[.ref a], []⟩) P E s := by
  have s1 := Heap.SameBut.update s.heap a (Obj.mapSeq fun _ => (#[] : Array Value))
  obtain ⟨e1, ho1⟩ : ∃ e1, (s.heap.update a (Obj.mapSeq fun _ => (#[] : Array Value))).get? a = some (seqObj "list" #[] e1) := ⟨_, get?_update_seq ho fun _ => #[]⟩
  have F3 : Fr h₀ L (((s.heap.update a (Obj.mapSeq fun _ => (#[] : Array Value))).push (seqObj "tuple" vs.toArray 0)).push (seqObj "list" #[] 0)) m := ((kas_fr F s1 haL ha0).push _).push _
  have N2 : News h₀ L (((s.heap.update a (Obj.mapSeq fun _ => (#[] : Array Value))).push (seqObj "tuple" vs.toArray 0)).push (seqObj "list" #[] 0)) news :=
    (kas_news N s1 hna).grown fun b x e => Heap.get?_push_of_some _ (Heap.get?_push_of_some _ e)
  have na : (((s.heap.update a (Obj.mapSeq fun _ => (#[] : Array Value))).push (seqObj "tuple" vs.toArray 0)).push (seqObj "list" #[] 0)).get? a = some (seqObj "list" #[] e1) := Heap.get?_push_of_some _ (Heap.get?_push_of_some _ ho1)
  rw [list_sort_plain]
  refine wpAny_bind (listItems_at ho rfl ?_)
  refine wpAny_bind (listUpdate_at ho rfl ?_ (by rw [List.size_toArray, sizeLine_eq]; lia) (Nat.zero_le _))
  refine wpAny_bind (seqEpoch_at ho1 rfl ?_)
  refine wpAny_bind (wpAny_newTuple ?_ (by show vs.length ≤ _; rw [sizeLine_eq]; lia))
  refine wpAny_bind (wpAny_newList ?_ (Nat.zero_le _))
  refine wpAny_holding ?_
  show wpAny (model prog w) A _ P E { s with heap := ((s.heap.update a (Obj.mapSeq fun _ => (#[] : Array Value))).push (seqObj "tuple" vs.toArray 0)).push (seqObj "list" #[] 0) }
  dsimp only
  have hn2 : vs.toArray.size < 2 := by rw [List.size_toArray]; lia
  rw [if_pos hn2, if_pos hn2]
  refine wpAny_bind (wpAny_pure ?_)
  refine wpAny_bind (show wpAny _ _ (pure ((), SortSt.mk' general' (vs.toArray.zip vs.toArray) #[] 7 none)) _ _ _ from wpAny_pure ?_)
  dsimp only
  have hout : (arrOf (SortSt.mk' general' (vs.toArray.zip vs.toArray) #[] 7 none)).map (·.2) = vs.toArray := by
    show (vs.toArray.zip vs.toArray).map (·.2) = vs.toArray
    apply Array.toList_inj.mp
    rw [Array.toList_map, Array.toList_zip]
    simp [List.map_snd_zip]
  rw [hout]
  have s2 := Heap.SameBut.update (((s.heap.update a (Obj.mapSeq fun _ => (#[] : Array Value))).push (seqObj "tuple" vs.toArray 0)).push (seqObj "list" #[] 0)) a (Obj.mapSeq fun _ => vs.toArray)
  try ((fail_if_success (with_reducible show Gz)); with_reducible (first | (refine letW ?_; intro Gz) | (refine letWC ?_; intro Gz)))
  obtain ⟨c2, hc2⟩ : ∃ c2, ((((s.heap.update a (Obj.mapSeq fun _ => (#[] : Array Value))).push (seqObj "tuple" vs.toArray 0)).push (seqObj "list" #[] 0)).update a (Obj.mapSeq fun _ => vs.toArray)).get? a = some (seqObj "list" vs.toArray c2) := ⟨_, get?_update_seq na fun _ => vs.toArray⟩
  refine wpAny_bind (seqEpoch_at na rfl ?_)
  refine wpAny_bind (listUpdate_at na rfl ?_ (Nat.zero_le _) (by rw [List.size_toArray, sizeLine_eq]; lia))
  simp only [bne_self_eq_false, Bool.false_eq_true, if_false]
  refine wpAny_pure (h _ c2 (kas_fr F3 s2 haL ha0) (fun p hp => ?_))
  rcases List.mem_cons.mp hp with rfl | hp
  · exact ⟨hc2, haL, ha0⟩
  · exact ⟨(s2.2 _ (hna p hp)).trans (N2 p hp).1, (N2 p hp).2⟩
theorem sorted_few {l : Addr} {Q : Value → Shared → Prop} (F : Fr h₀ L s.heap m) (N : News h₀ L s.heap news) (hl : s.heap.IsList l vs.toArray) (h2 : vs.length < 2)
    (h : ∀ D h' c, Fr h₀ L h' m → News h₀ L h' ((D, listOf vs.toArray c) :: news) → (∀ q ∈ news, q.1 < D) → Q (.ref D) { s with heap := h' }) :
    wpAny (model prog w) A (call (.builtin "sorted") [.ref l]) Q E s := by
  refine Calls.call_function_entry kind_sorted plain_sorted entry_sorted (args_sorted1 _) ?_
  unfold Builtin.«sorted»
  refine wpAny_bind (m := checkCount "sorted" 1 1 _) (wpAny_pure ?_)
  refine wpAny_bind (collect_list hl ?_ (by rw [sizeLine_eq]; lia))
  refine wpAny_bind (wpAny_newList ?_ (by rw [sizeLine_eq]; lia))
  have hsz : ((s.heap.push (seqObj "list" #[] 0)).update s.heap.objs.size (Obj.mapSeq (· ++ vs.toArray))).objs.size = s.heap.objs.size + 1 := by
    rw [Heap.size_update, size_push']
  have hoL : (((s.heap.push (seqObj "list" #[] 0)).update s.heap.objs.size (Obj.mapSeq (· ++ vs.toArray))).push (seqObj "list" vs.toArray 0)).get? (s.heap.objs.size + 1) = some (seqObj "list" vs.toArray 0) := by
    rw [← hsz]; exact Heap.get?_push_size _ rfl
  have keep : ∀ b o, s.heap.get? b = some o → (((s.heap.push (seqObj "list" #[] 0)).update s.heap.objs.size (Obj.mapSeq (· ++ vs.toArray))).push (seqObj "list" vs.toArray 0)).get? b = some o := fun b o q => by
    have hlt : b < s.heap.objs.size := Heap.lt_size q
    rw [Heap.get?_push_ne _ _ _ (by rw [hsz]; exact Nat.ne_of_lt (Nat.lt_succ_of_lt hlt)), Heap.get?_update_ne _ _ _ _ (Nat.ne_of_lt hlt), Heap.get?_push_ne _ _ _ (Nat.ne_of_lt hlt)]
    exact q
  have hL : L < s.heap.objs.size := F.ns.lt
  show wpAny _ _ _ _ _ { s with heap := ((s.heap.push (seqObj "list" #[] 0)).update s.heap.objs.size (Obj.mapSeq (· ++ vs.toArray))).push (seqObj "list" vs.toArray 0) }
  rw [hsz]
  refine wpAny_bind (wpAny_holding (wpAny_call_entry slot_list_sort ⟨_, hoL, rfl⟩ entry_list_sort ?body (args_list_sort _)))
  case body =>
    exact list_sort_few (s := { s with heap := ((s.heap.push (seqObj "list" #[] 0)).update s.heap.objs.size (Obj.mapSeq (· ++ vs.toArray))).push (seqObj "list" vs.toArray 0) })
      (F.kept keep) (N.grown keep) hoL (Nat.ne_of_gt (Nat.lt_succ_of_lt hL)) (Heap.get?_none_of_le (Nat.le_trans F.above (Nat.le_succ_of_le (Nat.le_of_lt hL))))
      (fun p hp => Nat.ne_of_lt (Nat.lt_succ_of_lt (Heap.lt_size (N p hp).1))) h2 fun h' c F' N' => ⟨_, rfl, wpAny_pure ⟨_, rfl, h _ h' c F' N' fun q hq => Nat.lt_succ_of_lt (Heap.lt_size (N q hq).1)⟩⟩
/-! the order by a price and a text -/
noncomputable abbrev PK := Int × Str
noncomputable def pkLt (a b : PK) : Bool := if a.1 = b.1 then decide (a.2.cps.toList < b.2.cps.toList) else decide (a.1 < b.1)
theorem pkLt_trans {a b c : PK} (h1 : pkLt a b = true) (h2 : pkLt b c = true) : pkLt a c = true := by
  unfold pkLt at *
  split at h1 <;> split at h2 <;> rename_i e1 e2
  · rw [if_pos (by lia)]
    exact decide_eq_true (List.lt_trans (of_decide_eq_true h1) (of_decide_eq_true h2))
  · have := of_decide_eq_true h2; rw [if_neg (by lia)]; exact decide_eq_true (by lia)
  · have := of_decide_eq_true h1; rw [if_neg (by lia)]; exact decide_eq_true (by lia)
  · have h1 := of_decide_eq_true h1; have h2 := of_decide_eq_true h2; rw [if_neg (by lia)]; exact decide_eq_true (by lia)
theorem pkLt_asym {a b : PK} (h : pkLt a b = true) : pkLt b a = false := by
  unfold pkLt at *
  split at h <;> rename_i e
  · rw [if_pos e.symm]
    exact decide_eq_false (List.lt_asymm (of_decide_eq_true h))
  · have := of_decide_eq_true h; rw [if_neg (by lia)]; exact decide_eq_false (by lia)
theorem pkLt_tot {a b : PK} (hne : a ≠ b) (h : pkLt a b = false) : pkLt b a = true := by
  unfold pkLt at *
  split at h <;> rename_i e
  · rw [if_pos e.symm]
    refine decide_eq_true ?_
    have h := of_decide_eq_false h
    rcases List.le_iff_lt_or_eq.mp (List.not_lt.mp h) with h1 | h1
    · exact h1
    · exact absurd (Prod.ext e (Str.ext_list h1.symm)) hne
  · have := of_decide_eq_false h; rw [if_neg (by lia)]; exact decide_eq_true (by lia)
noncomputable def pkI (ks : List PK) (i j : Nat) : Bool := match ks[i]?, ks[j]? with
  | some a, some b => pkLt a b
  | _, _ => false
theorem pkI_facts {ks : List PK} (hn : ks.Nodup) : (∀ a b c, pkI ks a b = true → pkI ks b c = true → pkI ks a c = true) ∧ (∀ a b, pkI ks a b = true → pkI ks b a = false) ∧ (∀ a b, a < ks.length → b < ks.length → a ≠ b → pkI ks a b = false → pkI ks b a = true) := by
  refine ⟨fun a b c h1 h2 => ?_, fun a b h => ?_, fun a b ha hb hne h => ?_⟩
  · unfold pkI at *
    cases ha : ks[a]? <;> cases hb : ks[b]? <;> cases hc : ks[c]? <;> simp only [ha, hb, hc, Bool.false_eq_true] at *
    exact pkLt_trans h1 h2
  · unfold pkI at *
    cases ha : ks[a]? <;> cases hb : ks[b]? <;> simp only [ha, hb, Bool.false_eq_true] at *
    exact pkLt_asym h
  · unfold pkI at *
    rw [List.getElem?_eq_getElem ha, List.getElem?_eq_getElem hb] at *
    refine pkLt_tot (fun e => hne ?_) h
    exact (List.getElem_inj hn).mp e
/-- the i-th item is a tuple that begins with the i-th key -/
noncomputable def TupAt (news : List (Addr × Obj)) (v : Value) (k : PK) : Prop := ∃ a u1 u2 rest n, v = .ref a ∧ (a, ({ cls := .type "tuple", data := .seq (.int k.1 u1 :: .str k.2 u2 :: rest : List Value).toArray n } : Obj)) ∈ news
theorem sorted_tups {l : Addr} {ks : List PK} {nl : Nat} {Q : Value → Shared → Prop} (F : Fr h₀ L s.heap m) (N : News h₀ L s.heap news) (hl : (l, listOf vs.toArray nl) ∈ news) (hlen : vs.length = ks.length) (h64 : ks.length < 64) (hn : ks.Nodup) (hu : A.in1.in1.units < cLine)
    (hv : ∀ (i : Nat) v k, vs[i]? = some v → ks[i]? = some k → TupAt news v k)
    (h : ∀ D h' c o, Fr h₀ L h' m → News h₀ L h' ((D, listOf (o.map fun i => vs.getD i Value.none).toArray c) :: news) → (∀ q ∈ news, q.1 < D) → Srt ks.length (pkI ks) o → Q (.ref D) { s with heap := h' }) :
    wpAny (model prog w) A (call (.builtin "sorted") [.ref l]) Q E s := by
  by_cases h2 : vs.length < 2
  · refine sorted_few F N (N.isList hl) h2 fun D h' c F' N' l1 => h D h' c (List.range ks.length) F' ?_ l1 ⟨by simp, fun i hi => by simpa using hi, List.nodup_range, fun k hk => by simpa using hk, fun i j a b hij ha hb => ?_⟩
    · have e : ((List.range ks.length).map fun i => vs.getD i Value.none) = vs := by
        rw [← hlen]
        apply List.ext_getElem?
        intro i
        by_cases hi : i < vs.length
        · simp [hi]
        · simp [hi]
      rw [e]; exact N'
    · have := (List.getElem?_eq_some_iff.mp hb).1
      simp at this; lia
  · refine kat_sorted F N (N.isList hl) (by lia) (by lia) fun D e1 h' F' N' l1 => ?_
    have N2 : News h₀ L h' news := fun p hp => N' p (.tail _ hp)
    have tups : ∀ (vs : List Value) (ks : List PK), vs.length = ks.length → (∀ (i : Nat) v k, vs[i]? = some v → ks[i]? = some k → TupAt news v k) → ∃ fs, KatTups h' vs fs ∧ fs.length = vs.length ∧ ∀ f ∈ fs, ∃ p u, f = Value.int p u := by
      intro vs
      induction vs with
      | nil => intro ks hl _; exact ⟨[], .nil, rfl, fun _ h => nomatch h⟩
      | cons v vs ih =>
        intro ks hl hv
        cases ks with
        | nil => simp at hl
        | cons k ks =>
          try ((fail_if_success (with_reducible show Gz)); with_reducible (first | (refine letW ?_; intro Gz) | (refine letWC ?_; intro Gz)))
          refine Exists.elim (ih ks (by simpa using hl) (fun i v k h1 h2 => hv (i + 1) v k (by simpa using h1) (by simpa using h2))) ?_
          intro fs
          refine Mine.A3 ?_
          intro t hf
          intro hi
          try ((fail_if_success (with_reducible show Gz)); with_reducible (first | (refine letW ?_; intro Gz) | (refine letWC ?_; intro Gz)))
          refine Mine.E5 ?_ (hv 0 v k rfl rfl)
          intro a u1 u2 rest n
          refine And.elim ?_
          intro hR1
          subst hR1
          intro hm
          refine ⟨.int k.1 u1 :: fs, .cons (N2 _ hm).1 rfl rfl (by simp) t, by simp [hf], fun f hf => ?_⟩
          rcases List.mem_cons.mp hf with rfl | hf
          · exact Mine.I2 _ _ rfl
          · exact hi f hf
    try ((fail_if_success (with_reducible show Gz)); with_reducible (first | (refine letW ?_; intro Gz) | (refine letWC ?_; intro Gz)))
    refine Exists.elim (tups vs ks hlen hv) ?_
    intro fs
    refine Mine.A3 ?_
    intro t hf
    intro hi
    refine kat_kind (T := .type "int") t (by lia) (fun v hv => ?_) (by decide) ?_
    · try ((fail_if_success (with_reducible show Gz)); with_reducible (first | (refine letW ?_; intro Gz) | (refine letWC ?_; intro Gz)))
      refine Mine.E2 ?_ (hi v hv)
      intro p u
      intro hR2
      subst hR2
      exact Looks.of_pure rfl
    try ((fail_if_success (with_reducible show Gz)); with_reducible (first | (refine letW ?_; intro Gz) | (refine letWC ?_; intro Gz)))
    refine Mine.A3 ?_ (pkI_facts hn)
    intro f1 f2
    intro f3
    have tree := sort_ok (n := vs.length) (lt := pkI ks) f1 f2 (by rw [hlen]; exact f3) (by lia)
    refine TreeOk.wp (fun i j C hi hj hij hc => ?_) (fun p hp => ?_) tree
    · unfold kas_ask
      have e1 : vs.getD i Value.none = vs[i] := by simp [hi]
      have e2 : vs.getD j Value.none = vs[j] := by simp [hj]
      have hki := List.getElem?_eq_getElem (l := ks) (i := i) (by lia)
      have hkj := List.getElem?_eq_getElem (l := ks) (i := j) (by lia)
      refine Mine.E5 ?_ (hv i _ _ (List.getElem?_eq_getElem hi) hki)
      intro a u1 u2 rest n
      refine And.elim ?_
      intro ea
      intro hma
      refine Mine.E5 ?_ (hv j _ _ (List.getElem?_eq_getElem hj) hkj)
      intro b w1 w2 rest' n'
      refine And.elim ?_
      intro eb
      intro hmb
      have hkne : ks[i] ≠ ks[j] := fun e => hij ((List.getElem_inj hn).mp e)
      rw [e1, e2, ea, eb]
      have hcv : pkI ks i j = pkLt ks[i] ks[j] := by unfold pkI; rw [hki, hkj]
      rw [hcv] at hc
      refine kat_lt (N2 _ hma).1 rfl (N2 _ hmb).1 rfl ?_
      simp only [List.zip_cons_cons]
      refine kat_cons (wpAny_eqBool_int ?_)
      by_cases h1 : ks[i].1 = ks[j].1
      · rw [show (ks[i].1 == ks[j].1) = true by simpa using h1]
        refine kat_yes (kat_cons (wpAny_eqBool_str ?_))
        have h2 : ks[i].2 ≠ ks[j].2 := fun e => hkne (Prod.ext h1 e)
        rw [show decide (ks[i].2 = ks[j].2) = false by simpa using h2]
        refine kat_no ?_
        have hf : (true && (0 + 1 == 0)) = false := rfl
        rw [show ((Value.type "int" != Value.type "tuple") && (0 + 1 == 0)) = false by decide]
        refine kat_one _ _ (PyProof.Rows.lt_str ?_)
        unfold pkLt at hc
        rw [if_pos h1] at hc
        exact hc
      · rw [show (ks[i].1 == ks[j].1) = false by simpa using h1]
        refine kat_no ?_
        rw [show ((Value.type "int" != Value.type "tuple") && (0 == 0)) = true by decide]
        refine oneLt_int ?_
        unfold pkLt at hc
        rw [if_neg h1] at hc
        exact hc
    · have hs := Srt.of hp.1 hp.2
      rw [hlen] at hs
      exact KasFin.intro F' N' (.head fun p hp => Nat.ne_of_lt (l1 p hp)) fun h'' c F'' N'' => h D h'' c p.toList F'' N'' l1 hs
end
end Mine
end
/-! part P10 -/
section
open PySem PySem.W PyProof.Rows HeadC
namespace Mine
/-! the cheapest prices, sorted -/
theorem srt_at {α : Type} {L : List α} {d : α} {lt : Nat → Nat → Bool} {o : List Nat} (hS : Srt L.length lt o) {i : Nat} {a : α} (h : (o.map fun i => L.getD i d)[i]? = some a) : ∃ k, o[i]? = some k ∧ L[k]? = some a := by
  rw [List.getElem?_map, Option.map_eq_some_iff] at h
  refine Exists.elim h ?_
  clear h
  intro k
  refine And.elim ?_
  intro hk
  intro h
  have hkn := hS.low k (List.mem_of_getElem? hk)
  refine ⟨k, hk, ?_⟩
  rw [← h, List.getD_eq_getElem?_getD, List.getElem?_eq_getElem hkn]
  rfl
theorem srt_mem {α : Type} {L : List α} {d : α} {lt : Nat → Nat → Bool} {o : List Nat} (hS : Srt L.length lt o) {a : α} : a ∈ (o.map fun i => L.getD i d) ↔ a ∈ L := by
  constructor
  · intro h
    obtain ⟨i, hi⟩ := List.mem_iff_getElem?.mp h
    refine Exists.elim (srt_at hS hi) ?_
    intro k
    refine And.elim ?_
    intro _
    intro h2
    exact List.mem_of_getElem? h2
  · intro h
    obtain ⟨k, hk⟩ := List.mem_iff_getElem?.mp h
    have hkn := (List.getElem?_eq_some_iff.mp hk).1
    refine List.mem_map.mpr ⟨k, hS.all k hkn, ?_⟩
    rw [List.getD_eq_getElem?_getD, hk]; rfl
theorem srt_nodup {α β : Type} {L : List α} {d : α} {f : α → β} {lt : Nat → Nat → Bool} {o : List Nat} (hS : Srt L.length lt o) (hn : (L.map f).Nodup) : ((o.map fun i => L.getD i d).map f).Nodup := by
  have hp : ∀ (i j : Nat) (hi : i < (L.map f).length) (hj : j < (L.map f).length), i < j → (L.map f)[i] ≠ (L.map f)[j] := List.pairwise_iff_getElem.mp (List.nodup_iff_pairwise_ne.mp hn)
  rw [List.nodup_iff_pairwise_ne, List.pairwise_map, List.pairwise_map]
  refine (List.nodup_iff_pairwise_ne.mp hS.nodup).imp_of_mem fun {k l} hk hl hkl he => ?_
  have hk2 := hS.low k hk
  have hl2 := hS.low l hl
  have e : ∀ k, (h : k < L.length) → f (L.getD k d) = (L.map f)[k]'(by rw [List.length_map]; exact h) := fun k h => by
    rw [List.getElem_map, List.getD_eq_getElem?_getD, List.getElem?_eq_getElem h]; rfl
  rw [e k hk2, e l hl2] at he
  rcases Nat.lt_or_gt_of_ne hkl with h | h
  · exact hp k l _ _ h he
  · exact hp l k _ _ h he.symm
theorem least_sorted {st : W4} {c : Nm → Int} {L : List (W4 × Int)} {o : List Nat} (I : LInv st c L [] (fun _ _ => False)) (hS : Srt L.length (pkI (L.map fun e => ((e.2, e.1.txt) : PK))) o) : LeastOk st c (o.map fun i => L.getD i (st, 0)) where
  nodup := srt_nodup hS I.nodup
  path := fun e he => I.path e ((srt_mem hS).mp he)
  least := fun w p h => by
    refine Exists.elim (I.least h) ?_
    intro q
    refine And.elim ?_
    intro hq
    intro h1
    exact ⟨q, (srt_mem hS).mpr hq, h1⟩
  rise := fun i j a b hij ha hb => by
    refine Exists.elim (srt_at hS ha) ?_
    intro k
    refine And.elim ?_
    intro hk
    intro h1
    refine Exists.elim (srt_at hS hb) ?_
    intro l
    refine And.elim ?_
    intro hl
    intro h2
    have h3 := hS.sorted i j k l hij hk hl
    unfold pkI at h3
    rw [List.getElem?_map, List.getElem?_map, h1, h2] at h3
    have h4 : pkLt (a.2, a.1.txt) (b.2, b.1.txt) = true := h3
    unfold pkLt at h4
    split at h4 <;> rename_i e
    · exact Int.le_of_eq e
    · exact Int.le_of_lt (of_decide_eq_true h4)
end Mine
end
/-! part P11 -/
section
example : True := by w_top off; trivial
open PySem PySem.W PyProof.Rows HeadC
namespace Mine
/-! a way told on by one name -/
theorem rstrip_none (x : Str) (l : List Nat) (c : Nat) (hx : x.cps.toList = l ++ [c]) (hc : c ≠ 47) : Txt.rstripChars x "/" = x := by
  have hlen : x.length = l.length + 1 := by
    have := congrArg List.length hx
    simp [Str.length] at this ⊢; omega
  have hct : ∀ k, (Str.ofString "/").cps.contains k = (k == 47) := by
    intro k
    rw [← Array.contains_toList, slash_cps]
    simp [Bool.beq_eq_decide_eq]
  have hi : stripHi (Str.ofString "/").cps.contains true x 0 = l.length + 1 := by
    simp only [stripHi, if_true, List.drop_zero, hx, List.reverse_append, List.reverse_cons, List.reverse_nil, List.nil_append, List.cons_append]
    simp only [List.takeWhile_cons, hct, beq_iff_eq, hc, if_false]
    rw [hlen]
    simp
  have lo : stripLo (Str.ofString "/").cps.contains false x = 0 := rfl
  unfold Txt.rstripChars Txt.stripBy stripSame PySem.stripped
  rw [lo, hi]
  split
  · rfl
  · apply Str.ext_list
    rw [StrLaws.strSub_toList, hx]
    simp only [Nat.sub_zero, List.drop_zero]
    exact List.take_of_length_le (by simp)
theorem wk_last (m : Nm) (cs : Way) : ∃ l d, wk (m :: cs) = l ++ [d] ∧ d ≠ 47 := by
  rcases List.eq_nil_or_concat (m :: cs) with h | ⟨ds, d, h⟩
  · cases h
  · rw [List.concat_eq_append] at h
    refine Mine.I2 (((ds.map Nm.chr).flatMap fun c => [47, c]) ++ [47]) d.chr ⟨?_, Nm.chr_ne d⟩
    rw [h]; unfold wk; rw [List.map_append, List.map_cons, List.map_nil, wayL_snoc]; simp
theorem way_rstrip (cs : Way) : (Txt.rstripChars (waS cs) "/").cps.toList = (cs.map Nm.chr).flatMap fun c => [47, c] := by
  cases cs with
  | nil => decide +kernel
  | cons m cs =>
    refine Mine.E2 ?_ (wk_last m cs)
    intro l d
    refine And.elim ?_
    intro h
    intro hd
    rw [rstrip_none _ l d (by rw [waS_cps, h]) hd, waS_cps]
    rfl
theorem told_join (cs : Way) (n : Nm) (r : Str) (hr : Txt.rstripChars (waS cs) "/" = r) : (r ++ (Str.ofString "/")) ++ n.txt = waS (cs ++ [n]) := by
  subst hr
  have hn : n.txt.cps.toList = [n.chr] := by cases n <;> decide
  apply Str.ext_list
  rw [waS_cps, Str.cps_append, Array.toList_append, Str.cps_append, Array.toList_append, way_rstrip, hn]
  rw [show (Str.ofString "/").cps.toList = [47] from slash_cps]
  unfold wk
  rw [List.map_append, List.map_cons, List.map_nil, wayL_snoc]
  simp
end Mine
end
/-! part K5 -/
section
example : True := by w_top off; trivial
open PySem PySem.W PyProof.Rows HeadC
set_option maxRecDepth 100000
namespace Mine
theorem k_fill_nowK5 {w : World} : ∃ _ : Challenge.rw_pd0166_01 = Challenge.rw_pd0166_01, hd.heap_1 w.params = hd.heap_1 w.params := by
  k_fill
  exact ⟨rfl, rfl⟩
theorem TupAt.mono {news news' : List (Addr × Obj)} (hs : ∀ p ∈ news, p ∈ news') {v : Value} {k : PK} (h : TupAt news v k) : TupAt news' v k := by
  try ((fail_if_success (with_reducible show Gz)); with_reducible (first | (refine letW ?_; intro Gz) | (refine letWC ?_; intro Gz)))
  refine Mine.E5 ?_ h
  clear h
  intro a u1 u2 rest n
  refine And.elim ?_
  intro e1
  intro h1
  exact Mine.I5 a u1 u2 rest n ⟨e1, hs _ h1⟩
/-- a pair of a number and a str -/
noncomputable def PairAt (news : List (Addr × Obj)) (v : Value) (k : PK) : Prop := ∃ a u1 u2 n, v = .ref a ∧ (a, ({ cls := .type "tuple", data := .seq #[.int k.1 u1, .str k.2 u2] n } : Obj)) ∈ news
theorem PairAt.mono {news news' : List (Addr × Obj)} (hs : ∀ p ∈ news, p ∈ news') {v : Value} {k : PK} (h : PairAt news v k) : PairAt news' v k := by
  try ((fail_if_success (with_reducible show Gz)); with_reducible (first | (refine letW ?_; intro Gz) | (refine letWC ?_; intro Gz)))
  refine Mine.E4 ?_ h
  clear h
  intro a u1 u2 n
  refine And.elim ?_
  intro e1
  intro h1
  exact Mine.I4 a u1 u2 n ⟨e1, hs _ h1⟩
theorem PairAt.tup {news : List (Addr × Obj)} {v : Value} {k : PK} (h : PairAt news v k) : TupAt news v k := by
  try ((fail_if_success (with_reducible show Gz)); with_reducible (first | (refine letW ?_; intro Gz) | (refine letWC ?_; intro Gz)))
  refine Mine.E4 ?_ h
  clear h
  intro a u1 u2 n
  refine And.elim ?_
  intro e1
  intro h1
  exact Mine.I5 a u1 u2 [] n ⟨e1, h1⟩
theorem off1_mem {D : Addr} : ∀ {l : List (Addr × Obj)}, LCg.Off1 D l → ∀ p ∈ l, p.1 ≠ D
  | [], _, p, hp => nomatch hp
  | _ :: _, x, p, h => by
    rcases List.mem_cons.mp h with rfl | h
    · exact x.1
    · exact off1_mem x.2 p h
set_option maxHeartbeats 8000000 in
theorem c_told {prog : Program} {w : World} {mean : ExcName → Option Value} {mg mb : Str → Option Value} {news : List (Addr × Obj)} {st : W4} {c : Nm → Int} {dP : Addr} {oP : Obj} {t : Tok} (hP : (dP, oP) ∈ news) (hT : PriceTab prog w c dP oP) :
    CallC prog w mean mg mb 4 207 [.str st.txt t, .ref dP] news (fun r news' => ∃ D oD kvs T extra, r = .ref D ∧ news' = (D, oD) :: (extra ++ news) ∧ (D == sysModules) = false ∧ (∀ p ∈ extra ++ news, p.1 ≠ D) ∧ oD.IsDictOf (PySem.strKind prog w) kvs ∧ TabR (EntV (extra ++ news)) T kvs ∧ Fin1 st c T) := by
  intro dp un gd cn cs a ccd cl outer A₀ base h₀ L m s Q E B F X N T hk hdp hun hret
  refine wpAny_call ?_
  k_dflt (refine' code_defC ?k1 ?k2 ?k3 ?k4 ?k5 ?kA ?kF ?kK ?k6 ?k7 ?k8 ?k9 ?kB ?kD ?_ ?c2 ?c3 ?c4; (case kA => exact rfl); (case kF => exact rfl); (case kK => assumption); (case k1 => k_asm); (case k2 => k_asm); (case k3 => k_asm); (case k4 => k_asm); (case k5 => k_asm); (case k6 => k_is); (case k7 => k_is); (case k8 => ktr_room); (case k9 => exact BindsTo.of_eq rfl); (case kB => exact rfl); (case kD => decide +kernel); (case c2 => exact rfl); (case c3 => exact rfl); (case c4 => exact rfl); k_whole)
  intro g' L' h' tk' cells' FG F' N' Y' B' X' T' l1
  have hY := CellsAre.one Y'; obtain ⟨oC, hE', dC⟩ := hY; subst hE'; clear Y'
  simp only [List.cons_append, List.nil_append] at N'
  try dsimp only
  (first | refine letEnv ?_ | refine letEnvC ?_); intro Az envz Qz Ez
  (repeat ((fail_if_success (with_reducible show wpAny _ _ (PySem.call (Value.ref _) _) _ _ _)); walk1))
  have hLC : L' + 1 ≠ L' := Nat.succ_ne_self _
  have hnC : ∀ p ∈ news, p.1 < L' + 1 := fun p hp => Nat.lt_succ_of_lt (l1 p hp)
  try with_reducible (refine letW ?_; intro Gz)
  try ((fail_if_success (with_reducible show Gz)); with_reducible (first | (refine letW ?_; intro Gz) | (refine letWC ?_; intro Gz)))
  obtain ⟨C, hC⟩ : ∃ x, x = L' + 1 := ⟨_, rfl⟩
  rw [← hC] at hnC
  have hN0 : News g' L' h' ((C, oC) :: news) := by rw [hC]; exact N'
  refine CallC.use (by exact c_least (st := st) (t := t) (.tail _ hP) hT) B' F' X' hN0 T' rfl ?_ ?_ ?_
  · show dp + 1 + 3 < recursionLimit; lia
  · show un + 3 + 8 * 3 < cLine; lia
  rintro r news' h1 tk1 F1 N1 hz6
  try ((fail_if_success (with_reducible show Gz)); with_reducible (first | (refine letW ?_; intro Gz) | (refine letWC ?_; intro Gz)))
  refine Mine.E4 ?_ hz6
  clear hz6
  intro lD oL lkvs Lt
  refine Mine.A6 ?_
  intro hR1
  subst hR1
  intro hR2
  subst hR2
  intro lLow lNe lDict
  refine And.elim ?_
  intro lTab
  intro LI
  try ((fail_if_success (with_reducible show wpAny _ _ _ Qz _ _)); with_reducible (first | (refine letQ ?_; intro Qz) | (refine letQC ?_; intro Qz)))
  try ((fail_if_success (with_reducible show wpAny _ _ _ _ _ Sz)); with_reducible (first | (refine letS ?_; intro Sz) | (refine letSC ?_; intro Sz)))
  have hlC : C ≠ lD := lNe _ (.head _)
  refine storeX_C (o := oC) (c := C) F1 N1 (by rw [hC]; rfl) (.tail (Ne.symm hlC) (.head fun p hp => Nat.ne_of_lt (hnC p hp))) dC ?_ rfl rfl
  intro h2 oC2 F2 N2 dC2
  refine frsG F2 (l := [("start", .str st.txt t), ("prices", .ref dP)]) ⟨rfl, rfl, trivial⟩ ?_; clear F2; intro _ F2
  iterate 2 walk1
  refine kdn_eval (knd := PySem.strKind prog w) F2 N2 (Top.nolimit T') (by rfl) (by rfl) (List.cons_ne_nil _ _) (by decide) ?_
  intro D h3 o3 F3 N3 l3 lo hd3
  iterate 10 walk1
  rename_i aT h4 F4 N4 l4
  refine kdn_made_str F4 N4 (.tail (Nat.ne_of_gt l4.1) (.head fun p hp => Nat.ne_of_lt (l3 p hp))) hd3 rfl (by show List.Nodup [st.txt]; simp) ?_
  intro h5 o5 F5 N5 hd5
  replace hd5 : o5.IsDictOf (PySem.strKind prog w) [(st.txt, .ref aT)] := hd5
  (repeat ((fail_if_success (with_reducible show wpAny _ _ (PySem.exec (Stmt.For _ _ _ _ _) _) _ _ _)); walk1))
  rename_i h6 F6 N6
  refine wpAny_For ?_
  (repeat ((fail_if_success (with_reducible show wpAny _ _ (PySem.eval (PySem.Expr.ListComp _ _ _ _) _) _ _ _)); walk1))
  try with_reducible (refine letW ?_; intro Gz)
  try ((fail_if_success (with_reducible show Gz)); with_reducible (first | (refine letW ?_; intro Gz) | (refine letWC ?_; intro Gz)))
  obtain ⟨n, hn⟩ : ∃ n, lkvs.length = n := ⟨_, rfl⟩
  have hLlen : Lt.length = n := by rw [← hn, lTab.len]
  have hn24 : n ≤ 24 := by rw [← hLlen]; exact LI.size
  try with_reducible (refine letW ?_; intro Gz)
  try ((fail_if_success (with_reducible show Gz)); with_reducible (first | (refine letW ?_; intro Gz) | (refine letWC ?_; intro Gz)))
  obtain ⟨base, N7, hEnt, hlM, hCM, ⟨ex0, hex0⟩, hDb⟩ : ∃ base, News g' L' h6 ((D, o5) :: base) ∧ EntV base (0, []) (.ref aT) ∧ (lD, oL) ∈ base ∧ (C, oC2) ∈ base ∧ (∃ ex, base = ex ++ news) ∧ ∀ p ∈ base, p.1 ≠ D := by
    refine ⟨_, News.swap N6, Mine.I4 aT _ _ _ ⟨rfl, .head _⟩, .tail _ (.head _), .tail _ (.tail _ (.head _)), ⟨[_, _, _], rfl⟩, ?_⟩
    intro p hp
    rcases List.mem_cons.mp hp with rfl | hp
    · exact Nat.ne_of_gt l4.1
    · exact Nat.ne_of_lt (l3 p hp)
  refine comp_src (cl := [("least", C)]) F6 (by rw [hC]; rfl) (by decide) (by rfl) (by decide) (by rfl) ?_
  refine nameX_C (o := oC2) (c := C) N6 (by rw [hC]; rfl) (.tail _ (.tail _ (.tail _ (.head _)))) dC2 ?_ rfl rfl
  refine CSrc.intro N7 (src_dict (kvs := lkvs) rfl F6 N7 (.tail _ hlM) lDict lLow) (fun p hp => .inr (by rw [List.mem_singleton.mp hp]; exact .tail _ hlM)) (by rw [sizeLine_eq, hn]; lia) ?_
  rw [hn]
  intro g tk2
  refine comp_rest_inv (fun i ys nw => ∃ ex, nw = ex ++ (D, o5) :: base ∧ ys.length = i ∧ (∀ p ∈ ex, p.1 ≠ D) ∧ ∀ (j : Nat) y, ys[j]? = some y → ∃ x p, Lt[j]? = some (x, p) ∧ PairAt ex y (p, x.txt)) ?_ ?_ n 0 [] _ (Nat.zero_add n) ⟨[], rfl, rfl, (fun _ h => nomatch h), fun j y h => by simp at h⟩
  · rintro i ys nw v I oI Cc oCc Dc m₂ h tk E' hi hz14 hz15 hCc hx F N off ne
    try ((fail_if_success (with_reducible show Gz)); with_reducible (first | (refine letW ?_; intro Gz) | (refine letWC ?_; intro Gz)))
    refine Exists.elim hz14 ?_
    clear hz14
    intro ex
    refine Mine.A4 ?_
    intro hnw hyl hxD
    intro hys
    refine Mine.E3 ?_ hz15
    clear hz15
    intro k x u
    refine And.elim ?_
    intro hk
    intro hR3
    subst hR3
    try ((fail_if_success (with_reducible show wpAny _ _ _ Qz _ _)); with_reducible (first | (refine letQ ?_; intro Qz) | (refine letQC ?_; intro Qz)))
    try ((fail_if_success (with_reducible show wpAny _ _ _ _ _ Sz)); with_reducible (first | (refine letS ?_; intro Sz) | (refine letSC ?_; intro Sz)))
    refine letQ ?_; intro Qz
    try with_reducible (refine letW ?_; intro Gz)
    try ((fail_if_success (with_reducible show Gz)); with_reducible (first | (refine letW ?_; intro Gz) | (refine letWC ?_; intro Gz)))
    refine Mine.E2 ?_ (lTab.at hk)
    intro w' p
    refine Mine.A3 ?_
    intro hL hR4
    subst hR4
    refine fun hq => Exists.elim hq ?_; clear hq
    intro ux
    intro hR5
    subst hR5
    subst hnw
    try with_reducible (refine letW ?_; intro Gz)
    try ((fail_if_success (with_reducible show Gz)); with_reducible (first | (refine letW ?_; intro Gz) | (refine letWC ?_; intro Gz)))
    refine Exists.elim (lTab.here LI.nodup (List.mem_of_getElem? hL)) ?_
    intro vq
    refine And.elim ?_
    intro hvq
    refine fun hq => Exists.elim hq ?_; clear hq
    intro tq
    intro hR6
    subst hR6
    iterate 3 walk1
    refine lcf_cell (o := oC2) (c := C) N (by rfl) (.tail _ (.tail _ (.tail _ (List.mem_append_right _ (.tail _ hCM))))) dC2 ?_ (by rfl) (by rfl)
    (repeat ((fail_if_success (with_reducible show wpAny _ _ (PySem.subscriptTail _ _ _ _) _ _ _)); walk1))
    refine kda_item N (.tail _ (.tail _ (.tail _ (List.mem_append_right _ (.tail _ hlM))))) lDict (strKind_is _ _ _ _) hvq ?_
    iterate 4 walk1
    rename_i aY hY FY NY lY
    try with_reducible (refine letW ?_; intro Gz)
    try ((fail_if_success (with_reducible show Gz)); with_reducible (first | (refine letW ?_; intro Gz) | (refine letWC ?_; intro Gz)))
    refine Exists.elim (Mine.News.named NY) ?_
    intro oY
    refine And.elim ?_
    intro hoY
    intro NY
    refine LCg.CompEnd.intro FY NY ((aY, oY) :: (ex ++ (D, o5) :: base)) (fun q hq => ?_) ⟨⟨Nat.ne_of_gt lY.1, Nat.ne_of_gt lY.2.1, Nat.ne_of_gt lY.2.2.1⟩, off⟩ (fun q hq => .inr (by rw [List.mem_singleton.mp hq]; exact .tail _ (List.mem_append_right _ (.tail _ hlM)))) ⟨(aY, oY) :: ex, rfl, by simp [hyl], (fun q hq => ?_), fun j y hj => ?_⟩
    · rcases List.mem_cons.mp hq with rfl | hq
      · exact .tail _ (.head _)
      rcases List.mem_cons.mp hq with rfl | hq
      · exact .tail _ (.tail _ (.head _))
      rcases List.mem_cons.mp hq with rfl | hq
      · exact .tail _ (.tail _ (.tail _ (.head _)))
      rcases List.mem_cons.mp hq with rfl | hq
      · exact .head _
      · exact .tail _ (.tail _ (.tail _ (.tail _ hq)))
    · rcases List.mem_cons.mp hq with rfl | hq
      · exact Nat.ne_of_gt (allLt_mem _ lY.2.2.2 (D, o5) (List.mem_append_right _ (.head _)))
      · exact hxD q hq
    · rcases Nat.lt_or_ge j i with hji | hji
      · rw [List.getElem?_append_left (by lia)] at hj
        try with_reducible (refine letW ?_; intro Gz)
        try ((fail_if_success (with_reducible show Gz)); with_reducible (first | (refine letW ?_; intro Gz) | (refine letWC ?_; intro Gz)))
        refine Mine.E2 ?_ (hys j y hj)
        intro x q
        refine And.elim ?_
        intro h1
        intro h2
        exact Mine.I2 x q ⟨h1, h2.mono fun q hq => .tail _ hq⟩
      · rw [List.getElem?_append_right (by lia), hyl] at hj
        have hji' : j = i := by
          rcases Nat.eq_or_lt_of_le hji with h | h
          · exact h.symm
          · try ((fail_if_success (with_reducible show Gz)); with_reducible (first | (refine letW ?_; intro Gz) | (refine letWC ?_; intro Gz)))
            obtain ⟨k, hk⟩ : ∃ k, j - i = k + 1 := ⟨j - i - 1, by lia⟩
            rw [hk] at hj; simp at hj
        subst hji'
        rw [Nat.sub_self] at hj
        cases hj
        exact Mine.I2 w' p ⟨hL, Mine.I4 aY _ _ _ ⟨rfl, by rw [hoY]; exact .head _⟩⟩
  · rintro ys nw hz2
    try ((fail_if_success (with_reducible show Gz)); with_reducible (first | (refine letW ?_; intro Gz) | (refine letWC ?_; intro Gz)))
    refine Exists.elim hz2 ?_
    clear hz2
    intro ex
    refine Mine.A4 ?_
    intro hnw hyl hxD
    intro hys
    try ((fail_if_success (with_reducible show wpAny _ _ _ Qz _ _)); with_reducible (first | (refine letQ ?_; intro Qz) | (refine letQC ?_; intro Qz)))
    try ((fail_if_success (with_reducible show wpAny _ _ _ _ _ Sz)); with_reducible (first | (refine letS ?_; intro Sz) | (refine letSC ?_; intro Sz)))
    intro lY h7 tk7 F7 N8 off
    refine letQ ?_; intro Qz
    iterate 1 walk1
    have hks : (Lt.map fun e => ((e.2, e.1.txt) : PK)).Nodup := by
      have := LI.nodup
      rw [List.nodup_iff_pairwise_ne, List.pairwise_map] at this ⊢
      exact this.imp fun h e => h (W4.txt_inj (congrArg Prod.snd e))
    refine sorted_tups (vs := ys) (ks := Lt.map fun e => ((e.2, e.1.txt) : PK)) F7 N8 (.head _) (by rw [List.length_map, hLlen, hyl]) (by rw [List.length_map]; lia) hks (by show un + 3 + 1 + 1 < cLine; lia) (fun i v k hv hk => ?_) ?_
    · try ((fail_if_success (with_reducible show Gz)); with_reducible (first | (refine letW ?_; intro Gz) | (refine letWC ?_; intro Gz)))
      refine Mine.E2 ?_ (hys i v hv)
      intro x p
      refine And.elim ?_
      intro h1
      intro h2
      rw [List.getElem?_map, h1] at hk
      cases hk
      rw [hnw]
      exact (h2.mono fun q hq => .tail _ (List.mem_append_left _ hq)).tup
    intro sD h8 sc o F8 N9 lsD hSrt
    rw [List.length_map, hLlen] at hSrt
    generalize hvs : (o.map fun i => ys.getD i Value.none) = vs at N9
    generalize hLs : (o.map fun i => Lt.getD i (st, 0)) = Ls
    have hlenS : vs.length = n := by rw [← hvs, List.length_map, hSrt.len]
    have hat : ∀ (i : Nat) v, vs[i]? = some v → ∃ x p, Ls[i]? = some (x, p) ∧ PairAt ex v (p, x.txt) := by
      intro i v hv
      rw [← hvs, List.getElem?_map, Option.map_eq_some_iff] at hv
      try with_reducible (refine letW ?_; intro Gz)
      try ((fail_if_success (with_reducible show Gz)); with_reducible (first | (refine letW ?_; intro Gz) | (refine letWC ?_; intro Gz)))
      refine Exists.elim hv ?_
      clear hv
      intro k
      refine And.elim ?_
      intro hk
      intro hR7
      subst hR7
      have hkn : k < n := hSrt.low k (List.mem_of_getElem? hk)
      try with_reducible (refine letW ?_; intro Gz)
      try ((fail_if_success (with_reducible show Gz)); with_reducible (first | (refine letW ?_; intro Gz) | (refine letWC ?_; intro Gz)))
      obtain ⟨y, hy⟩ : ∃ y, ys[k]? = some y := ⟨_, List.getElem?_eq_getElem (by lia)⟩
      try with_reducible (refine letW ?_; intro Gz)
      try ((fail_if_success (with_reducible show Gz)); with_reducible (first | (refine letW ?_; intro Gz) | (refine letWC ?_; intro Gz)))
      refine Mine.E2 ?_ (hys k y hy)
      intro x p
      refine And.elim ?_
      intro h1
      intro h2
      refine Mine.I2 x p ⟨?_, ?_⟩
      · rw [← hLs, List.getElem?_map, hk, Option.map_some, List.getD_eq_getElem?_getD, h1]; rfl
      · rw [List.getD_eq_getElem?_getD, hy]; exact h2
    have hO : LeastOk st c Ls := by
      rw [← hLs]
      rw [← hLlen] at hSrt
      exact least_sorted LI hSrt
    have hmemL : ∀ e, e ∈ Ls ↔ e ∈ Lt := fun e => by
      rw [← hLs]
      rw [← hLlen] at hSrt
      exact srt_mem hSrt
    have hlenL : Ls.length = n := by rw [← hLs, List.length_map, hSrt.len]
    subst hnw
    have hDW : ∀ p ∈ (sD, PySem.W.listOf vs.toArray sc) :: (lY, LCg.lst ys) :: (ex ++ base), p.1 ≠ D := by
      intro p hp
      rcases List.mem_cons.mp hp with rfl | hp
      · exact Nat.ne_of_gt (lsD (D, o5) (.tail _ (List.mem_append_right _ (.head _))))
      rcases List.mem_cons.mp hp with rfl | hp
      · exact Ne.symm (off1_mem off (D, o5) (List.mem_append_right _ (.head _)))
      rcases List.mem_append.mp hp with hp | hp
      · exact hxD p hp
      · exact hDb p hp
    generalize hW : (sD, PySem.W.listOf vs.toArray sc) :: (lY, LCg.lst ys) :: (ex ++ base) = WL at hDW
    have N10 : News g' L' h8 ((D, o5) :: WL) := fun p hp => N9 p (by
      rw [← hW] at hp
      rcases List.mem_cons.mp hp with rfl | hp
      · exact .tail _ (.tail _ (List.mem_append_right _ (.head _)))
      rcases List.mem_cons.mp hp with rfl | hp
      · exact .head _
      rcases List.mem_cons.mp hp with rfl | hp
      · exact .tail _ (.head _)
      rcases List.mem_append.mp hp with hp | hp
      · exact .tail _ (.tail _ (List.mem_append_left _ hp))
      · exact .tail _ (.tail _ (List.mem_append_right _ (.tail _ hp))))
    have hsM : (sD, PySem.W.listOf vs.toArray sc) ∈ WL := by rw [← hW]; exact .head _
    have hexW : ∀ p ∈ ex, p ∈ WL := by
      intro p hp
      rw [← hW]
      exact .tail _ (.tail _ (List.mem_append_left _ hp))
    have hbW : ∀ p ∈ base, p ∈ WL := by
      intro p hp
      rw [← hW]
      exact .tail _ (.tail _ (List.mem_append_right _ hp))
    refine iter_loopT (fun i m1 news1 => ∃ (T : List Ent) (oD : Obj) (kvs : List (Str × Value)) (extra : List (Addr × Obj)), news1 = (D, oD) :: (extra ++ WL) ∧ Has m1 [("prices", .ref dP), ("told", .ref D)] ∧ oD.IsDictOf (PySem.strKind prog w) kvs ∧ TabR (EntV (extra ++ WL)) T kvs ∧ TInv st c Ls i T ∧ (∀ p ∈ extra, p.1 ≠ D) ∧ T.length ≤ i + 1)
      (fun m1 news1 => ∃ (T : List Ent) (oD : Obj) (kvs : List (Str × Value)) (extra : List (Addr × Obj)), news1 = (D, oD) :: (extra ++ WL) ∧ Has m1 [("told", .ref D)] ∧ oD.IsDictOf (PySem.strKind prog w) kvs ∧ TabR (EntV (extra ++ WL)) T kvs ∧ Fin1 st c T ∧ (∀ p ∈ extra, p.1 ≠ D))
      (srcT_list rfl F8 N10 (.tail _ hsM)) (fun p hp => .inr fun i m₁ news₁ hJ => by
        try with_reducible (refine letW ?_; intro Gz)
        try ((fail_if_success (with_reducible show Gz)); with_reducible (first | (refine letW ?_; intro Gz) | (refine letWC ?_; intro Gz)))
        refine Mine.E4 ?_ hJ
        clear hJ
        intro _ _ _ _
        refine And.elim ?_
        intro hR8
        subst hR8
        intro _
        rw [List.mem_singleton.mp hp]
        exact .tail _ (List.mem_append_right _ hsM)) (Mine.I4 [(st, 0, [])] o5 _ [] ⟨rfl, ⟨rfl, rfl, trivial⟩, hd5, .cons (EntV.mono hbW _ _ hEnt) .nil, TInv.init hT.pos hO, (fun _ h => nomatch h), Nat.le_refl _⟩) ?_ ?_ ?_
    · rintro i v m2 news2 h9 tk9 it oI hi hv hlt hnI hz12 F9 N9
      try ((fail_if_success (with_reducible show Gz)); with_reducible (first | (refine letW ?_; intro Gz) | (refine letWC ?_; intro Gz)))
      refine Mine.E4 ?_ hz12
      clear hz12
      intro T oD kvs extra
      refine Mine.A6 ?_
      intro hR9
      subst hR9
      intro hm2 hd9 hT9 I9
      refine And.elim ?_
      intro hxE
      intro hTl
      try ((fail_if_success (with_reducible show wpAny _ _ _ Qz _ _)); with_reducible (first | (refine letQ ?_; intro Qz) | (refine letQC ?_; intro Qz)))
      try ((fail_if_success (with_reducible show wpAny _ _ _ _ _ Sz)); with_reducible (first | (refine letS ?_; intro Sz) | (refine letSC ?_; intro Sz)))
      try with_reducible (refine letW ?_; intro Gz)
      try ((fail_if_success (with_reducible show Gz)); with_reducible (first | (refine letW ?_; intro Gz) | (refine letWC ?_; intro Gz)))
      refine Mine.E2 ?_ (hat i v hv)
      intro x p
      refine And.elim ?_
      intro hLi
      refine Mine.E4 ?_
      intro aV u1 u2 nV
      refine And.elim ?_
      intro hR10
      subst hR10
      intro hVm
      have hVW := hexW _ hVm
      have hTup := News.isTup N9 (.tail _ (.tail _ (List.mem_append_right _ hVW)))
      refine letQ ?_; intro Qz
      refine frsG F9 hm2 ?_; clear F9; intro _ F9
      (repeat ((fail_if_success (with_reducible show wpAny _ _ (PySem.exec (Stmt.For _ _ _ _ _) _) _ _ _)); walk1))
      rename_i wy h10 l10 h11 F11 N11
      have hxLt : (x, p) ∈ Lt := (hmemL _).mp (List.mem_of_getElem? hLi)
      try with_reducible (refine letW ?_; intro Gz)
      try ((fail_if_success (with_reducible show Gz)); with_reducible (first | (refine letW ?_; intro Gz) | (refine letWC ?_; intro Gz)))
      refine Exists.elim hT.dict ?_
      intro pk
      refine And.elim ?_
      intro hpk
      intro hpv
      refine wpAny_For ?_
      iterate 1 walk1
      refine iter_loop (fun j m1 news1 => ∃ (wl : List Way) (rs : List Value) (nr : Nat), news1 = (wy, listOf rs.toArray nr) :: (it, oI) :: (D, oD) :: (extra ++ WL) ∧ Has m1 [("price", .int p u1), ("text", .str x.txt u2), ("prices", .ref dP), ("told", .ref D), ("ways", .ref wy)] ∧
          StrsAre rs (wl.map waS) ∧ (∀ cs ∈ wl, ∃ n f, f ∈ T ∧ f.1 = turn n x ∧ f.2.1 + c n = p ∧ cs = f.2.2 ++ [n]) ∧ (∀ n f, f ∈ T → f.1 = turn n x → f.2.1 + c n = p → n ∈ nms.drop j ∨ f.2.2 ++ [n] ∈ wl) ∧ wl.length ≤ j)
        (fun m1 news1 => ∃ (wl : List Way) (rs : List Value) (nr : Nat), news1 = (wy, listOf rs.toArray nr) :: (it, oI) :: (D, oD) :: (extra ++ WL) ∧ Has m1 [("price", .int p u1), ("text", .str x.txt u2), ("prices", .ref dP), ("told", .ref D), ("ways", .ref wy)] ∧
          StrsAre rs (wl.map waS) ∧ (∀ cs ∈ wl, ∃ n f, f ∈ T ∧ f.1 = turn n x ∧ f.2.1 + c n = p ∧ cs = f.2.2 ++ [n]) ∧ (∀ n f, f ∈ T → f.1 = turn n x → f.2.1 + c n = p → f.2.2 ++ [n] ∈ wl) ∧ wl.length ≤ 3)
        (src_str rfl (by decide +kernel) F11 N11) (fun _ h => nomatch h) (Mine.I3 [] [] _ ⟨rfl, ⟨rfl, rfl, rfl, rfl, rfl, trivial⟩, .nil, (fun _ h => nomatch h), (fun n f _ _ _ => .inl (nms_all n)), Nat.le_refl _⟩) ?_ ?_ ?_
      · rintro j v m3 news3 h12 tk12 it2 oI2 hj hv3 hlt3 hnI3 hz12 F12 N12
        try ((fail_if_success (with_reducible show Gz)); with_reducible (first | (refine letW ?_; intro Gz) | (refine letWC ?_; intro Gz)))
        refine Mine.E3 ?_ hz12
        clear hz12
        intro wl rs nr
        refine Mine.A6 ?_
        intro hR11
        subst hR11
        intro hm3 hrs hw1 hw2
        intro hwl
        try ((fail_if_success (with_reducible show wpAny _ _ _ Qz _ _)); with_reducible (first | (refine letQ ?_; intro Qz) | (refine letQC ?_; intro Qz)))
        try ((fail_if_success (with_reducible show wpAny _ _ _ _ _ Sz)); with_reducible (first | (refine letS ?_; intro Sz) | (refine letSC ?_; intro Sz)))
        try with_reducible (refine letW ?_; intro Gz)
        try ((fail_if_success (with_reducible show Gz)); with_reducible (first | (refine letW ?_; intro Gz) | (refine letWC ?_; intro Gz)))
        refine Mine.E2 ?_ (nms_at hv3)
        intro k un'
        refine And.elim ?_
        intro hn3
        intro hR12
        subst hR12
        refine letQ ?_; intro Qz
        refine frsG F12 (l := [("name", .str k.txt un'), ("price", .int p u1), ("text", .str x.txt u2), ("prices", .ref dP), ("told", .ref D), ("ways", .ref wy)]) ⟨rfl, hm3.1, hm3.2.1, hm3.2.2.1, hm3.2.2.2.1, hm3.2.2.2.2.1, trivial⟩ ?_; clear F12; intro _ F12
        (repeat ((fail_if_success (with_reducible show wpAny _ _ (PySem.call (Value.ref _) _) _ _ _)); walk1))
        refine CallC.use (by exact c_order (x := x) (n := k) (t := u2) (u := un')) B' F12 X' N12 T' rfl ?_ ?_ ?_
        · show dp + 1 + 1 < recursionLimit; lia
        · show un + 3 + 8 * 1 < cLine; lia
        rintro r news' h13 tk13 F13 N13 hz6
        try ((fail_if_success (with_reducible show Gz)); with_reducible (first | (refine letW ?_; intro Gz) | (refine letWC ?_; intro Gz)))
        obtain ⟨⟨t13, rfl⟩, rfl⟩ := hz6
        try ((fail_if_success (with_reducible show wpAny _ _ _ Qz _ _)); with_reducible (first | (refine letQ ?_; intro Qz) | (refine letQC ?_; intro Qz)))
        try ((fail_if_success (with_reducible show wpAny _ _ _ _ _ Sz)); with_reducible (first | (refine letS ?_; intro Sz) | (refine letSC ?_; intro Sz)))
        (repeat ((fail_if_success (with_reducible show wpAny _ _ (PySem.eval (PySem.Expr.Name (Str.ofString "least") _) _) _ _ _)); walk1))
        rename_i h14 F14 N14
        have hmC : ∀ q ∈ WL, q ∈ (it2, oI2) :: (wy, listOf rs.toArray nr) :: (it, oI) :: (D, oD) :: (extra ++ WL) := fun q hq => .tail _ (.tail _ (.tail _ (.tail _ (List.mem_append_right _ hq))))
        refine nameX_C (o := oC2) (c := C) N14 (by rw [hC]; rfl) (hmC _ (hbW _ hCM)) dC2 ?_ rfl rfl
        try with_reducible (refine letW ?_; intro Gz)
        try ((fail_if_success (with_reducible show Gz)); with_reducible (first | (refine letW ?_; intro Gz) | (refine letWC ?_; intro Gz)))
        obtain ⟨q, hq⟩ : ∃ q, (turn k x, q) ∈ Lt := by
          try with_reducible (refine letW ?_; intro Gz)
          try ((fail_if_success (with_reducible show Gz)); with_reducible (first | (refine letW ?_; intro Gz) | (refine letWC ?_; intro Gz)))
          refine Exists.elim (LI.least (.step k (LI.path _ hxLt))) ?_
          intro q
          refine And.elim ?_
          intro hq
          intro _
          exact ⟨q, hq⟩
        try with_reducible (refine letW ?_; intro Gz)
        try ((fail_if_success (with_reducible show Gz)); with_reducible (first | (refine letW ?_; intro Gz) | (refine letWC ?_; intro Gz)))
        refine Exists.elim (lTab.here LI.nodup hq) ?_
        intro vq
        refine And.elim ?_
        intro hvq
        refine fun hq => Exists.elim hq ?_; clear hq
        intro tq
        intro hR13
        subst hR13
        try with_reducible (refine letW ?_; intro Gz)
        try ((fail_if_success (with_reducible show Gz)); with_reducible (first | (refine letW ?_; intro Gz) | (refine letWC ?_; intro Gz)))
        obtain ⟨tp, hpv⟩ := hpv k
        (repeat ((fail_if_success (with_reducible show wpAny _ _ (PySem.subscriptTail _ _ _ _) _ _ _)); walk1))
        refine kda_item N14 (hmC _ (hbW _ hlM)) lDict (strKind_is _ _ _ _) hvq ?_
        (repeat ((fail_if_success (with_reducible show wpAny _ _ (PySem.subscriptTail _ _ _ _) _ _ _)); walk1))
        refine kda_item N14 (hmC _ (hbW _ (by rw [hex0]; exact List.mem_append_right _ hP))) hpk (strKind_is _ _ _ _) hpv ?_
        (repeat ((fail_if_success (with_reducible show wpAny _ _ (PySem.compareOp _ _ _) _ _ _)); walk1))
        iterate 2 walk1
        by_cases heq : q + c k = p
        · refine ifP (by simpa using heq) ?_
          try with_reducible (refine letW ?_; intro Gz)
          try ((fail_if_success (with_reducible show Gz)); with_reducible (first | (refine letW ?_; intro Gz) | (refine letWC ?_; intro Gz)))
          refine Exists.elim (I9.near hT.pos hO hLi ((hmemL _).mpr hq) heq) ?_
          intro hN14
          obtain ⟨_, q', cs⟩ := hN14
          refine Mine.A3 ?_
          intro hf hR15
          subst hR15
          intro hR16
          subst hR16
          try with_reducible (refine letW ?_; intro Gz)
          try ((fail_if_success (with_reducible show Gz)); with_reducible (first | (refine letW ?_; intro Gz) | (refine letWC ?_; intro Gz)))
          refine Exists.elim (hT9.here I9.nodup hf) ?_
          intro _
          refine And.elim ?_
          intro hvf
          refine Mine.E4 ?_
          intro af uf1 uf2 nf
          refine And.elim ?_
          intro hR17
          subst hR17
          intro hfm
          (repeat ((fail_if_success (with_reducible show wpAny _ _ (PySem.subscriptTail _ _ _ _) _ _ _)); walk1))
          refine kda_item N14 (.tail _ (.tail _ (.tail _ (.head _)))) hd9 (strKind_is _ _ _ _) hvf ?_
          (repeat ((fail_if_success (with_reducible show wpAny _ _ (PySem.subscriptTail _ _ _ _) _ _ _)); walk1))
          refine item_tupleT (News.isTup N14 (.tail _ (.tail _ (.tail _ (.tail _ hfm))))) (by decide) (by decide) rfl rfl ?_
          have hcl : cs.length ≤ 25 := by have := I9.len _ hf; dsimp only at this; lia
          have hwl2 : (waS cs).length ≤ 100 := by rw [waS_len]; split <;> lia
          try with_reducible (refine letW ?_; intro Gz)
          try ((fail_if_success (with_reducible show Gz)); with_reducible (first | (refine letW ?_; intro Gz) | (refine letWC ?_; intro Gz)))
          obtain ⟨r, hr⟩ : ∃ r, Txt.rstripChars (waS cs) "/" = r := ⟨_, rfl⟩
          have hrl : r.length ≤ 100 := by rw [← hr]; exact Nat.le_trans (len_rstripChars _ _) hwl2
          (repeat ((fail_if_success (with_reducible show wpAny _ _ (PySem.call (Value.builtin _) _) _ _ _)); walk1))
          refine KXw.rstripChars hr (by rw [sizeLine_eq]; lia) (fun t15 tk15 => ?_)
          iterate 3 walk1
          refine add_str (fun t16 tk16 => ?_) (by
            rw [sizeLine_eq, show k.txt.length = 1 by cases k <;> rfl, show (r ++ Str.ofString "/").length = r.length + 1 from strLen_append _ _]
            lia)
          rw [told_join cs k r hr]
          iterate 1 walk1
          have hnw0 : it2 ≠ wy := (hnI3 _ (.head _)).symm
          have hnI3' : ∀ p ∈ (wy, listOf (rs.toArray.push (.str (waS (cs ++ [k])) t16)) (nr + 1)) :: (it, oI) :: (D, oD) :: (extra ++ WL), p.1 ≠ it2 := fun p hp => by
            rcases List.mem_cons.mp hp with rfl | hp
            · exact hnw0.symm
            · exact hnI3 p (.tail _ hp)
          refine append_K F14 N14 (Upd.tail hnw0 (Upd.head fun p hp => ?_)) (fun h15 F15 N15 => ?_) (by rw [sizeLine_eq, List.size_toArray]; have := hrs.length; rw [List.length_map] at this; have hj3 : j < 3 := hj; lia)
          · rcases List.mem_cons.mp hp with rfl | hp
            · exact Nat.ne_of_lt l10.1
            rcases List.mem_cons.mp hp with rfl | hp
            · exact Nat.ne_of_lt l10.2.1
            · exact Nat.ne_of_lt (allLt_mem _ l10.2.2 p hp)
          refine wpAny_execs_nil ?_
          try dsimp only
          refine wpAny_execs_nil ?_
          refine Mine.I4 _ _ _ _ ⟨rfl, F15, N15, hnI3', Mine.I3 (wl ++ [cs ++ [k]]) (rs ++ [.str (waS (cs ++ [k])) t16]) (nr + 1) ⟨by simp, ⟨rfl, rfl, rfl, rfl, rfl, trivial⟩, ?_, ?_, ?_, by rw [List.length_append, List.length_singleton]; lia⟩⟩
          · rw [List.map_append]; exact strs_snoc hrs
          · intro cs' hcs'
            rcases List.mem_append.mp hcs' with h | h
            · exact hw1 cs' h
            · exact Mine.I2 k _ ⟨hf, rfl, heq, List.mem_singleton.mp h⟩
          · intro n f hf' e1 e2
            rcases hw2 n f hf' e1 e2 with h | h
            · by_cases hne : n = k
              · subst hne
                have := ent_uniq I9.nodup hf' hf e1
                subst this
                exact .inr (List.mem_append_right _ (.head _))
              · exact .inl (nms_drop hn3 h hne)
            · exact .inr (List.mem_append_left _ h)
        · refine ifN (by simpa using heq) ?_
          refine wpAny_execs_nil ?_
          try dsimp only
          refine wpAny_execs_nil ?_
          refine Mine.I4 _ _ _ _ ⟨rfl, F14, N14, hnI3, Mine.I3 wl rs nr ⟨rfl, ⟨rfl, rfl, rfl, rfl, rfl, trivial⟩, hrs, hw1, ?_, by lia⟩⟩
          intro n f hf' e1 e2
          rcases hw2 n f hf' e1 e2 with h | h
          · by_cases hne : n = k
            · subst hne
              have := I9.mem f hf'
              rw [e1] at this
              have := pr_uniq LI.nodup ((hmemL _).mp this) hq
              rw [this] at e2
              exact (heq e2).elim
            · exact .inl (nms_drop hn3 h hne)
          · exact .inr h
      · rintro m3 news3 hz2
        try ((fail_if_success (with_reducible show Gz)); with_reducible (first | (refine letW ?_; intro Gz) | (refine letWC ?_; intro Gz)))
        refine Mine.E3 ?_ hz2
        clear hz2
        intro wl rs nr
        refine Mine.A6 ?_
        intro hR18
        subst hR18
        intro hm3 hrs hw1 hw2
        intro hwl
        try ((fail_if_success (with_reducible show wpAny _ _ _ Qz _ _)); with_reducible (first | (refine letQ ?_; intro Qz) | (refine letQC ?_; intro Qz)))
        try ((fail_if_success (with_reducible show wpAny _ _ _ _ _ Sz)); with_reducible (first | (refine letS ?_; intro Sz) | (refine letSC ?_; intro Sz)))
        refine Mine.I3 wl rs nr ⟨rfl, hm3, hrs, hw1, fun n f h1 h2 h3 => ?_, hwl⟩
        rcases hw2 n f h1 h2 h3 with h | h
        · exfalso
          have h2 : n ∈ nms.drop 3 := h
          simp [nms] at h2
        · exact h
      · rintro m3 news3 h16 tk16 F16 N16 hz6
        try ((fail_if_success (with_reducible show Gz)); with_reducible (first | (refine letW ?_; intro Gz) | (refine letWC ?_; intro Gz)))
        refine Mine.E3 ?_ hz6
        clear hz6
        intro wl rs nr
        refine Mine.A6 ?_
        intro hR19
        subst hR19
        intro hm3 hrs hw1 hw2
        intro hwl
        try ((fail_if_success (with_reducible show wpAny _ _ _ Qz _ _)); with_reducible (first | (refine letQ ?_; intro Qz) | (refine letQC ?_; intro Qz)))
        try ((fail_if_success (with_reducible show wpAny _ _ _ _ _ Sz)); with_reducible (first | (refine letS ?_; intro Sz) | (refine letSC ?_; intro Sz)))
        refine letQ ?_; intro Qz
        refine frsG F16 hm3 ?_; clear F16; intro _ F16
        (repeat ((fail_if_success (with_reducible show wpAny _ _ (PySem.compareOp _ _ _) _ _ _)); walk1))
        rename_i eL h17 F17 N17 l17
        refine ne_nil (vs := rs) (by show un + 3 < cLine; lia) N17 (.tail _ (.head _)) (.head _) ?_
        iterate 1 walk1
        cases wl with
        | nil =>
          cases hrs
          refine ifN (by simp) ?_
          refine wpAny_execs_nil ?_
          try dsimp only
          refine wpAny_execs_nil ?_
          refine Mine.I4 _ _ _ _ ⟨rfl, F17, News.sub N17 (fun q hq => .tail _ (.tail _ hq)), hnI, Mine.I4 T oD kvs extra ⟨rfl, ⟨rfl, rfl, trivial⟩, hd9, hT9, I9.skip hT.pos hO hLi (fun n q h e => ?_), hxE, by lia⟩⟩
          try with_reducible (refine letW ?_; intro Gz)
          try ((fail_if_success (with_reducible show Gz)); with_reducible (first | (refine letW ?_; intro Gz) | (refine letWC ?_; intro Gz)))
          refine Exists.elim (I9.near hT.pos hO hLi h e) ?_
          intro f
          refine Mine.A3 ?_
          intro hf f1
          intro f2
          have := hw2 n f hf f1 (by rw [f2]; exact e)
          nomatch this
        | cons cs0 wl =>
          refine ifP (by cases hrs; simp) ?_
          (repeat ((fail_if_success (with_reducible show wpAny _ _ (PySem.call (Value.builtin _) _) _ _ _)); walk1))
          refine min_strs rfl F17 N17 (.tail _ (.head _)) hrs (by simp) (fun h18 mx mt mtk F18 N18 hmx hmin => ?_)
          try with_reducible (refine letW ?_; intro Gz)
          try ((fail_if_success (with_reducible show Gz)); with_reducible (first | (refine letW ?_; intro Gz) | (refine letWC ?_; intro Gz)))
          refine Exists.elim (List.mem_map.mp hmx) ?_
          intro csm
          refine And.elim ?_
          intro hcsm
          intro hR20
          subst hR20
          try with_reducible (refine letW ?_; intro Gz)
          try ((fail_if_success (with_reducible show Gz)); with_reducible (first | (refine letW ?_; intro Gz) | (refine letWC ?_; intro Gz)))
          refine Mine.E2 ?_ (hw1 csm hcsm)
          intro kn f
          refine Mine.A4 ?_
          intro hf f1 f2
          intro f3
          try with_reducible (refine letW ?_; intro Gz)
          try ((fail_if_success (with_reducible show Gz)); with_reducible (first | (refine letW ?_; intro Gz) | (refine letWC ?_; intro Gz)))
          obtain ⟨I10, hnew⟩ := I9.tell hT.pos hO hLi hf f1 f2 f3 (fun g hg k' g1 g2 hlt' => hmin _ (List.mem_map.mpr ⟨_, hw2 k' g hg g1 g2, rfl⟩) (by rw [waS_cps, waS_cps]; exact hlt'))
          (repeat ((fail_if_success (with_reducible show wpAny _ _ (PySem.setItem _ _ _) _ _ _)); walk1))
          rename_i aN h19 F19 N19 l19
          have hitD : it ≠ D := (hnI _ (.head _)).symm
          have hDX : ∀ p ∈ extra ++ WL, p.1 ≠ D := fun p hp => by
            rcases List.mem_append.mp hp with hp | hp
            · exact hxE p hp
            · exact hDW p hp
          refine kda_set (k := x.txt) F19 N19 (.tail (Nat.ne_of_gt l19.2.2.2.1) (.tail (Nat.ne_of_gt l17.2.2.1) (.tail (Nat.ne_of_gt l10.2.1) (.tail hitD (.head hDX))))) hd9 (strKind_is _ _ _ _) (by rw [hT9.len, sizeLine_eq]; lia) ?_
          intro h20 oD2 F20 N20 hd20
          refine wpAny_execs_nil ?_
          try dsimp only
          refine wpAny_execs_nil ?_
          try with_reducible (refine letW ?_; intro Gz)
          try ((fail_if_success (with_reducible show Gz)); with_reducible (first | (refine letW ?_; intro Gz) | (refine letWC ?_; intro Gz)))
          refine Exists.elim (Mine.News.named N20) ?_
          intro oN
          refine And.elim ?_
          intro hoN
          intro N21
          refine Mine.I4 _ _ _ _ ⟨rfl, F20, News.sub N21 (fun q hq => ?_), ?_, Mine.I4 (T ++ [(x, p, csm)]) oD2 _ ((aN, oN) :: extra) ⟨rfl, ⟨rfl, rfl, trivial⟩, hd20, (hT9.mono (EntV.mono fun q hq => .tail _ hq)).snoc hnew (Mine.I4 aN _ _ _ ⟨rfl, by rw [hoN]; exact .head _⟩), I10, ?_, by rw [List.length_append, List.length_singleton]; lia⟩⟩
          · rcases List.mem_cons.mp hq with rfl | hq
            · exact .tail _ (.tail _ (.tail _ (.head _)))
            rcases List.mem_cons.mp hq with rfl | hq
            · exact .tail _ (.tail _ (.tail _ (.tail _ (.head _))))
            rcases List.mem_cons.mp hq with rfl | hq
            · exact .head _
            · exact .tail _ (.tail _ (.tail _ (.tail _ (.tail _ hq))))
          · intro q hq
            rcases List.mem_cons.mp hq with rfl | hq
            · exact hitD.symm
            rcases List.mem_cons.mp hq with rfl | hq
            · exact Nat.ne_of_gt l19.2.2.1
            · exact hnI q (.tail _ hq)
          · intro q hq
            rcases List.mem_cons.mp hq with rfl | hq
            · exact Nat.ne_of_gt l19.2.2.2.1
            · exact hxE q hq
    · rintro m2 news2 hz2
      try ((fail_if_success (with_reducible show Gz)); with_reducible (first | (refine letW ?_; intro Gz) | (refine letWC ?_; intro Gz)))
      refine Mine.E4 ?_ hz2
      clear hz2
      intro T oD kvs extra
      refine Mine.A6 ?_
      intro hR21
      subst hR21
      intro hm2 hd9 hT9 I9
      refine And.elim ?_
      intro hxE
      intro hTl
      try ((fail_if_success (with_reducible show wpAny _ _ _ Qz _ _)); with_reducible (first | (refine letQ ?_; intro Qz) | (refine letQC ?_; intro Qz)))
      try ((fail_if_success (with_reducible show wpAny _ _ _ _ _ Sz)); with_reducible (first | (refine letS ?_; intro Sz) | (refine letSC ?_; intro Sz)))
      exact Mine.I4 T oD kvs extra ⟨rfl, ⟨hm2.2.1, trivial⟩, hd9, hT9, TInv.fin hO (by rw [hlenL]; rw [hlenS] at I9; exact I9), hxE⟩
    · rintro m2 news2 h9 tk9 F9 N9 hz6
      try ((fail_if_success (with_reducible show Gz)); with_reducible (first | (refine letW ?_; intro Gz) | (refine letWC ?_; intro Gz)))
      refine Mine.E4 ?_ hz6
      clear hz6
      intro T oD kvs extra
      refine Mine.A6 ?_
      intro hR22
      subst hR22
      intro hm2 hd9 hT9 I9
      intro hxE
      try ((fail_if_success (with_reducible show wpAny _ _ _ Qz _ _)); with_reducible (first | (refine letQ ?_; intro Qz) | (refine letQC ?_; intro Qz)))
      try ((fail_if_success (with_reducible show wpAny _ _ _ _ _ Sz)); with_reducible (first | (refine letS ?_; intro Sz) | (refine letSC ?_; intro Sz)))
      refine letQ ?_; intro Qz
      refine frsG F9 hm2 ?_; clear F9; intro _ F9
      iterate 3 walk1
      have hWn : ∃ e1, WL = e1 ++ news := ⟨(sD, listOf vs.toArray sc) :: (lY, LCg.lst ys) :: (ex ++ ex0), by rw [← hW, hex0]; simp⟩
      try with_reducible (refine letW ?_; intro Gz)
      try ((fail_if_success (with_reducible show Gz)); with_reducible (first | (refine letW ?_; intro Gz) | (refine letWC ?_; intro Gz)))
      obtain ⟨e1, he1⟩ := hWn
      subst he1
      rw [← List.append_assoc] at N9 hT9
      refine leaveK_ F9 (news' := (D, oD) :: (extra ++ e1 ++ news)) (fun p hp => N9 p hp) (fun F N => hret _ _ _ _ F N (Mine.I5 D oD kvs T (extra ++ e1) ⟨rfl, rfl, lo, fun p hp => ?_, hd9, hT9, I9⟩))
      rw [List.append_assoc] at hp
      rcases List.mem_append.mp hp with hp | hp
      · exact hxE p hp
      · exact hDW p hp
end Mine
end
/-! part L0 -/
section
open PySem PySem.W PyProof.Rows HeadC
set_option maxRecDepth 100000
namespace Mine
theorem call_cellsC {prog : Program} {w : World} {A : Around} {R : Result → Shared → Prop} {s : Shared} {name : Str} {params : Arguments} {body : List Stmt} {scope : Scope}
    {pm cd doc : Value} {a : Addr} {o : Obj} {args : List Value} {binds : List (Str × Value)}
    (hroom : A.depth < recursionLimit) (ho : s.heap.get? a = some o) (hdata : o.data = .func (Calls.docDef name params body scope pm cd doc)) (hlim : s.heap.NoLimit) (hcd : s.heap.CodeRec cd name)
    (hbind : bindArgs (Calls.docDef name params body scope pm cd doc) ⟨args, []⟩ = pure binds)
    (hkind : ∀ x ∈ binds, scope.names.lookup x.1 = some .local ∨ (scope.names.lookup x.1 = some .cell ∧ ((cellsFrom (s.heap.objs.size + 1) scope.names []).lookup x.1).isSome = true))
    (hnd : ((cellsFrom 0 scope.names []).map (·.1)).Nodup)
    (h : ∀ h₁ tk cells, Fr s.heap s.heap.objs.size h₁ (bindL (envOfC name scope s.heap.objs.size a cd).kindOf binds fun _ => none) → News s.heap s.heap.objs.size h₁ cells →
      CellsAre (bindC (envOfC name scope s.heap.objs.size a cd).kindOf binds fun _ => none) (cellsFrom (s.heap.objs.size + 1) scope.names []) cells →
      wpC (model prog w) (A.deeper (envOfC name scope s.heap.objs.size a cd)) (execs body (envOfC name scope s.heap.objs.size a cd))
        (fun f s' => R (.ok (.ret (match f with | .ret v => v | _ => .none))) s') (fun _ _ => False) { s with heap := h₁, toks := tk })
    (hco : scope.isCoroutine = false := by rfl) (hgen : scope.isGenerator = false := by rfl) (hk : scope.kind = .function := by rfl) :
    codeC (model prog w) A (.call (.ref a) ⟨args, []⟩) R s := by
  refine codeC_call_function (fd := Calls.docDef name params body scope pm cd doc) (body := body) hroom ho hdata hco hgen rfl hcd ?_
  rw [hbind]
  refine wpAny_pure (wpAny_newFunctionEnv_cells hk hkind fun env he s' x => ?_)
  subst he
  refine ⟨hlim.keeps x.toInCall.keep, codeC_func ?_⟩
  refine Mine.E2 ?_ x.done
  intro h₁ tk
  refine And.elim ?_
  intro hR1
  subst hR1
  intro _
  have F : Fr s.heap s.heap.objs.size h₁ (bindL (envOfC name scope s.heap.objs.size a cd).kindOf binds fun _ => none) := ⟨x.toInCall.ns, x.toInCall.keep, x.toInCall.fresh⟩
  have X : Cl s.heap.objs.size (cellsFrom (s.heap.objs.size + 1) scope.names []) h₁ (bindC (envOfC name scope s.heap.objs.size a cd).kindOf binds fun _ => none) := ⟨x.cell, x.apart, x.above⟩
  refine Exists.elim (Cl.news (h₀ := s.heap) (Nat.le_refl _) fun n c hm => ⟨X.cell n c (lookup_of_mem_nodup (cellsFrom_names scope.names 0 (s.heap.objs.size + 1) [] [] rfl ▸ hnd) hm), X.above n c hm⟩) ?_
  intro cells
  refine And.elim ?_
  intro N
  intro Y
  exact h h₁ tk cells F N Y
theorem good_true {w : World} {s₀ s₁ : Shared} {ns : List Int} {h' : Heap} {tk : Nat} {mean : ExcName → Option Value} {L : Addr} {m : Str → Option Value} (hg : s₁.gens = #[]) (F : Fr s₁.heap L h' m) :
    GoodWG Challenge.rw_pd0166_01.row.claim (classAt s₀.heap) mean [ofPy (PyData.list (List.map PyData.int ns))] s₁ (.ok (.ret (.bool true))) { s₁ with heap := h', toks := tk } := by
  refine ⟨.inl (Mine.I3 (.bool true) (ofPy (.bool true)) [] ⟨rfl, fun _ => rfl, ?_, ?_, ?_⟩), .of_keep F.keep, rfl, ?_⟩
  · exact readsW_of_reads (.bool true)
  · first | rfl | kernel_rfl
  · exact unshared_nil
  · exact .of_eq hg
end Mine
namespace Mine
theorem tokC {α : Type} {M : Model} {A : Around} {E : Value → Shared → Prop} {t : Sem α} {Q : α → Shared → Prop} (s : Shared) {h : Heap} {k : Nat} (H : ∀ k, wpC M A t Q E { s with heap := h, toks := k }) : wpC M A t Q E { s with heap := h, toks := k } := H k
end Mine
end
/-! part P14 -/
section
open PySem PySem.W PyProof.Rows HeadC
set_option maxRecDepth 10000
namespace Mine
/-- what the law draws -/
noncomputable def drawnL (ns : List Int) : List Int := ((ns.take 7).map fun x => Int.fmod x 1000000) ++ [2, 3, 4, 0, 1, 2, 0].drop (ns.take 7).length
theorem drawnL_len (ns : List Int) : (drawnL ns).length = 7 := by
  unfold drawnL
  rw [List.length_append, List.length_map, List.length_drop]
  have : (ns.take 7).length ≤ 7 := by rw [List.length_take]; omega
  show (ns.take 7).length + (7 - (ns.take 7).length) = 7
  omega
theorem ints_drop : ∀ {vs : List Value} {ns : List Int}, IntsAre vs ns → ∀ k : Nat, IntsAre (vs.drop k) (ns.drop k)
  | _, _, h, 0 => h
  | _, _, .nil, _ + 1 => .nil
  | _, _, .cons _ _ h, k + 1 => ints_drop h k
theorem ints_seven {vs : List Value} {ns : List Int} (h : IntsAre vs ns) (h7 : ns.length = 7) : ∃ d0 d1 d2 d3 d4 d5 d6 t0 t1 t2 t3 t4 t5 t6, ns = [d0, d1, d2, d3, d4, d5, d6] ∧
    vs = [.int d0 t0, .int d1 t1, .int d2 t2, .int d3 t3, .int d4 t4, .int d5 t5, .int d6 t6] := by
  cases h with
  | nil => simp at h7
  | cons d0 t0 h => cases h with
    | nil => simp at h7
    | cons d1 t1 h => cases h with
      | nil => simp at h7
      | cons d2 t2 h => cases h with
        | nil => simp at h7
        | cons d3 t3 h => cases h with
          | nil => simp at h7
          | cons d4 t4 h => cases h with
            | nil => simp at h7
            | cons d5 t5 h => cases h with
              | nil => simp at h7
              | cons d6 t6 h => cases h with
                | nil => exact Mine.I6 d0 d1 d2 d3 d4 d5 (Mine.I6 d6 t0 t1 t2 t3 t4 (Mine.I2 t5 t6 ⟨rfl, rfl⟩))
                | cons d7 t7 h => simp at h7
end Mine
end
/-! part B14 -/
section
open PySem PySem.W PyProof.Rows HeadC
open PySem.Builtin
set_option maxRecDepth 100000
namespace Mine
/-! ### a word read from behind: b[::-1] -/
theorem rev_arr (st : W4) : Bytes.sliced st.arr (sliceBounds none none (some (-1)) 4).1 (sliceBounds none none (some (-1)) 4).2.1 (sliceBounds none none (some (-1)) 4).2.2 = #[st.d, st.c, st.b, st.a] := by
  cases st; kernel_rfl
theorem meets_rev (st : W4) (t k : Tok) (a : Addr) :
    Meets («bytes.__getitem__» ⟨[.bytes st.arr t, .ref a], []⟩) (fun _ R s => s.heap.IsSliceOf a .none .none (.int (-1) k) ∧ ∀ t' k, R (.ok (.ret (.bytes #[st.d, st.c, st.b, st.a] t'))) { s with toks := k }) := by
  refine .of_wp fun prog w A R s hS => ?_
  obtain ⟨⟨o, ho, hc, hd⟩, h⟩ := hS
  have hT : s.TypeIs (.ref a) "slice" := ⟨o, ho, hc⟩
  show wpAny _ _ (Bytes.payload (.bytes st.arr t) >>= fun r => _) _ _ s
  refine wpAny_bind (wpAny_of_eq (a := st.arr) rfl ?_)
  show wpAny _ _ (Bytes.subscript? (.ref a) >>= fun r => _) _ _ s
  refine wpAny_bind ?_
  unfold Bytes.subscript?
  refine wpAny_bind (wpAny_specialOf hT slice_no_index (wpAny_pure ?_))
  refine wpAny_bind (wpAny_typeOf hT ?_)
  show wpAny _ _ (Bytes.sliceParts (.ref a) >>= fun r => _) _ _ s
  refine wpAny_bind ?_
  unfold Bytes.sliceParts
  refine wpAny_bind (wpAny_field (x := .int (-1) k) ho hd rfl ?_)
  kby_int
  refine wpAny_ite (KBy.ite_no (show ¬ ((rawInt (-1) == rawInt 0) = true) by decide) ?_)
  refine wpAny_bind (wpAny_field (x := .none) ho hd rfl ?_)
  kby_none
  refine wpAny_bind (wpAny_field (x := .none) ho hd rfl ?_)
  kby_none
  refine wpAny_pure ?_
  refine wpAny_bind (wpAny_of_eq (sliceIndices_raw none none (some (-1)) 4 (by decide)) ?_)
  refine wpAny_ite (KBy.ite_no (by show ¬ (_ && (_ == 1 : Bool) && _ && _ : Bool) = true; simp [sliceBounds]) ?_)
  refine wpAny_bind ?_
  show wpAny _ _ (mkBytes (Bytes.sliced st.arr (sliceBounds none none (some (-1)) 4).1 (sliceBounds none none (some (-1)) 4).2.1 (sliceBounds none none (some (-1)) 4).2.2)) _ _ _
  rw [rev_arr]
  exact wpAny_mkBytes (wpAny_pure ⟨_, rfl, h _ _⟩) (by show 4 ≤ sizeLine; rw [sizeLine_eq]; exact Nat.le_of_ble_eq_true rfl)
section
variable {prog : Program} {w : World} {A : Around} {E : Value → Shared → Prop} {s : Shared} {value slice : PySem.Expr} {st : W4} {t kk : Tok} {h₀ : Heap} {L : Addr} {m : PySem.Str → Option Value} {news : List (Addr × Obj)} {Q : Value → Shared → Prop}
theorem slice_rev (hF : Fr h₀ L s.heap m) (hN : News h₀ L s.heap news)
    (h : ∀ h' t' k, Fr h₀ L h' m → News h₀ L h' news → Q (.bytes #[st.d, st.c, st.b, st.a] t') { s with heap := h', toks := k })
    (hs : subscripted slice false (.bytes st.arr t) (.ref s.heap.objs.size) = operate [.ref s.heap.objs.size, .bytes st.arr t] (getItem (.bytes st.arr t) (.ref s.heap.objs.size)) := by with_unfolding_all rfl)
    (ht : ∀ r, letTemporaryGo value (.bytes st.arr t) r = pure () := by intro _; with_unfolding_all rfl) :
    wpAny (model prog w) A (subscriptTail value slice (.bytes st.arr t) (.ref s.heap.objs.size)) Q E { s with heap := s.heap.push { cls := .type "slice", data := .fields #[.none, .none, .int (-1) kk] } } :=
  tail_of_ItemOn (Mine.I2 ("bytes") _ ⟨FB.slot_bytes_getitem.lookup, typeIs_bytes _ _ _, getItem_meets (typeIs_bytes _ _ _) (by decide) FB.slot_bytes_getitem FB.entry_bytes_getitem (FB.args_bytes_getitem_2 _ _) (meets_rev st t kk _)
    ⟨Heap.IsSliceOf.new _ _ _ _, fun t' k => h _ _ _ (hF.push _) (News.pushKeep hN _)⟩⟩) hs ht
end
end Mine
end
/-! part E2 -/
section
open PySem PySem.W PyProof.Rows HeadC
open PySem.SeqAt
set_option maxRecDepth 100000
namespace Mine
theorem updF_app {c : Addr} {o : Obj} : ∀ (pre post : List (Addr × Obj)), (∀ p ∈ pre, p.1 ≠ c) → (∀ p ∈ post, p.1 ≠ c) → UpdF c o (pre ++ (c, o) :: post) (fun o' => pre ++ (c, o') :: post)
  | [], _, _, h2 => .head h2
  | p :: pre, post, h1, h2 => .tail (h1 p (.head _)) (updF_app pre post (fun q hq => h1 q (.tail _ hq)) h2)
theorem ex_clean {h₀ h : Heap} {L D c : Addr} {oD oC : Obj} {v : Option Value} {ex rest : List (Addr × Obj)} {S : List (W4 × (Int × Way))} {kvs : List (Str × Value)} (N : News h₀ L h ((D, oD) :: (ex ++ rest))) (hm : (c, oC) ∈ rest) (hd : oC.data = .cell v) (hR : TabR (EntV (ex ++ rest)) S kvs) :
    ∃ ex', (∀ p ∈ ex', p.1 ≠ c) ∧ (∀ p ∈ ex', p ∈ ex) ∧ TabR (EntV (ex' ++ rest)) S kvs := by
  refine ⟨ex.filter fun p => decide (p.1 ≠ c), fun p hp => of_decide_eq_true (List.mem_filter.mp hp).2, fun p hp => (List.mem_filter.mp hp).1, hR.mono fun e x ⟨a, t, u, n, e1, h1⟩ => Mine.I4 a t u n ⟨e1, ?_⟩⟩
  rcases List.mem_append.mp h1 with h | h
  · refine List.mem_append_left _ (List.mem_filter.mpr ⟨h, decide_eq_true fun q => ?_⟩)
    have z1 := (N _ (.tail _ (List.mem_append_left _ h))).1
    have z2 := (N (c, oC) (.tail _ (List.mem_append_right _ hm))).1
    have q' : a = c := q
    subst q'
    rw [z1] at z2
    cases z2
    cases hd
  · exact List.mem_append_right _ h
section
variable {prog : Program} {w : World} {A : Around} {E : Value → Shared → Prop} {s : Shared} {h₀ : Heap} {L : Addr} {news : List (Addr × Obj)}
theorem ent_eq {e : Int × Way} {x y : Value} (N : News h₀ L s.heap news) (hu : A.units < cLine) (hx : EntV news e x) (hy : EntV news e y) : EqAt A s x y true := by
  refine Mine.E4 ?_ hx
  clear hx
  intro a t u n
  refine And.elim ?_
  intro hR1
  subst hR1
  intro ha
  refine Mine.E4 ?_ hy
  clear hy
  intro b t' u' n'
  refine And.elim ?_
  intro hR2
  subst hR2
  intro hb
  by_cases hab : a = b
  · subst hab; exact .same _
  · refine .of_refs hab ?_
    have key := RcAt.tuples (A := A) (s := s) (e := fun _ => true) ⟨_, (N _ ha).1, rfl, _, rfl⟩ ⟨_, (N _ hb).1, rfl, _, rfl⟩ hu (fun j h1 h2 => ?_)
    · exact key
    · match j, h1 with
      | 0, _ => exact fun prog w E Q h => wpAny_eqBool_int (by simpa using h)
      | 1, _ => exact fun prog w E Q h => wpAny_eqBool_str (by simpa using h)
      | j + 2, h1 => exact absurd (show j + 2 < 2 from h1) (by lia)
theorem tabs_hits {S T : List (W4 × (Int × Way))} {ka kb : List (Str × Value)} (hS : TabR (EntV news) S ka) (hT : TabR (EntV news) T kb) (hsub : ∀ e ∈ S, e ∈ T) (hTn : (T.map (·.1)).Nodup) (N : News h₀ L s.heap news) (hu : A.units < cLine) : KeqHits A s kb ka true := by
  induction hS with
  | nil => exact .nil
  | @cons x a v S ka r _ ih =>
    refine Exists.elim (hT.here hTn (hsub _ (.head _))) ?_
    intro y
    refine And.elim ?_
    intro hy
    intro ry
    exact .hit (e := true) (b := true) hy (ent_eq N hu r ry) (ih fun e he => hsub e (.tail _ he))
end
theorem same_len {α : Type} [DecidableEq α] {l r : List α} (hl : l.Nodup) (hr : r.Nodup) (h : ∀ x, x ∈ l ↔ x ∈ r) : l.length = r.length :=
  (List.perm_ext_iff_of_nodup hl hr).mpr h |>.length_eq
theorem nodup_of_fst {α β : Type} {l : List (α × β)} (h : (l.map (·.1)).Nodup) : l.Nodup := List.Pairwise.of_map (fun p : α × β => p.1) (fun a b hab q => hab (by rw [q])) h
end Mine
end
/-! part E3 -/
section
open PySem PySem.W PyProof.Rows HeadC
set_option maxRecDepth 100000
namespace Mine
/-- the tuple (price, way, text) of an entry -/
noncomputable def TripAt (news : List (Addr × Obj)) (v : Value) (e : Ent) : Prop := ∃ a u1 u2 u3 n, v = .ref a ∧ (a, ({ cls := .type "tuple", data := .seq #[.int e.2.1 u1, .str (waS e.2.2) u2, .str e.1.txt u3] n } : Obj)) ∈ news
theorem TripAt.mono {news news' : List (Addr × Obj)} (hs : ∀ p ∈ news, p ∈ news') {v : Value} {e : Ent} (h : TripAt news v e) : TripAt news' v e := by
  refine Mine.E5 ?_ h
  clear h
  intro a u1 u2 u3 n
  refine And.elim ?_
  intro h1
  intro h2
  exact Mine.I5 a u1 u2 u3 n ⟨h1, hs _ h2⟩
theorem TripAt.tup {news : List (Addr × Obj)} {v : Value} {e : Ent} (h : TripAt news v e) : TupAt news v (e.2.1, waS e.2.2) := by
  refine Mine.E5 ?_ h
  clear h
  intro a u1 u2 u3 n
  refine And.elim ?_
  intro h1
  intro h2
  exact Mine.I5 a u1 u2 [.str e.1.txt u3] n ⟨h1, h2⟩
/-- every item is the tuple of one of the entries -/
noncomputable def TripsOf (news : List (Addr × Obj)) (S : List Ent) (vs : List Value) : Prop := ∀ v ∈ vs, ∃ e ∈ S, TripAt news v e
end Mine
end
/-! part E4 -/
section
example : True := by w_top off; trivial
open PySem PySem.W PyProof.Rows HeadC
open PySem.SeqAt
set_option maxRecDepth 100000
namespace Mine
theorem pick_mem {l : List Value} {lo hi : Option Int} {v : Value} (h : v ∈ kms_pick l lo hi) : v ∈ l := by
  unfold kms_pick at h
  exact List.mem_of_mem_drop (List.mem_of_mem_take h)
theorem pick_len (l : List Value) (lo hi : Option Int) : (kms_pick l lo hi).length ≤ l.length := by
  unfold kms_pick
  rw [List.length_take, List.length_drop]; lia
section
variable {prog : Program} {w : World} {A : Around} {E : Value → Shared → Prop} {s : Shared} {h₀ : Heap} {L : Addr} {news : List (Addr × Obj)}
theorem ne_tup2 {a b : Addr} {x : Str} {y : Array UInt8} {t u t' u' : Tok} {n n' : Nat} {Q : Value → Shared → Prop} (N : News h₀ L s.heap news)
    (ha : (a, ({ cls := .type "tuple", data := .seq #[.str x t, .bytes y u] n } : Obj)) ∈ news) (hb : (b, ({ cls := .type "tuple", data := .seq #[.str x t', .bytes y u'] n' } : Obj)) ∈ news) (hu : A.units < cLine) (h : Q (.bool false) s) :
    wpAny (model prog w) A (compareOp .NotEq (.ref a) (.ref b)) Q E s := by
  have key := RcNeAt.tuples (A := A) (s := s) (l := a) (b := b) (items := #[.str x t, .bytes y u]) (items2 := #[.str x t', .bytes y u']) (e := fun _ => true) ⟨_, (N _ ha).1, rfl, _, rfl⟩ ⟨_, (N _ hb).1, rfl, _, rfl⟩ hu (fun j h1 h2 => ?_)
  · exact key prog w E Q h
  · match j, h1 with
    | 0, _ => exact fun prog w E Q h => wpAny_eqBool_str (by simpa using h)
    | 1, _ => exact fun prog w E Q h => eqBool_bytes (by simpa using h)
    | j + 2, h1 => exact absurd (show j + 2 < 2 from h1) (by lia)
end
theorem txt_all {x : W4} (h : low x) : x.txt.cps.all (· < 128) = true := by
  refine Mine.A4 ?_ h
  clear h
  intro h1 h2 h3
  intro h4
  simp [W4.txt, h1, h2, h3, h4]
theorem low_run {st : W4} (h : low st) : ∀ (cs : Way), low (run cs st) := by
  intro cs
  induction cs generalizing st with
  | nil => exact h
  | cons n cs ih => exact ih (low_turn h)
theorem txt_back (x : W4) : ((x.txt.cps.toList.map fun c : Nat => (c : Int)).map fun n : Int => n.toNat.toUInt8).toArray = x.arr := by
  obtain ⟨a, b, c, d⟩ := x
  simp [W4.txt, W4.arr]
theorem txt_back4 (x : W4) : (((x.txt.cps.toList.take (0 + 4)).map fun c : Nat => (c : Int)).map fun n : Int => n.toNat.toUInt8).toArray = x.arr := txt_back x
theorem txt_mem {x : W4} (h : low x) : ∀ c ∈ x.txt.cps.toList, c < 128 := by
  refine Mine.A4 ?_ h
  clear h
  intro h1 h2 h3
  intro h4
  intro c hc
  have hc : c ∈ [x.a.toNat, x.b.toNat, x.c.toNat, x.d.toNat] := hc
  simp only [List.mem_cons, List.not_mem_nil, or_false] at hc
  rcases hc with rfl | rfl | rfl | rfl <;> assumption
end Mine
end
/-! part E5 -/
section
open PySem PySem.W PyProof.Rows HeadC
set_option maxRecDepth 100000
set_option maxHeartbeats 2000000
namespace Mine
section
variable {prog : Program} {w : World} {A : Around} {E : Value → Shared → Prop} {s : Shared} {h₀ : Heap} {L : Addr} {m : Str → Option Value} {env : Env}
/-- what the source of [b for a, b, c in rows] must be -/
noncomputable def SecSrc (h₀ : Heap) (L : Addr) (m : Str → Option Value) (P : Nat → Value → Prop) (Q : Value → Shared → Prop) (xv : Value) (s₁ : Shared) : Prop :=
  ∃ (l : Addr) (vs : List Value) (c : Nat) (news : List (Addr × Obj)), xv = .ref l ∧ Fr h₀ L s₁.heap m ∧ News h₀ L s₁.heap news ∧ (l, listOf vs.toArray c) ∈ news ∧ vs.length ≤ sizeLine ∧
    (∀ (i : Nat) v, vs[i]? = some v → ∃ (t : Addr) (v0 v1 v2 : Value) (nt : Nat), v = .ref t ∧ (t, ({ cls := .type "tuple", data := .seq #[v0, v1, v2] nt } : Obj)) ∈ news ∧ P i v1) ∧
    ∀ (D : Addr) (h' : Heap) (tk : Nat) (ys : List Value), Fr h₀ L h' m → News h₀ L h' ((D, LCg.lst ys) :: news) → (∀ p ∈ news, p.1 < D) → ys.length = vs.length → (∀ (j : Nat) y, ys[j]? = some y → P j y) → Q (.ref D) { s₁ with heap := h', toks := tk }
/-- [b for a, b, c in rows] over tuples of the ledger -/
theorem comp_secs {iter : Expr} {x0 x1 x2 : Str} {p0 p1 p2 tp pe : Pos} {tk} {scope : Scope} {cl : List (Str × Addr)} {pos : Pos} {P : Nat → Value → Prop} {Q : Value → Shared → Prop} (_F₀ : Fr h₀ L s.heap m) (hh : A.handled = none)
    (hclos : closureFor scope env = pure cl) (hcell : ∀ y ∈ scope.names, y.2 ≠ .cell) (hkind : scope.kind = .function)
    (hnames : ∀ y ∈ scope.names, y.2 = .local → scope.names.lookup y.1 = some .local) (hx0 : scope.names.lookup x0 = some .local) (hx1 : scope.names.lookup x1 = some .local) (hx2 : scope.names.lookup x2 = some .local)
    (h12 : x1 ≠ x2) (hd : (x1 == ("__debug__" : Str)) = false)
    (h : wpAny (model prog w) A (eval iter env) (SecSrc h₀ L m P Q) E s)
    (hs : ∀ x, foldedSetIterable iter env x = pure x := by intro _; rfl) :
    wpAny (model prog w) A (eval (.ListComp (.Name x1 pe) [⟨.Tuple [.Name x0 p0, .Name x1 p1, .Name x2 p2] tk tp, iter, [], 0⟩] scope pos) env) Q E s := by
  rw [eval_ListComp]
  refine wpAny_comprehension_free (use := none) rfl hs hclos hkind hnames (wpAny_mono h (fun xv s₁ h₁ => ?_) fun _ _ e => e)
  try ((fail_if_success (with_reducible show Gz)); with_reducible (first | (refine letW ?_; intro Gz) | (refine letWC ?_; intro Gz)))
  refine Mine.E4 ?_ h₁
  clear h₁
  intro l vs c news
  refine Mine.A6 ?_
  intro hR1
  subst hR1
  intro F N hm hsz
  refine And.elim ?_
  intro hv
  intro fin
  have hl : s₁.heap.IsList l vs.toArray := N.isList hm
  have hlt : l < s₁.heap.objs.size := Heap.lt_size (N _ hm).1
  refine wpAny_pyIter_list hl ?_
  have up : ∀ b o, s₁.heap.get? b = some o → (s₁.heap.push { cls := .type "list_iterator", data := .fields #[.ref l, .int 0 0] }).get? b = some o := fun b o e => Heap.get?_push_of_some _ e
  have W := Walks.list (prog := prog) (w := w) (A := A) hh s₁.heap.objs.size l (Nat.ne_of_lt hlt) vs.toArray
  obtain ⟨I, hI⟩ : ∃ I, I = s₁.heap.objs.size := ⟨_, rfl⟩
  have hst : (s₁.heap.push { cls := .type "list_iterator", data := .fields #[.ref l, .int 0 0] }).IsListIter I l 0 := ⟨_, by rw [hI]; exact Heap.get?_push_size _ rfl, rfl, rfl⟩
  have hIL : L ≠ I := by rw [hI]; exact Nat.ne_of_lt F.ns.lt
  have hI₀ : h₀.get? I = none := by rw [hI]; exact next_is_new F
  have hNI : ∀ p ∈ news, p.1 < I := fun p hp => by rw [hI]; exact Heap.lt_size (N p hp).1
  have F₁ := F.keeps up
  have N₁ := N.grown up
  rw [← hI] at W ⊢
  generalize hH1 : s₁.heap.push { cls := .type "list_iterator", data := .fields #[.ref l, .int 0 0] } = H1 at hst F₁ N₁ ⊢
  have hH1s : H1.objs.size = I + 1 := by rw [← hH1, hI]; exact Heap.size_push _ _
  clear up F N hl hlt hI
  refine wpAny_newObj_type (wpAny_newFunctionEnv hcell (by intro y hy; simp at hy) (fun h₁ hns₁ hsb₁ => ?_) hkind)
  dsimp only at hns₁ hsb₁ ⊢
  generalize hH2 : H1.push { cls := .type "list", dict := none, data := .seq ([] : List Value).toArray } = H2 at hns₁ hsb₁ ⊢
  try ((fail_if_success (with_reducible show Gz)); with_reducible (first | (refine letW ?_; intro Gz) | (refine letWC ?_; intro Gz)))
  obtain ⟨D, hD⟩ : ∃ D, D = H1.objs.size := ⟨_, rfl⟩
  try ((fail_if_success (with_reducible show Gz)); with_reducible (first | (refine letW ?_; intro Gz) | (refine letWC ?_; intro Gz)))
  obtain ⟨C, hC⟩ : ∃ C, C = H2.objs.size := ⟨_, rfl⟩
  have hCD : C = D + 1 := by rw [hC, hD, ← hH2]; exact Heap.size_push _ _
  have hDI : D = I + 1 := by rw [hD, hH1s]
  have old : ∀ b o, H1.get? b = some o → h₁.get? b = some o := fun b o e => hsb₁.extBut b o (by have := Heap.lt_size e; rw [← hC, hCD, hD]; exact Nat.ne_of_lt (Nat.lt_succ_of_lt this)) (Heap.get?_push_of_some _ (hH2 ▸ Heap.get?_push_of_some _ e))
  have hacc : h₁.get? D = some (LCg.lst []) := hsb₁.extBut _ _ (by rw [← hC, hCD]; exact Nat.ne_of_lt (Nat.lt_succ_self _)) (Heap.get?_push_of_some _ (by rw [hD, ← hH2]; exact Heap.get?_push_size _ rfl))
  have fresh₀ : ∀ a, H1.objs.size ≤ a → h₀.get? a = none := fun a ha => by
    cases e : h₀.get? a with
    | none => rfl
    | some o' => exact absurd (Heap.lt_size (F₁.keep a o' e)) (Nat.not_lt.mpr ha)
  have hD₀ : h₀.get? D = none := fresh₀ _ (by rw [hD]; exact Nat.le_refl _)
  have hC₀ : h₀.get? C = none := fresh₀ _ (by rw [hCD, hD]; exact Nat.le_succ _)
  have hLlt : L < D := by rw [hD]; exact F₁.ns.lt
  have hDL : D ≠ L := Nat.ne_of_gt hLlt
  have hCL : C ≠ L := Nat.ne_of_gt (by rw [hCD]; exact Nat.lt_succ_of_lt hLlt)
  have hpC : ∀ p ∈ news, p.1 ≠ C := fun p hp => Nat.ne_of_lt (Nat.lt_trans (hNI p hp) (by rw [hCD, hDI]; exact Nat.lt_succ_of_lt (Nat.lt_succ_self _)))
  have hpD : ∀ p ∈ news, p.1 ≠ D := fun p hp => Nat.ne_of_lt (Nat.lt_trans (hNI p hp) (by rw [hDI]; exact Nat.lt_succ_self _))
  rw [← hC] at hns₁ hsb₁ ⊢
  rw [← hD]
  have loop : codeAny (model prog w) A (.compLoop (.ListComp (.Name x1 pe) [⟨.Tuple [.Name x0 p0, .Name x1 p1, .Name x2 p2] tk tp, iter, [], 0⟩] scope pos) 0 (.ref I) (.ref D) (compEnvC scope cl C env))
      (compPost (model prog w) A E none Q (.ref D) C) { s₁ with heap := h₁, toks := s₁.toks + ([] : List (Str × Value)).length } := by
    refine LCp.codeAny_compLoop_pair
      (fun k s' => ∃ h' tk i ys m', s' = { s₁ with heap := h', toks := tk } ∧ i ≤ vs.length ∧ k = vs.length + 1 - i ∧ ys.length = i ∧ (∀ (j : Nat) y, ys[j]? = some y → P j y) ∧ (h'.IsListIter I l i) ∧ Fr h₀ L h' m ∧ h'.Ns C m' ∧ News h₀ L h' ((D, LCg.lst ys) :: news)) ?_ (vs.length + 1)
      (Mine.I5 h₁ _ 0 [] _ ⟨rfl, Nat.zero_le _, rfl, rfl, (fun j y h => by simp at h), ?_, F₁.keeps old, hns₁, fun p hp => ?_⟩)
    · rintro k s' hz2
      try ((fail_if_success (with_reducible show Gz)); with_reducible (first | (refine letW ?_; intro Gz) | (refine letWC ?_; intro Gz)))
      refine Mine.E5 ?_ hz2
      clear hz2
      intro h' tk' i ys m'
      refine Mine.A8 ?_
      intro hR2
      subst hR2
      intro hi hR3
      subst hR3
      intro hyl hyP hst' F'
      refine And.elim ?_
      intro hn'
      intro N'
      try ((fail_if_success (with_reducible show wpAny _ _ _ Qz _ _)); with_reducible (first | (refine letQ ?_; intro Qz) | (refine letQC ?_; intro Qz)))
      try ((fail_if_success (with_reducible show wpAny _ _ _ _ _ Sz)); with_reducible (first | (refine letS ?_; intro Sz) | (refine letSC ?_; intro Sz)))
      have hl' : h'.IsList l vs.toArray := N'.isList (.tail _ hm)
      by_cases hlt : i < vs.length
      · refine W.item i _ _ _ (by simpa using hlt) ⟨hst', hl'⟩ fun v h₂ tk₂ hPv hst₂ hk₂ => ?_
        have hPv' : vs[i]? = some v := by simpa using hPv
        try ((fail_if_success (with_reducible show Gz)); with_reducible (first | (refine letW ?_; intro Gz) | (refine letWC ?_; intro Gz)))
        refine Mine.E5 ?_ (hv i v hPv')
        intro t v0 v1 v2 nt
        refine Mine.A3 ?_
        intro hR4
        subst hR4
        intro hmt
        intro hP1
        have N₂ : News h₀ L h₂ ((D, LCg.lst ys) :: news) := LCg.news_but N' hk₂ fun p hp => by
          rcases List.mem_cons.mp hp with rfl | hp
          · show D ≠ I; lia
          · exact Nat.ne_of_lt (hNI p hp)
        have F₂ : Fr h₀ L h₂ m := LCg.fr_but F' hk₂ hIL hI₀
        have ht : IsTup h₂ t #[v0, v1, v2] := ⟨_, (N₂ _ (.tail _ hmt)).1, rfl, nt, rfl⟩
        have hnC : h₂.Ns C m' := hn'.at' fun o e => hk₂ _ o (by simp only [List.mem_singleton]; show C ≠ I; lia) e
        refine wpAny_letOwnedTupleGo_listiter hst₂.1 ?_
        refine assign_Tuple_tuple hh ht rfl rfl fun h₅ he => ?_
        have he' : ∀ b o, h₂.get? b = some o → h₅.get? b = some o := fun b o e => he b o (Nat.ne_of_lt (Heap.lt_size e)) e
        refine assignInOrder_cons (wpAny_assign_Name (wpAny_storeName_local (lookup_relabel_local hx0) (hnC.at' fun o e => he' _ o e) (fun h₆ hn₆ hs₆ => ?_) (by simp [compEnvC, relabel, hkind])))
        refine assignInOrder_cons (wpAny_assign_Name (wpAny_storeName_local (lookup_relabel_local hx1) hn₆ (fun h₇ hn₇ hs₇ => ?_) (by simp [compEnvC, relabel, hkind])))
        refine assignInOrder_cons (wpAny_assign_Name (wpAny_storeName_local (lookup_relabel_local hx2) hn₇ (fun h₃ hn₃ hs₃ => ?_) (by simp [compEnvC, relabel, hkind])))
        refine assignInOrder_nil ?_
        have old3 : ∀ b o, b ≠ C → h₂.get? b = some o → h₃.get? b = some o := fun b o hb e => hs₃.extBut b o hb (hs₇.extBut b o hb (hs₆.extBut b o hb (he' b o e)))
        have N₃ : News h₀ L h₃ ((D, LCg.lst ys) :: news) := fun p hp => ⟨old3 _ _ (by
          rcases List.mem_cons.mp hp with rfl | hp
          · show D ≠ C; lia
          · exact hpC p hp) (N₂ p hp).1, (N₂ p hp).2⟩
        have F₃ : Fr h₀ L h₃ m := (((F₂.keeps he').change hs₆ hCL hC₀).change hs₇ hCL hC₀).change hs₃ hCL hC₀
        try ((fail_if_success (with_reducible show Gz)); with_reducible (first | (refine letW ?_; intro Gz) | (refine letWC ?_; intro Gz)))
        refine Exists.elim (LCg.ns_obj hn₃) ?_
        intro oC
        refine And.elim ?_
        intro heC
        intro hoC
        have N₄ : News h₀ L h₃ ((C, oC) :: (D, LCg.lst ys) :: news) := fun p hp => by
          rcases List.mem_cons.mp hp with rfl | hp
          · exact ⟨heC, hCL, hC₀⟩
          · exact N₃ p hp
        refine LCgL.ld_own (v := v1) N₄ (.head _) hoC (by simp [h12]) ?_ hkind (lookup_relabel_local hx1) hd
        refine append_at (hsz := by show ys.toArray.size ≤ sizeLine; rw [List.size_toArray, hyl]; lia) (N₃ _ (.head _)).1 fun h₈ hs₈ hD₈ => ?_
        refine ⟨vs.length + 1 - (i + 1), ⟨by lia, Mine.I5 h₈ _ (i + 1) (ys ++ [v1]) _ ⟨rfl, hlt, rfl, by rw [List.length_append, List.length_singleton, hyl], ?_, ?_, F₃.change hs₈ hDL hD₀, (hoC.ns heC).sameBut hs₈ (Nat.ne_of_gt (by show D < C; lia)), fun p hp => ?_⟩⟩⟩
        · intro j y hj
          rcases Nat.lt_or_ge j i with hji | hji
          · rw [List.getElem?_append_left (by lia)] at hj
            exact hyP j y hj
          · rw [List.getElem?_append_right (by lia), hyl] at hj
            have hji' : j = i := by
              rcases Nat.eq_or_lt_of_le hji with h | h
              · exact h.symm
              · try ((fail_if_success (with_reducible show Gz)); with_reducible (first | (refine letW ?_; intro Gz) | (refine letWC ?_; intro Gz)))
                obtain ⟨k, hk⟩ : ∃ k, j - i = k + 1 := ⟨j - i - 1, by lia⟩
                rw [hk] at hj; simp at hj
            subst hji'
            rw [Nat.sub_self] at hj
            cases hj
            exact hP1
        · try ((fail_if_success (with_reducible show Gz)); with_reducible (first | (refine letW ?_; intro Gz) | (refine letWC ?_; intro Gz)))
          refine Exists.elim hst₂.1 ?_
          intro o
          refine Mine.A3 ?_
          intro e1 e2
          intro e3
          exact ⟨o, hs₈.extBut _ _ (Nat.ne_of_lt (by show I < D; lia)) (old3 _ _ (Nat.ne_of_lt (by show I < C; lia)) e1), e2, e3⟩
        · rcases List.mem_cons.mp hp with rfl | hp
          · exact ⟨hD₈.trans (congrArg some (LCg.lst_snoc ys v1)), hDL, hD₀⟩
          · exact ⟨hs₈.extBut _ _ (hpD p hp) (N₃ p (.tail _ hp)).1, (N₃ p (.tail _ hp)).2⟩
      · obtain rfl : i = vs.length := Nat.le_antisymm hi (Nat.not_lt.mp hlt)
        refine W.done _ _ _ (by simpa using ⟨hst', hl'⟩) fun h₂ tk₂ hk₂ => ?_
        have N₂ : News h₀ L h₂ ((D, LCg.lst ys) :: news) := LCg.news_but N' hk₂ fun p hp => by
          rcases List.mem_cons.mp hp with rfl | hp
          · show D ≠ I; lia
          · exact Nat.ne_of_lt (hNI p hp)
        have F₂ : Fr h₀ L h₂ m := LCg.fr_but F' hk₂ hIL hI₀
        refine ⟨m', hn'.at' fun o e => hk₂ _ o (by simp only [List.mem_singleton]; show C ≠ I; lia) e, fun h'' hs'' => fin D h'' tk₂ ys (F₂.change hs'' hCL hC₀) (fun p hp => ?_) (fun p hp => Nat.lt_trans (hNI p hp) (by rw [hDI]; exact Nat.lt_succ_self _)) hyl hyP⟩
        refine ⟨hs''.extBut _ _ ?_ (N₂ p hp).1, (N₂ p hp).2⟩
        rcases List.mem_cons.mp hp with rfl | hp
        · exact Nat.ne_of_lt (by show D < C; lia)
        · exact hpC p hp
    · try ((fail_if_success (with_reducible show Gz)); with_reducible (first | (refine letW ?_; intro Gz) | (refine letWC ?_; intro Gz)))
      refine Exists.elim hst ?_
      clear hst
      intro o
      refine Mine.A3 ?_
      intro e1 e2
      intro e3
      exact ⟨o, old _ _ e1, e2, e3⟩
    · rcases List.mem_cons.mp hp with rfl | hp
      · exact ⟨hacc, (Nat.ne_of_lt hLlt).symm, hD₀⟩
      · exact ⟨old _ _ (N₁ p hp).1, (N₁ p hp).2⟩
  exact codeAny_compStart_list loop (W.self 0 _ _ _ ⟨by
    try ((fail_if_success (with_reducible show Gz)); with_reducible (first | (refine letW ?_; intro Gz) | (refine letWC ?_; intro Gz)))
    refine Exists.elim hst ?_
    clear hst
    intro o
    refine Mine.A3 ?_
    intro e1 e2
    intro e3
    exact ⟨o, old _ _ e1, e2, e3⟩, ⟨_, old _ _ (N₁ _ hm).1, rfl, _, rfl⟩⟩ loop)
end
end Mine
end
/-! part E6 -/
section
open PySem PySem.W PySem.Calls PyProof.Rows HeadC
set_option maxRecDepth 100000
set_option maxHeartbeats 4000000
namespace Mine
section
variable {prog : Program} {w : World} {A : Around} {E : Value → Shared → Prop} {s : Shared} {h₀ : Heap} {L : Addr} {m : Str → Option Value} {news : List (Addr × Obj)} {vs : List Value}
theorem strs_at {vs : List Value} {xs : List Str} (h : StrsAre vs xs) : ∀ (i : Nat) v, vs[i]? = some v → ∃ x t, xs[i]? = some x ∧ v = .str x t := by
  induction h with
  | nil => intro i v h; simp at h
  | cons y t _ ih =>
    intro i v h
    cases i with
    | zero => cases h; exact Mine.I2 y t ⟨rfl, rfl⟩
    | succ i => exact ih i v (by simpa using h)
theorem strs_len {vs : List Value} {xs : List Str} (h : StrsAre vs xs) : vs.length = xs.length := by
  induction h with
  | nil => rfl
  | cons _ _ _ ih => simp [ih]
theorem sorted_strs {l : Addr} {xs : List Str} {nl : Nat} {Q : Value → Shared → Prop} (F : Fr h₀ L s.heap m) (N : News h₀ L s.heap news) (hl : (l, listOf vs.toArray nl) ∈ news) (hv : StrsAre vs xs) (h64 : xs.length < 64) (hn : xs.Nodup)
    (h : ∀ D h' c o, Fr h₀ L h' m → News h₀ L h' ((D, listOf (o.map fun i => vs.getD i Value.none).toArray c) :: news) → (∀ q ∈ news, q.1 < D) → Srt xs.length (pkI (xs.map fun x => ((0, x) : PK))) o → Q (.ref D) { s with heap := h' }) :
    wpAny (model prog w) A (call (.builtin "sorted") [.ref l]) Q E s := by
  have hlen := strs_len hv
  by_cases h2 : vs.length < 2
  · refine sorted_few F N (N.isList hl) h2 fun D h' c F' N' l1 => h D h' c (List.range xs.length) F' ?_ l1 ⟨by simp, fun i hi => by simpa using hi, List.nodup_range, fun k hk => by simpa using hk, fun i j a b hij ha hb => ?_⟩
    · have e : ((List.range xs.length).map fun i => vs.getD i Value.none) = vs := by
        rw [← hlen]
        apply List.ext_getElem?
        intro i
        by_cases hi : i < vs.length
        · simp [hi]
        · simp [hi]
      rw [e]; exact N'
    · have := (List.getElem?_eq_some_iff.mp hb).1
      simp at this; lia
  · refine kas_sorted (T := .type "str") F N (N.isList hl) (by lia) (by lia) (fun h _ _ v hv' => ?_) (by decide) fun D e1 h' F' N' l1 => ?_
    · obtain ⟨i, hi⟩ := List.mem_iff_getElem?.mp hv'
      refine Mine.E2 ?_ (strs_at hv i v hi)
      intro x t
      refine And.elim ?_
      intro _
      intro hR1
      subst hR1
      exact Looks.of_pure rfl
    have hn' : (xs.map fun x => ((0, x) : PK)).Nodup := by
      rw [List.nodup_iff_pairwise_ne] at hn ⊢
      rw [List.pairwise_map]
      exact hn.imp fun h q => h (Prod.mk.inj q).2
    refine Mine.A3 ?_ (pkI_facts hn')
    intro f1 f2
    intro f3
    have tree := sort_ok (n := vs.length) (lt := pkI (xs.map fun x => ((0, x) : PK))) f1 f2 (by rw [hlen]; simpa using f3) (by lia)
    refine TreeOk.wp (fun i j C hi hj hij hc => ?_) (fun p hp => ?_) tree
    · unfold kas_ask
      have e1 : vs.getD i Value.none = vs[i] := by simp [hi]
      have e2 : vs.getD j Value.none = vs[j] := by simp [hj]
      refine Mine.E2 ?_ (strs_at hv i _ (List.getElem?_eq_getElem hi))
      intro x t
      refine And.elim ?_
      intro hx
      intro ex
      refine Mine.E2 ?_ (strs_at hv j _ (List.getElem?_eq_getElem hj))
      intro y u
      refine And.elim ?_
      intro hy
      intro ey
      rw [e1, e2, ex, ey]
      have hcv : pkI (xs.map fun x => ((0, x) : PK)) i j = decide (x.cps.toList < y.cps.toList) := by
        unfold pkI
        rw [List.getElem?_map, List.getElem?_map, hx, hy]
        show pkLt (0, x) (0, y) = _
        unfold pkLt
        rw [if_pos rfl]
      rw [hcv] at hc
      exact kas_lt_str hc
    · have hs := Srt.of hp.1 hp.2
      rw [hlen] at hs
      exact KasFin.intro F' N' (.head fun p hp => Nat.ne_of_lt (l1 p hp)) fun h'' c F'' N'' => h D h'' c p.toList F'' N'' l1 hs
end
end Mine
end
/-! part E7 -/
section
example : True := by w_top off; trivial
open PySem PySem.W PySem.Calls PyProof.Rows HeadC
set_option maxRecDepth 100000
namespace Mine
theorem strs_of {vs : List Value} {xs : List Str} (hl : vs.length = xs.length) (h : ∀ (j : Nat) y, vs[j]? = some y → ∃ x t, xs[j]? = some x ∧ y = .str x t) : StrsAre vs xs := by
  induction vs generalizing xs with
  | nil =>
    cases xs with
    | nil => exact .nil
    | cons x xs => simp at hl
  | cons v vs ih =>
    cases xs with
    | nil => simp at hl
    | cons x xs =>
      refine Mine.E2 ?_ (h 0 v rfl)
      intro x' t
      refine And.elim ?_
      intro h1
      intro hR1
      subst hR1
      cases h1
      exact .cons _ _ (ih (by simpa using hl) fun j y hj => h (j + 1) y (by simpa using hj))
theorem rng_sub (k : Nat) (h : k ≤ 8) : Builtin.Range.small 0 ((k : Int) - 2) 1 = true ∧ Builtin.Range.rangeSize 0 ((k : Int) - 2) 1 = ((k - 2 : Nat) : Int) := by
  have : ∀ k : Fin 9, Builtin.Range.small 0 (((k : Nat) : Int) - 2) 1 = true ∧ Builtin.Range.rangeSize 0 (((k : Nat) : Int) - 2) 1 = (((k : Nat) - 2 : Nat) : Int) := by decide
  exact this ⟨k, by lia⟩
theorem pick_three {l : List Value} {i : Nat} (h : i + 3 ≤ l.length) : kms_pick l (some (0 + (i : Int) * 1)) (some (0 + (i : Int) * 1 + 3)) = (l.drop i).take 3 := by
  have e0 : (0 : Int) + (i : Int) * 1 = (i : Int) := by lia
  rw [e0]
  have e : kms_lo (some (i : Int)) l.length = i := by
    show (if (i : Int) < 0 then l.length - (-(i : Int)).toNat else min (i : Int).toNat l.length) = _
    rw [if_neg (by lia), Int.toNat_natCast]; lia
  have e2 : kms_hi (some ((i : Int) + 3)) l.length = i + 3 := by
    show (if (i : Int) + 3 < 0 then l.length - (-((i : Int) + 3)).toNat else min ((i : Int) + 3).toNat l.length) = _
    rw [if_neg (by lia)]; lia
  unfold kms_pick
  rw [e, e2]
  congr 1
  lia
theorem three_ways {vs : List Value} {WL : List Way} (h : StrsAre vs (WL.map waS)) {i : Nat} (hi : i + 3 ≤ vs.length) :
    ∃ c0 c1 c2 t0 t1 t2, (vs.drop i).take 3 = [.str (waS c0) t0, .str (waS c1) t1, .str (waS c2) t2] ∧ c0 ∈ WL ∧ c1 ∈ WL ∧ c2 ∈ WL := by
  have at_ : ∀ j, j < vs.length → ∃ c t, vs[j]? = some (.str (waS c) t) ∧ c ∈ WL := fun j hj => by
    refine Mine.E2 ?_ (strs_at h j _ (List.getElem?_eq_getElem hj))
    intro x t
    refine And.elim ?_
    intro hx
    intro e
    rw [List.getElem?_map, Option.map_eq_some_iff] at hx
    refine Exists.elim hx ?_
    clear hx
    intro c
    refine And.elim ?_
    intro hc
    intro hR2
    subst hR2
    exact Mine.I2 c t ⟨by rw [List.getElem?_eq_getElem hj, e], List.mem_of_getElem? hc⟩
  refine Mine.E2 ?_ (at_ i (by lia))
  intro c0 t0
  refine And.elim ?_
  intro h0
  intro m0
  refine Mine.E2 ?_ (at_ (i + 1) (by lia))
  intro c1 t1
  refine And.elim ?_
  intro h1
  intro m1
  refine Mine.E2 ?_ (at_ (i + 2) (by lia))
  intro c2 t2
  refine And.elim ?_
  intro h2
  intro m2
  refine Mine.I6 c0 c1 c2 t0 t1 t2 ⟨?_, m0, m1, m2⟩
  apply List.ext_getElem?
  intro j
  match j with
  | 0 => simp [List.getElem?_drop, h0]
  | 1 => simp [List.getElem?_drop, h1]
  | 2 => simp [List.getElem?_drop, h2]
  | j + 3 => simp [List.getElem?_take]; lia
/-- the texts of the sorted ways, the first eight -/
theorem ways_eight {ys : List Value} {Ls : List Ent} {S : List Ent} {n : Nat} {lt : Nat → Nat → Bool} {o : List Nat} (hyl : ys.length = n) (hL : Ls.length = n) (hS : ∀ e ∈ Ls, e ∈ S) (hs : Srt n lt o)
    (hys : ∀ (j : Nat) y, ys[j]? = some y → ∃ e t, Ls[j]? = some e ∧ y = .str (waS e.2.2) t) :
    ∃ WL : List Way, StrsAre ((o.map fun i => ys.getD i Value.none).take 8) (WL.map waS) ∧ ∀ cs ∈ WL, ∃ e ∈ S, e.2.2 = cs := by
  have key : ∀ (o : List Nat), (∀ i ∈ o, i < n) → ∃ WL : List Way, StrsAre (o.map fun i => ys.getD i Value.none) (WL.map waS) ∧ ∀ cs ∈ WL, ∃ e ∈ S, e.2.2 = cs := by
    intro o
    induction o with
    | nil => exact fun _ => ⟨[], .nil, fun _ h => nomatch h⟩
    | cons i o ih =>
      intro hlow
      refine Exists.elim (ih fun j hj => hlow j (.tail _ hj)) ?_
      intro WL
      refine And.elim ?_
      intro h1
      intro h2
      have hi := hlow i (.head _)
      obtain ⟨y, hy⟩ : ∃ y, ys[i]? = some y := ⟨_, List.getElem?_eq_getElem (by lia)⟩
      refine Mine.E2 ?_ (hys i y hy)
      intro e t
      refine And.elim ?_
      intro he
      intro hR3
      subst hR3
      refine ⟨e.2.2 :: WL, ?_, fun cs hcs => ?_⟩
      · have e1 : ys.getD i Value.none = .str (waS e.2.2) t := by rw [List.getD_eq_getElem?_getD, hy]; rfl
        show StrsAre (ys.getD i Value.none :: _) (waS e.2.2 :: _)
        rw [e1]
        exact .cons _ _ h1
      · rcases List.mem_cons.mp hcs with rfl | hcs
        · exact ⟨e, hS e (List.mem_of_getElem? he), rfl⟩
        · exact h2 cs hcs
  rw [← List.map_take]
  exact key (o.take 8) fun i hi => hs.low i (List.mem_of_mem_take hi)
end Mine
end
/-! part T1 -/
section
example : True := by w_top off; trivial
open PySem PySem.W PyProof.Rows HeadC
set_option maxRecDepth 100000
namespace Mine
noncomputable def prC (d0 d1 d2 : Int) : Nm → Int
  | .n2 => 1 + d0.fmod 9
  | .n3 => 1 + d1.fmod 9
  | .nx => 1 + d2.fmod 9
theorem fmod9 (d : Int) : 1 ≤ 1 + d.fmod 9 ∧ 1 + d.fmod 9 ≤ 9 := by
  rw [Int.fmod_eq_emod_of_nonneg _ (by decide)]
  lia
noncomputable def stW (d3 d4 d5 d6 : Int) : W4 := ⟨(97 + d3.fmod 4).toNat.toUInt8, (97 + d4.fmod 4).toNat.toUInt8, (97 + d5.fmod 4).toNat.toUInt8, (97 + d6.fmod 4).toNat.toUInt8⟩
theorem stW_low (d3 d4 d5 d6 : Int) : low (stW d3 d4 d5 d6) := by
  have key : ∀ d : Int, ((97 + d.fmod 4).toNat.toUInt8).toNat < 128 := fun d => by
    rw [Int.fmod_eq_emod_of_nonneg _ (by decide)]
    show (97 + d % 4).toNat % 256 < 128
    lia
  exact ⟨key _, key _, key _, key _⟩
set_option maxHeartbeats 8000000 in
theorem tt : PySem.Challenge.rw_pd0166_01.Holds := by
  refine holds_law law_said fun said => HeadC.hd ⟨said, ?_⟩
  k_fill
  intro w s₀ s₁ mg mb G Y fa o pm cd doc dV kV ho hd hcd hD hmg hg args vals as hpre hlay hrd hwl hlo
  have KX := kIn_of Y
  have X := (Ground.X G).1
  have V := (Ground.X G).2
  refine Ground.open G ?_
  intro T B D TE TW
  try (refine guard_noD D (by decide +kernel) ?_; clear D)
  try ((fail_if_success (with_reducible show Gz)); with_reducible (first | (refine letW ?_; intro Gz) | (refine letWC ?_; intro Gz)))
  refine Mine.E2 ?_ (bmod_of_top T)
  intro _ _
  intro M
  have TA := at_of_top T
  try (obtain ⟨_, _, he, B0⟩ := based_of_top T rfl hmg ho hd; have he' : cd = _ := he; subst he'; clear he)
  clear hmg
  wrow_args hpre hlay hrd hwl hlo
  rename_i ns hs1 hlay0 hL1 hr1 hl2 a5 a6 sl vs as2 hL ra w1 r0 hI hr hlen hcond
  have K0 : Below callerA s₁.heap [] s₁.heap := below_caller _
  have he := Dflts.none hD rfl; subst he; have he := Dflts.noKw hD; subst he
  refine call_cellsC (by decide) ho (fd_plain hd) (Top.nolimit T) hcd rfl (kinds_of (by kinds_ok)) (by decide) fun h₁ tk₁ cells F N0 X0 => ?_
  refine Exists.elim (CellsAre.one X0) ?_
  intro oC
  refine And.elim ?_
  intro hE'
  intro dC
  subst hE'
  clear X0 hD hs1 hlay0 hL1 hr1 hl2 a5 a6 w1 r0 hr hd hcd TA B0 G Y X V B TE TW M ho ra hcond as2
  dsimp only
  (first | refine letEnv ?_ | refine letEnvC ?_); intro Az envz Qz Ez
  have hS0 : s₁.heap.IsList sl vs.toArray := hL
  refine frsG F (l := [("script", .ref sl)]) ⟨rfl, trivial⟩ ?_; clear F; intro _ F
  try ((fail_if_success (with_reducible show Gz)); with_reducible (first | (refine letW ?_; intro Gz) | (refine letWC ?_; intro Gz)))
  obtain ⟨h₀, hh0⟩ : ∃ h, h = s₁.heap := ⟨_, rfl⟩
  try ((fail_if_success (with_reducible show Gz)); with_reducible (first | (refine letW ?_; intro Gz) | (refine letWC ?_; intro Gz)))
  obtain ⟨L, hLL⟩ : ∃ x, x = h₀.objs.size := ⟨_, rfl⟩
  try ((fail_if_success (with_reducible show Gz)); with_reducible (first | (refine letW ?_; intro Gz) | (refine letWC ?_; intro Gz)))
  obtain ⟨cS, hcS⟩ : ∃ x, x = L + 1 := ⟨_, rfl⟩
  have hN1 : News s₁.heap s₁.heap.objs.size h₁ [(cS, oC)] := by rw [hcS, hLL, hh0]; exact N0
  refine execsC_cons (wpC_of ?_)
  (repeat ((fail_if_success (with_reducible show wpAny _ _ (PySem.eval (PySem.Expr.ListComp _ _ _ _) _) _ _ _)); walk1))
  have hvn : vs.length = ns.length := hI.length
  have hlen' : ns.length ≤ 63 := by lia
  refine comp_src (cl := []) F (by rfl) (by decide) (by rfl) (by decide) (by rfl) ?_
  (repeat ((fail_if_success (with_reducible show CSrc _ _ _ _ _ _ _ _ _)); walk1))
  rename_i D1 ws h2 F2 N2 hI7 hC7 hl7 l2
  have hwl : ws.length = (ns.take 7).length := hI7.length
  refine CSrc.intro N2 (src_list (l := D1) rfl F2 N2 (.head _)) (fun p hp => .inr (by rw [List.mem_singleton.mp hp]; exact .head _)) (by rw [sizeLine_eq, hwl, List.length_take]; lia) ?_
  intro g3 tk3
  refine comp_rest_inv (fun i ys nw => nw = (D1, listOf ws.toArray 0) :: (cS, oC) :: [] ∧ IntsAre ys (((ns.take 7).take i).map fun x => Int.fmod x 1000000)) ?_ ?_ _ 0 [] _ (Nat.zero_add _) ⟨rfl, .nil⟩
  · rintro i ys nw v I oI Cc oCc Dc m₂ h tk E' hi hz14 hv hCc hx F N off ne
    try ((fail_if_success (with_reducible show Gz)); with_reducible (first | (refine letW ?_; intro Gz) | (refine letWC ?_; intro Gz)))
    obtain ⟨rfl, hys⟩ := hz14
    try ((fail_if_success (with_reducible show wpAny _ _ _ Qz _ _)); with_reducible (first | (refine letQ ?_; intro Qz) | (refine letQC ?_; intro Qz)))
    try ((fail_if_success (with_reducible show wpAny _ _ _ _ _ Sz)); with_reducible (first | (refine letS ?_; intro Sz) | (refine letSC ?_; intro Sz)))
    try ((fail_if_success (with_reducible show Gz)); with_reducible (first | (refine letW ?_; intro Gz) | (refine letWC ?_; intro Gz)))
    refine Mine.E2 ?_ (hI7.at i v hv)
    intro x tx
    refine And.elim ?_
    intro hR1
    subst hR1
    intro hxx
    iterate 6 walk1
    rw [show (10 : Int) ^ Int.toNat 6 = 1000000 by decide +kernel]
    refine PyProof.Rows.mod_int (by decide) ?_
    refine LCg.CompEnd.intro F N _ (fun p hp => hp) off (fun p hp => .inr (by rw [List.mem_singleton.mp hp]; exact .head _)) ⟨rfl, ?_⟩
    rw [List.take_add_one, hxx, Option.toList_some, List.map_append]
    exact ints_snoc hys
  · rintro ys nw hz2 D2 h4 tk4 F4 N4 off4
    try ((fail_if_success (with_reducible show Gz)); with_reducible (first | (refine letW ?_; intro Gz) | (refine letWC ?_; intro Gz)))
    obtain ⟨rfl, hys⟩ := hz2
    try ((fail_if_success (with_reducible show wpAny _ _ _ Qz _ _)); with_reducible (first | (refine letQ ?_; intro Qz) | (refine letQC ?_; intro Qz)))
    try ((fail_if_success (with_reducible show wpAny _ _ _ _ _ Sz)); with_reducible (first | (refine letS ?_; intro Sz) | (refine letSC ?_; intro Sz)))
    rw [hwl, List.take_of_length_le (by lia)] at hys
    (repeat ((fail_if_success (with_reducible show wpAny _ _ (PyProof.Rows.subscriptTail _ _ _ _) _ _ _)); walk1))
    rename_i lB h5 F5 N5 l5
    try ((fail_if_success (with_reducible show Gz)); with_reducible (first | (refine letW ?_; intro Gz) | (refine letWC ?_; intro Gz)))
    obtain ⟨bv, hN5, hbI⟩ : ∃ bv, News s₁.heap s₁.heap.objs.size h5 [(lB, listOf bv.toArray 0), (D2, LCg.lst ys), (D1, listOf ws.toArray 0), (cS, oC)] ∧ IntsAre bv [2, 3, 4, 0, 1, 2, 0] :=
      ⟨_, N5, .cons _ _ (.cons _ _ (.cons _ _ (.cons _ _ (.cons _ _ (.cons _ _ (.cons _ _ .nil))))))⟩
    clear N5
    have N5 := hN5
    clear hN5
    refine kms_slice_lit F5 N5 (hS0.at fun o e => F5.keep _ _ e) .none (.int _ _) (pick_take vs 7) (fun D3 h6 F6 N6 l6 => ?_) (by with_unfolding_all rfl) (by intro _; with_unfolding_all rfl) (by rw [List.size_toArray, sizeLine_eq]; lia)
    (repeat ((fail_if_success (with_reducible show wpAny _ _ (PySem.call (Value.builtin _) _) _ _ _)); walk1))
    have hvl7 : (vs.take 7).length = (ns.take 7).length := by rw [List.length_take, List.length_take, hvn]
    refine PyProof.Rows.len_list (N6.isList (.head _)) (by rw [List.size_toArray, hvl7, List.length_take]; lia) ?_
    rw [show (List.take 7 vs).toArray.size = (ns.take 7).length from hvl7]
    (repeat ((fail_if_success (with_reducible show wpAny _ _ (PyProof.Rows.subscriptTail _ _ _ _) _ _ _)); walk1))
    refine kba_turn (value' := Expr.Name (Str.ofString "drawn") ⟨0, 0, 0, 0⟩) (fun _ => rfl) ?_
    refine kms_slice_lit F6 N6 (N6.isList (.tail _ (.head _))) (.int _ _) .none (pick_drop _ _) (fun D4 h7 F7 N7 l7 => ?_) (by with_unfolding_all rfl) (by intro _; with_unfolding_all rfl) (by have := hbI.length; simp only [List.size_toArray] at *; rw [this, sizeLine_eq]; exact Nat.le_of_ble_eq_true rfl)
    refine add_lists_ints (ns := (ns.take 7).map fun x => Int.fmod x 1000000) (ms := [2, 3, 4, 0, 1, 2, 0].drop (ns.take 7).length) F7 N7 (N7.isList (.tail _ (.tail _ (.tail _ (.head _))))) (N7.isList (.head _)) hys (ints_drop hbI _) (fun h8 F8 N8 hI8 => ?_) ?_
    rotate_left
    · have := drawnL_len ns
      unfold drawnL at this
      rw [List.length_append] at this
      rw [this, sizeLine_eq]
      exact Nat.le_of_ble_eq_true rfl
    try ((fail_if_success (with_reducible show Gz)); with_reducible (first | (refine letW ?_; intro Gz) | (refine letWC ?_; intro Gz)))
    obtain ⟨lD, hlD⟩ : ∃ x, x = h7.objs.size := ⟨_, rfl⟩
    try ((fail_if_success (with_reducible show Gz)); with_reducible (first | (refine letW ?_; intro Gz) | (refine letWC ?_; intro Gz)))
    refine Mine.E6 ?_ (ints_seven hI8 (drawnL_len ns))
    intro d0 d1 d2 d3 d4 d5
    refine Mine.E6 ?_
    intro d6 t0 t1 t2 t3 t4
    refine Mine.E2 ?_
    intro t5 t6
    refine And.elim ?_
    intro hd7
    intro hv7
    replace N8 : News s₁.heap s₁.heap.objs.size h8 [(lD, listOf [.int d0 t0, .int d1 t1, .int d2 t2, .int d3 t3, .int d4 t4, .int d5 t5, .int d6 t6].toArray 0), (cS, oC)] := fun p hp => by
      rcases List.mem_cons.mp hp with rfl | hp
      · rw [hlD, ← hv7]; exact N8 _ (.head _)
      · exact N8 p (.tail _ (.tail _ (.tail _ (.tail _ (.tail _ (.tail _ hp))))))
    show wpAny _ _ (storeName _ (Str.ofString "drawn") (.ref h7.objs.size)) _ _ _
    rw [← hlD]
    walk1
    rename_i h9 F9 N9
    refine frsG F9 (l := [("drawn", .ref lD)]) ⟨rfl, trivial⟩ ?_; clear F9; intro _ F9
    dsimp only
    refine tokC s₁ (fun tk9 => ?_)
    refine execsC_cons (wpC_of ?_)
    iterate 1 walk1
    refine kdn_eval (knd := PySem.strKind Challenge.rw_pd0166_01.row.prog w) F9 N9 (Top.nolimit T) (by rfl) (by rfl) (List.cons_ne_nil _ _) (by decide) ?_
    intro dP h10 oP F10 N10 lP loP hdP
    (repeat ((fail_if_success (with_reducible show PySem.W.KdnMade _ _ _ _ _ _ _)); walk1))
    refine kdn_made_str F10 N10 (.head fun p hp => Nat.ne_of_lt (lP p hp)) hdP rfl (by show List.Nodup [Str.ofString "2", Str.ofString "3", Str.ofString "x"]; decide) ?_
    intro h11 oP2 F11 N11 hdP2
    have hPT : PriceTab Challenge.rw_pd0166_01.row.prog w (prC d0 d1 d2) dP oP2 :=
      ⟨⟨_, hdP2, fun n => by cases n <;> exact ⟨_, rfl⟩⟩, loP, fun n => by cases n <;> exact (fmod9 _).1, fun n => by cases n <;> exact (fmod9 _).2⟩
    clear hdP2
    walk1
    rename_i h12 F12 N12
    refine frsG F12 (l := [("prices", .ref dP), ("drawn", .ref lD)]) ⟨rfl, rfl, trivial⟩ ?_; clear F12; intro _ F12
    dsimp only
    refine tokC s₁ (fun tk12 => ?_)
    refine execsC_cons (wpC_of ?_)
    (repeat ((fail_if_success (with_reducible show wpAny _ _ (PySem.eval (PySem.Expr.ListComp _ _ _ _) _) _ _ _)); walk1))
    refine comp_src (cl := []) F12 (by rfl) (by decide) (by rfl) (by decide) (by rfl) ?_
    (repeat ((fail_if_success (with_reducible show CSrc _ _ _ _ _ _ _ _ _)); walk1))
    rename_i D5 h13 F13 N13 l13
    have hI5 : IntsAre [Value.int d3 t3, .int d4 t4, .int d5 t5, .int d6 t6] [d3, d4, d5, d6] := .cons _ _ (.cons _ _ (.cons _ _ (.cons _ _ .nil)))
    refine CSrc.intro N13 (src_list (l := D5) (vs := [Value.int d3 t3, .int d4 t4, .int d5 t5, .int d6 t6]) rfl F13 N13 (.head _)) (fun p hp => .inr (by rw [List.mem_singleton.mp hp]; exact .head _)) (by rw [sizeLine_eq]; exact Nat.le_of_ble_eq_true rfl) ?_
    intro g14 tk14
    refine comp_rest_inv (fun i ys nw => nw = (D5, listOf [Value.int d3 t3, .int d4 t4, .int d5 t5, .int d6 t6].toArray 0) :: (dP, oP2) :: (lD, listOf [.int d0 t0, .int d1 t1, .int d2 t2, .int d3 t3, .int d4 t4, .int d5 t5, .int d6 t6].toArray 0) :: (cS, oC) :: [] ∧ IntsAre ys (([d3, d4, d5, d6].take i).map fun x => 97 + Int.fmod x 4)) ?_ ?_ 4 0 [] _ rfl ⟨rfl, .nil⟩
    · rintro i ys nw v I oI Cc oCc Dc m₂ h tk E' hi hz14 hv hCc hx F N off ne
      try ((fail_if_success (with_reducible show Gz)); with_reducible (first | (refine letW ?_; intro Gz) | (refine letWC ?_; intro Gz)))
      obtain ⟨rfl, hys⟩ := hz14
      try ((fail_if_success (with_reducible show wpAny _ _ _ Qz _ _)); with_reducible (first | (refine letQ ?_; intro Qz) | (refine letQC ?_; intro Qz)))
      try ((fail_if_success (with_reducible show wpAny _ _ _ _ _ Sz)); with_reducible (first | (refine letS ?_; intro Sz) | (refine letSC ?_; intro Sz)))
      try ((fail_if_success (with_reducible show Gz)); with_reducible (first | (refine letW ?_; intro Gz) | (refine letWC ?_; intro Gz)))
      refine Mine.E2 ?_ (hI5.at i v hv)
      intro x tx
      refine And.elim ?_
      intro hR2
      subst hR2
      intro hxx
      iterate 7 walk1
      refine LCg.CompEnd.intro F N _ (fun p hp => hp) off (fun p hp => .inr (by rw [List.mem_singleton.mp hp]; exact .head _)) ⟨rfl, ?_⟩
      rw [List.take_add_one, hxx, Option.toList_some, List.map_append]
      exact ints_snoc hys
    · rintro ys nw hz2 D6 h15 tk15 F15 N15 off15
      try ((fail_if_success (with_reducible show Gz)); with_reducible (first | (refine letW ?_; intro Gz) | (refine letWC ?_; intro Gz)))
      obtain ⟨rfl, hys⟩ := hz2
      try ((fail_if_success (with_reducible show wpAny _ _ _ Qz _ _)); with_reducible (first | (refine letQ ?_; intro Qz) | (refine letQC ?_; intro Qz)))
      try ((fail_if_success (with_reducible show wpAny _ _ _ _ _ Sz)); with_reducible (first | (refine letS ?_; intro Sz) | (refine letSC ?_; intro Sz)))
      (repeat ((fail_if_success (with_reducible show wpAny _ _ (PySem.call (Value.type _) _) _ _ _)); walk1))
      refine bytes_K F15 N15 (N15.isList (.head _)) hys ?_ ?_ rfl ?_
      · intro n hn
        try ((fail_if_success (with_reducible show Gz)); with_reducible (first | (refine letW ?_; intro Gz) | (refine letWC ?_; intro Gz)))
        refine Exists.elim (List.mem_map.mp hn) ?_
        intro x
        refine And.elim ?_
        intro _
        intro hR3
        subst hR3
        rw [Int.fmod_eq_emod_of_nonneg _ (by decide)]
        lia
      · rw [hys.length, sizeLine_eq]; exact Nat.le_of_ble_eq_true rfl
      intro h16 t16 k16 F16 N16 hAll
      show wpAny _ _ (storeName _ (Str.ofString "start") (.bytes (stW d3 d4 d5 d6).arr t16)) _ _ _
      walk1
      rename_i h17 F17 N17
      refine frsG F17 (l := [("start", .bytes (stW d3 d4 d5 d6).arr t16), ("prices", .ref dP)]) ⟨rfl, rfl, trivial⟩ ?_; clear F17; intro _ F17
      replace N17 : News s₁.heap s₁.heap.objs.size h17 [(dP, oP2), (cS, oC)] := News.sub N17 (fun p hp => by
        rcases List.mem_cons.mp hp with rfl | hp
        · exact .tail _ (.tail _ (.head _))
        · rw [List.mem_singleton.mp hp]; exact .tail _ (.tail _ (.tail _ (.tail _ (.head _)))))
      have hlow := stW_low d3 d4 d5 d6
      have hdPc : dP ≠ cS := Nat.ne_of_gt (lP (cS, oC) (.tail _ (.head _)))
      generalize hst : stW d3 d4 d5 d6 = st at F17 hlow
      (try clear hst); (try clear hAll); (try clear N16); (try clear F16); (try clear hys); (try clear N15); (try clear F15); (try clear off15); (try clear hI5); (try clear F13); (try clear N13); (try clear l13); (try clear F12); (try clear N12); (try clear hI8); (try clear hv7); (try clear hd7); (try clear N9); (try clear F9); (try clear lP); (try clear loP); (try clear hdP); (try clear F10); (try clear N10); (try clear F11); (try clear N11); (try clear hI7); (try clear hC7); (try clear hl7); (try clear l2); (try clear hwl); (try clear off4); (try clear N4); (try clear F4); (try clear F5); (try clear N5); (try clear hbI); (try clear l6); (try clear hvl7); (try clear l7); (try clear hN1); (try clear F2); (try clear N2)
      generalize prC d0 d1 d2 = c at hPT
      dsimp only
      refine tokC s₁ (fun tk17 => ?_)
      refine execsC_cons (AssignC (CallC_eval ?_))
      iterate 1 walk1
      refine callWithC KX (by rfl) ?_
      (repeat ((fail_if_success (with_reducible show wpC _ _ _ _ _ _)); walk1))
      refine CallD.use (c_byteswap (d := st.arr) (wd := 4) (q := 1) rfl (by decide) (by decide) (by show 4 < 1000; decide) (by show Builtin.Range.small 0 4 4 = true; decide +kernel) (by show Builtin.Range.rangeSize 0 4 4 = 1; decide +kernel) (by decide +kernel) (by decide +kernel)) K0 F17 KX N17 T rfl (Nat.le_of_ble_eq_true rfl) (Nat.le_of_ble_eq_true rfl) ?_
      rintro r news' h18 tk18 F18 N18 hz6
      try ((fail_if_success (with_reducible show Gz)); with_reducible (first | (refine letW ?_; intro Gz) | (refine letWC ?_; intro Gz)))
      obtain ⟨⟨t18, rfl⟩, rfl⟩ := hz6
      try ((fail_if_success (with_reducible show wpAny _ _ _ Qz _ _)); with_reducible (first | (refine letQ ?_; intro Qz) | (refine letQC ?_; intro Qz)))
      try ((fail_if_success (with_reducible show wpAny _ _ _ _ _ Sz)); with_reducible (first | (refine letS ?_; intro Sz) | (refine letSC ?_; intro Sz)))
      rw [bsw_4]
      refine wpC_of ?_
      iterate 1 walk1
      rename_i h19 F19 N19
      refine frsG F19 (l := [("whole", .bytes #[st.d, st.c, st.b, st.a] t18), ("start", .bytes st.arr t16), ("prices", .ref dP)]) ⟨rfl, rfl, rfl, trivial⟩ ?_; clear F19; intro _ F19
      refine tokC s₁ (fun tk19 => ?_)
      refine execsC_cons (wpC_of ?_)
      (repeat ((fail_if_success (with_reducible show wpAny _ _ (PySem.call (Value.type _) _) _ _ _)); walk1))
      refine call_type_of (Tx := "bytes") rfl (by decide +kernel) ?_
      (repeat ((fail_if_success (with_reducible show wpAny _ _ (PyProof.Rows.subscriptTail _ _ _ _) _ _ _)); walk1))
      refine slice_rev F19 N19 (fun h20 t20 k20 F20 N20 => ?_)
      iterate 2 walk1
      rw [if_neg (by simp)]
      iterate 1 walk1
      rw [if_neg (by simp)]
      refine wpAny_execs_nil ?_
      dsimp only
      refine tokC s₁ (fun tk20 => ?_)
      refine execsC_cons (AssignC (CallC_eval ?_))
      iterate 1 walk1
      refine callWithC KX (by rfl) ?_
      (repeat ((fail_if_success (with_reducible show wpC _ _ _ _ _ _)); walk1))
      refine CallD.use (c_settled (st := st) (c := c) (.head _) hPT) K0 F20 KX N20 T rfl (Nat.le_of_ble_eq_true rfl) (Nat.le_of_ble_eq_true rfl) ?_
      rintro r news' h21 tk21 F21 N21 hz6
      try ((fail_if_success (with_reducible show Gz)); with_reducible (first | (refine letW ?_; intro Gz) | (refine letWC ?_; intro Gz)))
      refine Mine.E5 ?_ hz6
      clear hz6
      intro D1 o1 kvs1 S1 ex1
      refine Mine.A8 ?_
      intro hR4
      subst hR4
      intro hR5
      subst hR5
      intro lo1 hne1 hd1 hR1 hD1
      intro h01
      try ((fail_if_success (with_reducible show wpAny _ _ _ Qz _ _)); with_reducible (first | (refine letQ ?_; intro Qz) | (refine letQC ?_; intro Qz)))
      try ((fail_if_success (with_reducible show wpAny _ _ _ _ _ Sz)); with_reducible (first | (refine letS ?_; intro Sz) | (refine letSC ?_; intro Sz)))
      try ((fail_if_success (with_reducible show Gz)); with_reducible (first | (refine letW ?_; intro Gz) | (refine letWC ?_; intro Gz)))
      refine Exists.elim (ex_clean N21 (.tail _ (.head _)) dC hR1) ?_
      intro ex
      refine Mine.A3 ?_
      intro hexc hexs
      intro hR1
      have hDc : D1 ≠ cS := (hne1 (cS, oC) (List.mem_append_right _ (.tail _ (.head _)))).symm
      replace N21 : News s₁.heap s₁.heap.objs.size h21 ((D1, o1) :: ((ex ++ [(dP, oP2)]) ++ (cS, oC) :: [])) := News.sub N21 (fun p hp => by
        rcases List.mem_cons.mp hp with rfl | hp
        · exact .head _
        rcases List.mem_append.mp hp with hp | hp
        · rcases List.mem_append.mp hp with hp | hp
          · exact .tail _ (List.mem_append_left _ (hexs p hp))
          · rw [List.mem_singleton.mp hp]; exact .tail _ (List.mem_append_right _ (.head _))
        · rw [List.mem_singleton.mp hp]; exact .tail _ (List.mem_append_right _ (.tail _ (.head _))))
      have hexp : ∀ p ∈ ex ++ [(dP, oP2)], p.1 ≠ cS := fun p hp => by
        rcases List.mem_append.mp hp with hp | hp
        · exact hexc p hp
        · rw [List.mem_singleton.mp hp]; exact hdPc
      refine wpC_of ?_
      refine storeX_C (o := oC) (c := cS) F21 N21 (by rw [hcS, hLL, hh0]; rfl) (.tail hDc (updF_app _ [] hexp (fun _ h => nomatch h))) dC ?_ rfl rfl
      intro h22 oS F22 N22 dS
      try dsimp only at N22
      have hR1' : TabR (EntV ((D1, o1) :: ((ex ++ [(dP, oP2)]) ++ (cS, oS) :: []))) S1 kvs1 := hR1.mono fun e x ⟨a, t, u, n, e1, h1⟩ => Mine.I4 a t u n ⟨e1, by
        rcases List.mem_append.mp h1 with h | h
        · exact .tail _ (List.mem_append_left _ (List.mem_append_left _ h))
        rcases List.mem_cons.mp h with h | h
        · exact .tail _ (List.mem_append_left _ (List.mem_append_right _ (by rw [h]; exact .head _)))
        · cases List.mem_singleton.mp h; exact absurd dC (by intro q; cases q)⟩
      try ((fail_if_success (with_reducible show Gz)); with_reducible (first | (refine letW ?_; intro Gz) | (refine letWC ?_; intro Gz)))
      obtain ⟨led, hled⟩ : ∃ led, led = (D1, o1) :: ((ex ++ [(dP, oP2)]) ++ (cS, oS) :: []) := ⟨_, rfl⟩
      have mD1 : (D1, o1) ∈ led := by rw [hled]; exact .head _
      have mdP : (dP, oP2) ∈ led := by rw [hled]; exact .tail _ (List.mem_append_left _ (List.mem_append_right _ (.head _)))
      have mcS : (cS, oS) ∈ led := by rw [hled]; exact .tail _ (List.mem_append_right _ (.head _))
      rw [← hled] at N22 hR1'
      (try clear hR1); (try clear hexc); (try clear hexs); (try clear hexp); (try clear hled); (try clear N21); (try clear F21); (try clear N20); (try clear F20); (try clear F19); (try clear N19); (try clear F18); (try clear N18); (try clear F17); (try clear N17)
      have hF1 : Fin1 st c S1 := hD1.fin hPT.pos h01
      refine frsG F22 (l := [("start", .bytes st.arr t16), ("prices", .ref dP)]) ⟨rfl, rfl, trivial⟩ ?_; clear F22; intro _ F22
      refine tokC s₁ (fun tk22 => ?_)
      refine execsC_cons (wpC_of ?_)
      (repeat ((fail_if_success (with_reducible show wpAny _ _ (PySem.eval (PySem.Expr.Name (Str.ofString "settled") _) _) _ _ _)); walk1))
      refine nameX_C (o := oS) (c := cS) N22 (by rw [hcS, hLL, hh0]; rfl) mcS dS ?_ rfl rfl
      (repeat ((fail_if_success (with_reducible show wpAny _ _ (PySem.call (Value.ref _) _) _ _ _)); walk1))
      refine CallC.use (c_text (x := st) (t := t16)) K0 F22 KX N22 T rfl (Nat.le_of_ble_eq_true rfl) (Nat.le_of_ble_eq_true rfl) ?_
      rintro r led2 h23 tk23 F23 N23 hz6
      try ((fail_if_success (with_reducible show Gz)); with_reducible (first | (refine letW ?_; intro Gz) | (refine letWC ?_; intro Gz)))
      obtain ⟨⟨t23, rfl⟩, rfl⟩ := hz6
      try ((fail_if_success (with_reducible show wpAny _ _ _ Qz _ _)); with_reducible (first | (refine letQ ?_; intro Qz) | (refine letQC ?_; intro Qz)))
      try ((fail_if_success (with_reducible show wpAny _ _ _ _ _ Sz)); with_reducible (first | (refine letS ?_; intro Sz) | (refine letSC ?_; intro Sz)))
      (repeat ((fail_if_success (with_reducible show wpAny _ _ (PySem.call (Value.ref _) _) _ _ _)); walk1))
      refine CallC.use (c_told (st := st) (c := c) (t := t23) mdP hPT) K0 F23 KX N23 T rfl (Nat.le_of_ble_eq_true rfl) (Nat.le_of_ble_eq_true rfl) ?_
      rintro r news' h24 tk24 F24 N24 hz6
      try ((fail_if_success (with_reducible show Gz)); with_reducible (first | (refine letW ?_; intro Gz) | (refine letWC ?_; intro Gz)))
      refine Mine.E5 ?_ hz6
      clear hz6
      intro D2 o2 kvs2 S2 ex2
      refine Mine.A6 ?_
      intro hR6
      subst hR6
      intro hR7
      subst hR7
      intro lo2 hne2 hd2
      refine And.elim ?_
      intro hR2
      intro hF2
      try ((fail_if_success (with_reducible show wpAny _ _ _ Qz _ _)); with_reducible (first | (refine letQ ?_; intro Qz) | (refine letQC ?_; intro Qz)))
      try ((fail_if_success (with_reducible show wpAny _ _ _ _ _ Sz)); with_reducible (first | (refine letS ?_; intro Sz) | (refine letSC ?_; intro Sz)))
      have hlen12 : kvs1.length = kvs2.length := by
        rw [hR1'.len, hR2.len]
        exact same_len (nodup_of_fst hF1.nodup) (nodup_of_fst hF2.nodup) (fin_eq hPT.pos hF1 hF2)
      refine kne_pairs N24 (.tail _ (List.mem_append_right _ mD1)) (.head _) hd1 hd2 lo1 lo2 hlen12 (Nat.le_of_ble_eq_true rfl)
        (tabs_hits (hR1'.mono fun e x hx => EntV.mono (fun p hp => .tail _ (List.mem_append_right _ hp)) _ _ hx) (hR2.mono fun e x hx => EntV.mono (fun p hp => .tail _ hp) _ _ hx) (fun e he => (fin_eq hPT.pos hF1 hF2 e).mp he) hF2.nodup N24 (Nat.le_of_ble_eq_true rfl)) ?_
      iterate 2 walk1
      refine wpAny_execs_nil ?_
      dsimp only
      replace N24 : News s₁.heap s₁.heap.objs.size h24 led2 := News.sub N24 (fun p hp => .tail _ (List.mem_append_right _ hp))
      clear hR2 hF2 hd2 hne2 lo2 hlen12 N23 F23 N22 F22
      refine tokC s₁ (fun tk24 => ?_)
      refine execsC_cons (wpC_of ?_)
      (repeat ((fail_if_success (with_reducible show wpAny _ _ (PySem.eval (PySem.Expr.ListComp _ _ _ _) _) _ _ _)); walk1))
      try ((fail_if_success (with_reducible show Gz)); with_reducible (first | (refine letW ?_; intro Gz) | (refine letWC ?_; intro Gz)))
      obtain ⟨n, hn⟩ : ∃ n, kvs1.length = n := ⟨_, rfl⟩
      have hS1len : S1.length = n := by rw [← hn, hR1'.len]
      have hn24 : n ≤ 24 := by rw [← hS1len]; exact hD1.size
      refine comp_src (cl := [("settled", cS)]) F24 (by rw [hcS, hLL, hh0]; rfl) (by decide) (by rfl) (by decide) (by rfl) ?_
      refine nameX_C (o := oS) (c := cS) N24 (by rw [hcS, hLL, hh0]; rfl) mcS dS ?_ rfl rfl
      refine CSrc.intro N24 (src_dict (kvs := kvs1) rfl F24 N24 mD1 hd1 lo1) (fun p hp => .inr (by rw [List.mem_singleton.mp hp]; exact mD1)) (by rw [sizeLine_eq, hn]; lia) ?_
      rw [hn]
      intro g tk2
      refine comp_rest_inv (fun i ys nw => ∃ ex, nw = ex ++ led2 ∧ ys.length = i ∧ ∀ (j : Nat) y, ys[j]? = some y → ∃ e, S1[j]? = some e ∧ TripAt ex y e) ?_ ?_ n 0 [] _ (Nat.zero_add n) ⟨[], rfl, rfl, fun j y h => by simp at h⟩
      · rintro i ys nw v I oI Cc oCc Dc m₂ h tk E' hi hz14 hz15 hCc hx F N off ne
        try ((fail_if_success (with_reducible show Gz)); with_reducible (first | (refine letW ?_; intro Gz) | (refine letWC ?_; intro Gz)))
        refine Exists.elim hz14 ?_
        clear hz14
        intro ex
        refine Mine.A3 ?_
        intro hnw hyl
        intro hys
        refine Mine.E3 ?_ hz15
        clear hz15
        intro k x u
        refine And.elim ?_
        intro hk
        intro hR8
        subst hR8
        try ((fail_if_success (with_reducible show wpAny _ _ _ Qz _ _)); with_reducible (first | (refine letQ ?_; intro Qz) | (refine letQC ?_; intro Qz)))
        try ((fail_if_success (with_reducible show wpAny _ _ _ _ _ Sz)); with_reducible (first | (refine letS ?_; intro Sz) | (refine letSC ?_; intro Sz)))
        try ((fail_if_success (with_reducible show Gz)); with_reducible (first | (refine letW ?_; intro Gz) | (refine letWC ?_; intro Gz)))
        refine Mine.E2 ?_ (hR1'.at hk)
        intro x' e
        refine Mine.A3 ?_
        intro hL hR9
        subst hR9
        intro _
        subst hnw
        try ((fail_if_success (with_reducible show Gz)); with_reducible (first | (refine letW ?_; intro Gz) | (refine letWC ?_; intro Gz)))
        refine Exists.elim (hR1'.here hD1.nodup (List.mem_of_getElem? hL)) ?_
        intro vq
        refine And.elim ?_
        intro hvq
        intro hentq
        try ((fail_if_success (with_reducible show Gz)); with_reducible (first | (refine letW ?_; intro Gz) | (refine letWC ?_; intro Gz)))
        refine Mine.E4 ?_ hentq
        clear hentq
        intro aq t1 t2 nq
        refine And.elim ?_
        intro hR10
        subst hR10
        intro haq
        (repeat ((fail_if_success (with_reducible show wpAny _ _ (PySem.eval (PySem.Expr.Name (Str.ofString "settled") _) _) _ _ _)); walk1))
        refine lcf_cell (o := oS) (c := cS) N (by rfl) (.tail _ (.tail _ (.tail _ (List.mem_append_right _ mcS)))) dS ?_ (by rfl) (by rfl)
        (repeat ((fail_if_success (with_reducible show wpAny _ _ (PyProof.Rows.subscriptTail _ _ _ _) _ _ _)); walk1))
        refine kda_item N (.tail _ (.tail _ (.tail _ (List.mem_append_right _ mD1)))) hd1 (strKind_is _ _ _ _) hvq ?_
        (repeat ((fail_if_success (with_reducible show wpAny _ _ (PyProof.Rows.subscriptTail _ _ _ _) _ _ _)); walk1))
        refine item_tupleT (News.isTup N (.tail _ (.tail _ (.tail _ (List.mem_append_right _ haq))))) (by decide) (by decide) rfl rfl ?_
        (repeat ((fail_if_success (with_reducible show wpAny _ _ (PySem.eval (PySem.Expr.Name (Str.ofString "settled") _) _) _ _ _)); walk1))
        refine lcf_cell (o := oS) (c := cS) N (by rfl) (.tail _ (.tail _ (.tail _ (List.mem_append_right _ mcS)))) dS ?_ (by rfl) (by rfl)
        (repeat ((fail_if_success (with_reducible show wpAny _ _ (PyProof.Rows.subscriptTail _ _ _ _) _ _ _)); walk1))
        refine kda_item N (.tail _ (.tail _ (.tail _ (List.mem_append_right _ mD1)))) hd1 (strKind_is _ _ _ _) hvq ?_
        (repeat ((fail_if_success (with_reducible show wpAny _ _ (PyProof.Rows.subscriptTail _ _ _ _) _ _ _)); walk1))
        refine item_tupleT (News.isTup N (.tail _ (.tail _ (.tail _ (List.mem_append_right _ haq))))) (by decide) (by decide) rfl rfl ?_
        iterate 4 walk1
        rename_i aY hY FY NY lY
        try ((fail_if_success (with_reducible show Gz)); with_reducible (first | (refine letW ?_; intro Gz) | (refine letWC ?_; intro Gz)))
        refine Exists.elim (Mine.News.named NY) ?_
        intro oY
        refine And.elim ?_
        intro hoY
        intro NY
        refine LCg.CompEnd.intro FY NY ((aY, oY) :: (ex ++ led2)) (fun q hq => ?_) ⟨⟨Nat.ne_of_gt lY.1, Nat.ne_of_gt lY.2.1, Nat.ne_of_gt lY.2.2.1⟩, off⟩ (fun q hq => .inr (by rw [List.mem_singleton.mp hq]; exact .tail _ (List.mem_append_right _ mD1))) ⟨(aY, oY) :: ex, rfl, by simp [hyl], fun j y hj => ?_⟩
        · rcases List.mem_cons.mp hq with rfl | hq
          · exact .tail _ (.head _)
          rcases List.mem_cons.mp hq with rfl | hq
          · exact .tail _ (.tail _ (.head _))
          rcases List.mem_cons.mp hq with rfl | hq
          · exact .tail _ (.tail _ (.tail _ (.head _)))
          rcases List.mem_cons.mp hq with rfl | hq
          · exact .head _
          · exact .tail _ (.tail _ (.tail _ (.tail _ hq)))
        · rcases Nat.lt_or_ge j i with hji | hji
          · rw [List.getElem?_append_left (by lia)] at hj
            try ((fail_if_success (with_reducible show Gz)); with_reducible (first | (refine letW ?_; intro Gz) | (refine letWC ?_; intro Gz)))
            refine Exists.elim (hys j y hj) ?_
            intro e'
            refine And.elim ?_
            intro h1
            intro h2
            exact ⟨e', h1, h2.mono fun q hq => .tail _ hq⟩
          · rw [List.getElem?_append_right (by lia), hyl] at hj
            have hji' : j = i := by
              rcases Nat.eq_or_lt_of_le hji with h | h
              · exact h.symm
              · try ((fail_if_success (with_reducible show Gz)); with_reducible (first | (refine letW ?_; intro Gz) | (refine letWC ?_; intro Gz)))
                obtain ⟨k, hk⟩ : ∃ k, j - i = k + 1 := ⟨j - i - 1, by lia⟩
                rw [hk] at hj; simp at hj
            subst hji'
            rw [Nat.sub_self] at hj
            cases hj
            exact ⟨(x', e), ⟨hL, Mine.I5 aY _ _ _ _ ⟨rfl, by rw [hoY]; exact .head _⟩⟩⟩
      · rintro ys nw hz2
        try ((fail_if_success (with_reducible show Gz)); with_reducible (first | (refine letW ?_; intro Gz) | (refine letWC ?_; intro Gz)))
        refine Exists.elim hz2 ?_
        clear hz2
        intro ex
        refine Mine.A3 ?_
        intro hnw hyl
        intro hys
        try ((fail_if_success (with_reducible show wpAny _ _ _ Qz _ _)); with_reducible (first | (refine letQ ?_; intro Qz) | (refine letQC ?_; intro Qz)))
        try ((fail_if_success (with_reducible show wpAny _ _ _ _ _ Sz)); with_reducible (first | (refine letS ?_; intro Sz) | (refine letSC ?_; intro Sz)))
        intro lY h25 tk25 F25 N25 off
        iterate 1 walk1
        have hks : (S1.map fun e => ((e.2.1, waS e.2.2) : PK)).Nodup := by
          have := nodup_of_fst hD1.nodup
          rw [List.nodup_iff_pairwise_ne] at this ⊢
          rw [List.pairwise_map]
          refine this.imp_of_mem fun {a b} ha hb hab q => hab ?_
          have q1 : a.2.1 = b.2.1 := (Prod.mk.inj q).1
          have q2 : a.2.2 = b.2.2 := waS_inj (Prod.mk.inj q).2
          have q3 : a.1 = b.1 := by rw [hD1.runS a ha, hD1.runS b hb, q2]
          exact Prod.ext q3 (Prod.ext q1 q2)
        refine sorted_tups (vs := ys) (ks := S1.map fun e => ((e.2.1, waS e.2.2) : PK)) F25 N25 (.head _) (by rw [List.length_map, hS1len, hyl]) (by rw [List.length_map]; lia) hks (Nat.le_of_ble_eq_true rfl) (fun i v k hv hk => ?_) ?_
        · try ((fail_if_success (with_reducible show Gz)); with_reducible (first | (refine letW ?_; intro Gz) | (refine letWC ?_; intro Gz)))
          refine Exists.elim (hys i v hv) ?_
          intro e
          refine And.elim ?_
          intro h1
          intro h2
          rw [List.getElem?_map, h1] at hk
          cases hk
          rw [hnw]
          exact (h2.mono fun q hq => .tail _ (List.mem_append_left _ hq)).tup
        intro sD h26 sc ord F26 N26 lsD hSrt
        iterate 1 walk1
        rename_i h27 F27 N27
        rw [List.length_map, hS1len] at hSrt
        try ((fail_if_success (with_reducible show Gz)); with_reducible (first | (refine letW ?_; intro Gz) | (refine letWC ?_; intro Gz)))
        obtain ⟨led3, vsR, nR, Ls, N28, mR, hRl, hLl, hLn, hLS, hRa⟩ : ∃ (led3 : List (Addr × Obj)) (vsR : List Value) (nR : Nat) (Ls : List Ent), News s₁.heap s₁.heap.objs.size h27 led3 ∧ (sD, W.listOf vsR.toArray nR) ∈ led3 ∧ vsR.length = n ∧ Ls.length = n ∧ (Ls.map fun e => waS e.2.2).Nodup ∧ (∀ e ∈ Ls, e ∈ S1) ∧ ∀ (i : Nat) v, vsR[i]? = some v → ∃ e, Ls[i]? = some e ∧ TripAt led3 v e := by
          rw [← hS1len] at hSrt
          refine Mine.I4 _ _ _ (ord.map fun i => S1.getD i (st, 0, [])) ⟨N27, .head _, by rw [List.length_map, hSrt.len, hS1len], by rw [List.length_map, hSrt.len, hS1len], srt_nodup hSrt ?_, fun e he => (srt_mem hSrt).mp he, fun i v hv => ?_⟩
          · have := nodup_of_fst hD1.nodup
            rw [List.nodup_iff_pairwise_ne] at this ⊢
            rw [List.pairwise_map]
            refine (List.pairwise_map.mp (List.nodup_iff_pairwise_ne.mp hD1.nodup)).imp_of_mem fun {a b} ha hb hab q => hab ?_
            rw [hD1.runS a ha, hD1.runS b hb, waS_inj q]
          · rw [List.getElem?_map, Option.map_eq_some_iff] at hv
            try ((fail_if_success (with_reducible show Gz)); with_reducible (first | (refine letW ?_; intro Gz) | (refine letWC ?_; intro Gz)))
            refine Exists.elim hv ?_
            clear hv
            intro k
            refine And.elim ?_
            intro hk
            intro hR11
            subst hR11
            have hkn : k < S1.length := hSrt.low k (List.mem_of_getElem? hk)
            try ((fail_if_success (with_reducible show Gz)); with_reducible (first | (refine letW ?_; intro Gz) | (refine letWC ?_; intro Gz)))
            obtain ⟨y, hy⟩ : ∃ y, ys[k]? = some y := ⟨_, List.getElem?_eq_getElem (by lia)⟩
            try ((fail_if_success (with_reducible show Gz)); with_reducible (first | (refine letW ?_; intro Gz) | (refine letWC ?_; intro Gz)))
            refine Exists.elim (hys k y hy) ?_
            intro e
            refine And.elim ?_
            intro h1
            intro h2
            refine ⟨e, ?_, ?_⟩
            · rw [List.getElem?_map, hk, Option.map_some, List.getD_eq_getElem?_getD, h1]; rfl
            · rw [List.getD_eq_getElem?_getD, hy]
              rw [hnw]
              exact h2.mono fun q hq => .tail _ (.tail _ (List.mem_append_left _ hq))
        have hRv : TripsOf led3 S1 vsR := fun v hv => by
          try ((fail_if_success (with_reducible show Gz)); with_reducible (first | (refine letW ?_; intro Gz) | (refine letWC ?_; intro Gz)))
          obtain ⟨i, hi⟩ := List.mem_iff_getElem?.mp hv
          try ((fail_if_success (with_reducible show Gz)); with_reducible (first | (refine letW ?_; intro Gz) | (refine letWC ?_; intro Gz)))
          refine Exists.elim (hRa i v hi) ?_
          intro e
          refine And.elim ?_
          intro h1
          intro h2
          exact ⟨e, hLS e (List.mem_of_getElem? h1), h2⟩
        (try clear N27); (try clear N26); (try clear F26); (try clear N25); (try clear F25); clear lsD hSrt off
        refine frsG F27 (l := [("rows", .ref sD), ("start", .bytes st.arr t16)]) ⟨rfl, rfl, trivial⟩ ?_; clear F27; intro _ F27
        refine tokC s₁ (fun tk27 => ?_)
        refine execsC_cons (ForC ?_)
        (repeat ((fail_if_success (with_reducible show wpAny _ _ (PyProof.Rows.subscriptTail _ _ _ _) _ _ _)); walk1))
        have hvl : vsR.toArray.size ≤ 24 := by rw [List.size_toArray, hRl]; exact hn24
        refine kms_slice_lit F27 N28 (N28.isList mR) (.int _ _) .none rfl (fun Z h28 F28 N29 l28 => ?_) (by with_unfolding_all rfl) (by intro _; with_unfolding_all rfl) (by rw [sizeLine_eq]; lia)
        generalize hzs : kms_pick vsR.toArray.toList (some _) none = zs at N29 ⊢
        have hzv : ∀ v ∈ zs, v ∈ vsR := fun v hv => by rw [← hzs] at hv; simpa using pick_mem hv
        refine iter_loopC (fun i m1 news1 => news1 = (Z, W.listOf zs.toArray 0) :: led3 ∧ Has m1 [("rows", .ref sD), ("start", .bytes st.arr t16)])
          (fun m1 news1 => news1 = (Z, W.listOf zs.toArray 0) :: led3 ∧ Has m1 [("rows", .ref sD), ("start", .bytes st.arr t16)])
          (srcT_list rfl F28 N29 (.head _)) (fun p hp => .inr fun i m₁ news₁ hJ => by rw [List.mem_singleton.mp hp, hJ.1]; exact .head _) ⟨rfl, rfl, rfl, trivial⟩ ?_ (fun _ _ h => h) ?_
        · rintro i v m1 news1 h29 tk29 I oI hi hv hlt hnI hz12 F29 N29
          try ((fail_if_success (with_reducible show Gz)); with_reducible (first | (refine letW ?_; intro Gz) | (refine letWC ?_; intro Gz)))
          obtain ⟨rfl, hm1⟩ := hz12
          try ((fail_if_success (with_reducible show wpAny _ _ _ Qz _ _)); with_reducible (first | (refine letQ ?_; intro Qz) | (refine letQC ?_; intro Qz)))
          try ((fail_if_success (with_reducible show wpAny _ _ _ _ _ Sz)); with_reducible (first | (refine letS ?_; intro Sz) | (refine letSC ?_; intro Sz)))
          try ((fail_if_success (with_reducible show Gz)); with_reducible (first | (refine letW ?_; intro Gz) | (refine letWC ?_; intro Gz)))
          refine Exists.elim (hRv v (hzv v (List.mem_of_getElem? hv))) ?_
          intro e
          refine And.elim ?_
          intro heS
          refine Mine.E5 ?_
          intro aT u1 u2 u3 nT
          refine And.elim ?_
          intro hR12
          subst hR12
          intro hT
          have hTup := News.isTup N29 (.tail _ (.tail _ hT))
          refine frsG F29 hm1 ?_; clear F29; intro _ F29
          (repeat ((fail_if_success (with_reducible show wpC _ _ _ _ _ _)); walk1))
          rename_i h30 F30 N30
          refine execsC_cons (IfC (CompareC (CallC_eval ?_)))
          iterate 1 walk1
          refine callWithC KX (by rfl) ?_
          (repeat ((fail_if_success (with_reducible show wpAny _ _ (PySem.eval (PySem.Expr.ListComp _ _ _ _) _) _ _ _)); walk1))
          refine frsG F30 (l := [("price", .int e.2.1 u1), ("way", .str (waS e.2.2) u2), ("text", .str e.1.txt u3), ("rows", .ref sD), ("start", .bytes st.arr t16)]) ⟨rfl, rfl, rfl, rfl, rfl, trivial⟩ ?_; clear F30; intro _ F30
          have hle : low e.1 := by rw [hD1.runS e heS]; exact low_run hlow _
          refine comp_src (cl := []) F30 (by rfl) (by decide) (by rfl) (by decide) (by rfl) ?_
          iterate 1 walk1
          refine CSrc.intro N30 (src_str rfl (txt_all hle) F30 N30) (fun _ h => nomatch h) (by rw [sizeLine_eq]; exact Nat.le_of_ble_eq_true rfl) ?_
          intro g tk
          refine comp_rest_inv (fun i ys nw => nw = (I, oI) :: (Z, W.listOf zs.toArray 0) :: led3 ∧ IntsAre ys ((e.1.txt.cps.toList.take i).map fun c : Nat => (c : Int))) ?_ ?_ 4 0 [] _ rfl ⟨rfl, .nil⟩
          · rintro i ys nw v Ic oIc Cc oCc Dc m₂ h tk E' hi hz14 hz15 hCc hx F N off ne
            obtain ⟨rfl, hys⟩ := hz14
            refine Mine.E2 ?_ hz15
            clear hz15
            intro c' u
            refine And.elim ?_
            intro hc'
            intro hR13
            subst hR13
            try ((fail_if_success (with_reducible show wpAny _ _ _ Qz _ _)); with_reducible (first | (refine letQ ?_; intro Qz) | (refine letQC ?_; intro Qz)))
            try ((fail_if_success (with_reducible show wpAny _ _ _ _ _ Sz)); with_reducible (first | (refine letS ?_; intro Sz) | (refine letSC ?_; intro Sz)))
            iterate 2 walk1
            k_dflt (refine LCgL.ld_built (by k_asm) (by k_asm) (by k_asm) (by k_is) (by boot_by_name) (by decide) ?_)
            (repeat ((fail_if_success (with_reducible show wpAny _ _ (PySem.call (Value.builtin _) _) _ _ _)); walk1))
            refine ord_of_one rfl ?_
            refine LCg.CompEnd.intro F N _ (fun p hp => hp) off (fun _ h => nomatch h) ⟨rfl, ?_⟩
            have hc2 : e.1.txt.cps.toList[i]? = some c' := by simpa using hc'
            rw [List.take_add_one, hc2, Option.toList_some, List.map_append]
            exact ints_snoc hys
          · rintro ys nw hz2 D6 h31 tk31 F31 N31 off31
            obtain ⟨rfl, hys⟩ := hz2
            try ((fail_if_success (with_reducible show wpAny _ _ _ Qz _ _)); with_reducible (first | (refine letQ ?_; intro Qz) | (refine letQC ?_; intro Qz)))
            try ((fail_if_success (with_reducible show wpAny _ _ _ _ _ Sz)); with_reducible (first | (refine letS ?_; intro Sz) | (refine letSC ?_; intro Sz)))
            (repeat ((fail_if_success (with_reducible show wpAny _ _ (PySem.call (Value.type _) _) _ _ _)); walk1))
            refine bytes_K F31 N31 (N31.isList (.head _)) hys ?_ ?_ rfl ?_
            · intro n hn
              refine Exists.elim (List.mem_map.mp hn) ?_
              intro x
              refine And.elim ?_
              intro hx
              intro hR14
              subst hR14
              have := txt_mem hle x (List.mem_of_mem_take hx)
              lia
            · rw [hys.length, sizeLine_eq]; exact Nat.le_of_ble_eq_true rfl
            intro h32 t32 k32 F32 N32 hAll
            rw [txt_back4]
            (repeat ((fail_if_success (with_reducible show wpC _ _ _ _ _ _)); walk1))
            have hcl : e.2.2.length ≤ 25 := by have := hD1.lenS e heS; lia
            rw [hD1.runS e heS]
            refine CallD.use (c_home (st := st) (cs := e.2.2) (t := u2) (u := t32) hcl) K0 F32 KX N32 T rfl (Nat.le_of_ble_eq_true rfl) (Nat.le_of_ble_eq_true rfl) ?_
            rintro r news' h33 tk33 F33 N33 hz6
            refine Mine.E4 ?_ hz6
            clear hz6
            intro aH t1 t2 nH
            refine And.elim ?_
            intro hR15
            subst hR15
            intro hR16
            subst hR16
            try ((fail_if_success (with_reducible show wpAny _ _ _ Qz _ _)); with_reducible (first | (refine letQ ?_; intro Qz) | (refine letQC ?_; intro Qz)))
            try ((fail_if_success (with_reducible show wpAny _ _ _ _ _ Sz)); with_reducible (first | (refine letS ?_; intro Sz) | (refine letSC ?_; intro Sz)))
            refine wpC_of ?_
            iterate 7 walk1
            rename_i aT2 h34 F34 N34 l34
            refine Exists.elim (Mine.News.named N34) ?_
            intro oT2
            refine And.elim ?_
            intro hoT2
            intro N34
            refine wpC_of ?_
            rw [show waS [] = Str.ofString "/" by decide +kernel] at N34
            refine ne_tup2 N34 (.tail _ (.head _)) (by rw [hoT2]; exact .head _) (Nat.le_of_ble_eq_true rfl) ?_
            refine wpC_of ?_
            iterate 1 walk1
            rw [if_neg (by simp)]
            refine wpC_of (wpAny_execs_nil ?_)
            dsimp only
            refine wpC_of (wpAny_execs_nil ?_)
            refine Mine.I4 _ _ _ _ ⟨rfl, F34, News.sub N34 (fun p hp => .tail _ (.tail _ (.tail _ hp))), hnI, rfl, rfl, rfl, trivial⟩
        · rintro m1 news1 h33 tk33 F33 N33 hz6
          obtain ⟨rfl, hm1⟩ := hz6
          try ((fail_if_success (with_reducible show wpAny _ _ _ Qz _ _)); with_reducible (first | (refine letQ ?_; intro Qz) | (refine letQC ?_; intro Qz)))
          try ((fail_if_success (with_reducible show wpAny _ _ _ _ _ Sz)); with_reducible (first | (refine letS ?_; intro Sz) | (refine letSC ?_; intro Sz)))
          refine frsG F33 hm1 ?_; clear F33; intro _ F33
          try dsimp only
          refine tokC s₁ (fun tk33 => ?_)
          refine execsC_cons (wpC_of ?_)
          (repeat ((fail_if_success (with_reducible show wpAny _ _ (PySem.eval (PySem.Expr.ListComp _ _ _ _) _) _ _ _)); walk1))
          refine comp_secs F33 (cl := []) (P := fun i y => ∃ e t, Ls[i]? = some e ∧ y = .str (waS e.2.2) t) rfl (by rfl) (by decide) (by rfl) (by decide) (by rfl) (by rfl) (by rfl) (by decide) (by decide) ?_
          iterate 1 walk1
          refine Mine.I4 sD vsR nR led3 ⟨rfl, F33, fun p hp => N33 p (.tail _ hp), mR, by rw [sizeLine_eq]; lia, fun i v hv => ?_, fun D7 h35 tk35 ys F35 N35 l35 hyl hys => ?_⟩
          · try ((fail_if_success (with_reducible show Gz)); with_reducible (first | (refine letW ?_; intro Gz) | (refine letWC ?_; intro Gz)))
            refine Exists.elim (hRa i v hv) ?_
            intro e
            refine And.elim ?_
            intro h1
            refine Mine.E5 ?_
            intro aT u1 u2 u3 nT
            refine And.elim ?_
            intro hR17
            subst hR17
            intro hT
            exact Mine.I5 aT _ _ _ _ ⟨rfl, hT, Mine.I2 e u2 ⟨h1, rfl⟩⟩
          iterate 1 walk1
          have hxs : StrsAre ys (Ls.map fun e => waS e.2.2) := strs_of (by rw [List.length_map]; lia) fun j y hj => by
            try ((fail_if_success (with_reducible show Gz)); with_reducible (first | (refine letW ?_; intro Gz) | (refine letWC ?_; intro Gz)))
            refine Mine.E2 ?_ (hys j y hj)
            intro e t
            refine And.elim ?_
            intro h1
            intro h2
            exact Mine.I2 _ t ⟨by rw [List.getElem?_map, h1]; rfl, h2⟩
          refine sorted_strs F35 N35 (.head _) hxs (by rw [List.length_map]; lia) hLn (fun D8 h36 c8 o8 F36 N36 l36 hSrt8 => ?_)
          rw [List.length_map] at hSrt8
          try ((fail_if_success (with_reducible show Gz)); with_reducible (first | (refine letW ?_; intro Gz) | (refine letWC ?_; intro Gz)))
          refine Exists.elim (ways_eight (n := n) (by lia) hLl hLS (by rw [← hLl]; exact hSrt8) hys) ?_
          intro WL
          refine And.elim ?_
          intro hWL
          intro hWS
          have ho8 : (o8.map fun i => ys.getD i Value.none).toArray.size ≤ 24 := by rw [List.size_toArray, List.length_map, hSrt8.len]; lia
          generalize hws : (o8.map fun i => ys.getD i Value.none) = ws at N36 hWL ho8
          (repeat ((fail_if_success (with_reducible show wpAny _ _ (PyProof.Rows.subscriptTail _ _ _ _) _ _ _)); walk1))
          refine kba_turn (value' := Expr.Name (Str.ofString "rows") ⟨0, 0, 0, 0⟩) (fun _ => rfl) ?_
          refine kms_slice_lit F36 N36 (N36.isList (.head _)) .none (.int _ _) (pick_take ws 8) (fun D9 h37 F37 N37 l37 => ?_) (by with_unfolding_all rfl) (by intro _; with_unfolding_all rfl) (by rw [sizeLine_eq]; lia)
          generalize hwv : ws.take 8 = wv at N37 hWL
          have hwl : wv.length ≤ 8 := by rw [← hwv, List.length_take]; lia
          replace N37 : News s₁.heap s₁.heap.objs.size h37 [(D9, W.listOf wv.toArray 0)] := News.sub N37 (fun p hp => by rw [List.mem_singleton.mp hp]; exact .head _)
          iterate 1 walk1
          rename_i h38 F38 N38
          refine frsG F38 (l := [("ways", .ref D9)]) ⟨rfl, trivial⟩ ?_; clear F38; intro _ F38
          dsimp only
          refine tokC s₁ (fun tk38 => ?_)
          refine execsC_cons (wpC_of ?_)
          refine wpAny_For ?_
          (repeat ((fail_if_success (with_reducible show wpAny _ _ (PySem.call (Value.builtin _) _) _ _ _)); walk1))
          refine len_at N38 (.head _) (by lia) (fun tL tkL => ?_)
          (repeat ((fail_if_success (with_reducible show wpAny _ _ (PySem.call (Value.type _) _) _ _ _)); walk1))
          try ((fail_if_success (with_reducible show Gz)); with_reducible (first | (refine letW ?_; intro Gz) | (refine letWC ?_; intro Gz)))
          obtain ⟨hs1, hs2⟩ := rng_sub wv.length hwl
          refine range1_rows F38 N38 ?_
          intro h39 tk39 t6 u6 v6 hr6 F39 N39 k39
          dsimp only
          refine iter_loop (fun i m1 news1 => news1 = [(D9, W.listOf wv.toArray 0)] ∧ Has m1 [("ways", .ref D9)]) (fun m1 news1 => news1 = [(D9, W.listOf wv.toArray 0)] ∧ Has m1 [("ways", .ref D9)])
            (src_range rfl F39 N39 hr6 hs1 hs2) (fun _ h => nomatch h) ⟨rfl, rfl, trivial⟩ ?_ ?_ ?_
          · rintro i v m1 news1 h40 tk40 I oI hi hz9 hlt hnI hz12 F40 N40
            try ((fail_if_success (with_reducible show Gz)); with_reducible (first | (refine letW ?_; intro Gz) | (refine letWC ?_; intro Gz)))
            obtain ⟨tv, rfl⟩ := hz9
            obtain ⟨rfl, hm1⟩ := hz12
            try ((fail_if_success (with_reducible show wpAny _ _ _ Qz _ _)); with_reducible (first | (refine letQ ?_; intro Qz) | (refine letQC ?_; intro Qz)))
            try ((fail_if_success (with_reducible show wpAny _ _ _ _ _ Sz)); with_reducible (first | (refine letS ?_; intro Sz) | (refine letSC ?_; intro Sz)))
            refine frsG F40 (l := [("k", .int (0 + (i : Int) * 1) tv), ("ways", .ref D9)]) ⟨rfl, hm1.1, trivial⟩ ?_; clear F40; intro _ F40
            try ((fail_if_success (with_reducible show Gz)); with_reducible (first | (refine letW ?_; intro Gz) | (refine letWC ?_; intro Gz)))
            refine Mine.E6 ?_ (three_ways hWL (i := i) (by lia))
            intro c0 c1 c2 t0 t1 t2
            refine Mine.A4 ?_
            intro h3 m0 m1'
            intro m2
            have hcw : ∀ cs ∈ WL, cs.length ≤ 25 := fun cs hcs => by
              try ((fail_if_success (with_reducible show Gz)); with_reducible (first | (refine letW ?_; intro Gz) | (refine letWC ?_; intro Gz)))
              refine Exists.elim (hWS cs hcs) ?_
              intro e
              refine And.elim ?_
              intro he
              intro hR18
              subst hR18
              have := hD1.lenS e he; lia
            (repeat ((fail_if_success (with_reducible show wpAny _ _ (PyProof.Rows.subscriptTail _ _ _ _) _ _ _)); walk1))
            refine kms_slice_lit F40 N40 (N40.isList (.tail _ (.head _))) (.int _ _) (.int _ _) ((pick_three (l := wv) (i := i) (by lia)).trans h3) (fun A1 h41 F41 N41 l41 => ?_) (by with_unfolding_all rfl) (by intro _; with_unfolding_all rfl) (by rw [List.size_toArray, sizeLine_eq]; lia)
            (repeat ((fail_if_success (with_reducible show wpAny _ _ (PySem.call (Value.ref _) _) _ _ _)); walk1))
            refine CallC.use (c_commonpath (.head _) (hcw c0 m0) (hcw c1 m1') (hcw c2 m2)) K0 F41 KX N41 T rfl (Nat.le_of_ble_eq_true rfl) (Nat.le_of_ble_eq_true rfl) ?_
            rintro r news' h42 tk42 F42 N42 hz6
            try ((fail_if_success (with_reducible show Gz)); with_reducible (first | (refine letW ?_; intro Gz) | (refine letWC ?_; intro Gz)))
            obtain ⟨⟨t42, rfl⟩, rfl⟩ := hz6
            try ((fail_if_success (with_reducible show wpAny _ _ _ Qz _ _)); with_reducible (first | (refine letQ ?_; intro Qz) | (refine letQC ?_; intro Qz)))
            try ((fail_if_success (with_reducible show wpAny _ _ _ _ _ Sz)); with_reducible (first | (refine letS ?_; intro Sz) | (refine letSC ?_; intro Sz)))
            (repeat ((fail_if_success (with_reducible show wpAny _ _ (PyProof.Rows.subscriptTail _ _ _ _) _ _ _)); walk1))
            refine kms_slice_lit F42 N42 (N42.isList (.tail _ (.tail _ (.head _)))) (.int _ _) (.int _ _) ((pick_three (l := wv) (i := i) (by lia)).trans h3) (fun A2 h43 F43 N43 l43 => ?_) (by with_unfolding_all rfl) (by intro _; with_unfolding_all rfl) (by rw [List.size_toArray, sizeLine_eq]; lia)
            (repeat ((fail_if_success (with_reducible show wpAny _ _ (PySem.call (Value.ref _) _) _ _ _)); walk1))
            refine CallC.use (c_both (.head _) (hcw c0 m0) (hcw c1 m1') (hcw c2 m2)) K0 F43 KX N43 T rfl (Nat.le_of_ble_eq_true rfl) (Nat.le_of_ble_eq_true rfl) ?_
            rintro r news' h44 tk44 F44 N44 hz6
            try ((fail_if_success (with_reducible show Gz)); with_reducible (first | (refine letW ?_; intro Gz) | (refine letWC ?_; intro Gz)))
            obtain ⟨⟨t44, rfl⟩, rfl⟩ := hz6
            try ((fail_if_success (with_reducible show wpAny _ _ _ Qz _ _)); with_reducible (first | (refine letQ ?_; intro Qz) | (refine letQC ?_; intro Qz)))
            try ((fail_if_success (with_reducible show wpAny _ _ _ _ _ Sz)); with_reducible (first | (refine letS ?_; intro Sz) | (refine letSC ?_; intro Sz)))
            iterate 2 walk1
            rw [if_neg (by simp)]
            refine wpAny_execs_nil ?_
            dsimp only
            refine wpAny_execs_nil ?_
            exact Mine.I4 _ _ _ _ ⟨rfl, F44, News.sub N44 (fun p hp => .tail _ (.tail _ hp)), hnI, rfl, rfl, trivial⟩
          · exact fun _ _ h => h
          · rintro m1 news1 h40 tk40 F40 N40 hz6
            try ((fail_if_success (with_reducible show Gz)); with_reducible (first | (refine letW ?_; intro Gz) | (refine letWC ?_; intro Gz)))
            obtain ⟨rfl, hm1⟩ := hz6
            try ((fail_if_success (with_reducible show wpAny _ _ _ Qz _ _)); with_reducible (first | (refine letQ ?_; intro Qz) | (refine letQC ?_; intro Qz)))
            try ((fail_if_success (with_reducible show wpAny _ _ _ _ _ Sz)); with_reducible (first | (refine letS ?_; intro Sz) | (refine letSC ?_; intro Sz)))
            try dsimp only
            refine execsC_cons (wpC_of ?_)
            iterate 2 walk1
            exact good_true (w := w) hg F40
end Mine
end
theorem PySem.Challenge.cw_pd0166_01_holds : PySem.Challenge.rw_pd0166_01.Holds := by
  exact Mine.tt
