import PyProof.Rows.All
import Wide.All
import OpenK.AllK
import Wide.FinOn
import Lean
import PySem.Challenge.RW_pk0040_01
set_option Elab.async false
set_option rowWalk.seconds 0
namespace Mine
section
section
open PySem PySem.W PyProof.Rows
set_option maxRecDepth 100000
set_option maxHeartbeats 0
open_top hd for PySem.Challenge.rw_pk0040_01
end
section
/-- the walk stands here until a rule is laid by hand -/
def Stopped (P : Prop) : Prop := P
/-- the head leaves the walk in its own mode: back to the plain one -/
theorem top_off : True := by
  w_top off
  exact trivial
theorem stopT {P : Prop} (h : Stopped P) : P := h
end
section
open PySem PySem.W PyProof.Rows PySem.Calls
set_option maxRecDepth 100000
section
variable {prog : Program} {w : World} {A : Around} {R : GenEnd} {Y : Protocol} {n : Nat} {s₀ : Shared} {c : Code} {fs : List Frame} {s : Shared} {env : Env}
  {K : Flow → Sem Fin} {H : Value → Sem Fin} {gd : Bool → Bool} {lv : List Value → List Value}
theorem seg_If {M : Model} {test : Expr} {body orelse : List Stmt} {pos : Pos}
    (h : wpAny M (A.over c fs) (isTrue test env (eval test env)) (fun b s' => Seg M A R Y n s₀ c ((execs (if b = true then body else orelse) env).wrap K H gd lv) fs s') (fun _ _ => False) s) :
    Seg M A R Y n s₀ c ((exec (.If test body orelse pos) env).wrap K H gd lv) fs s := by
  rw [exec_If]
  refine seg_bind_wrap (wpAny_standAt ?_)
  refine seg_bind_wrap (wpAny_mono h (fun b s' hb => ?_) fun _ _ x => x.elim)
  cases b <;> exact hb
/-- a statement that gives nothing out -/
theorem seg_stmt {M : Model} {st : Stmt}
    (h : wpAny M (A.over c fs) (exec st env) (fun f s' => Seg M A R Y n s₀ c (K f) fs s') (fun _ _ => False) s) :
    Seg M A R Y n s₀ c ((exec st env).wrap K H gd lv) fs s := seg_wrap (wpAny_mono h (fun _ _ x => x) fun _ _ x => x.elim)
theorem seg_For {M : Model} {target iter : Expr} {body orelse : List Stmt} {pos : Pos}
    (h : wpAny M (A.over c fs) (eval iter env) (fun x s₁ => wpAny M (A.over c fs) (pyIter x) (fun it s₂ => ∀ k p, 
      Seg M A R Y n s₀ (.forLoop target it body orelse env) (M.den (.forLoop target it body orelse env)) (.ret k none (gd false) (lv []) c p [] :: fs) s₂) (fun _ _ => False) s₁) (fun _ _ => False) s)
    (hs : ∀ x, foldedSetIterable iter env x = pure x := by intro _; rfl) :
    Seg M A R Y n s₀ c ((exec (.For target iter body orelse pos) env).wrap K H gd lv) fs s := by
  rw [exec_For]
  refine seg_bind_wrap (wpAny_standAt ?_)
  refine seg_bind_wrap (wpAny_mono h (fun x s₁ h₁ => ?_) fun _ _ x => x.elim)
  rw [hs x]
  refine seg_bind_wrap (wpAny_pure ?_)
  refine seg_bind_wrap (wpAny_standAt ?_)
  refine seg_bind_wrap (wpAny_holding (wpAny_mono h₁ (fun it s₂ h₂ => ?_) fun _ _ x => x.elim))
  exact seg_call fun p => h₂ _ p
theorem seg_forLoop {target : Expr} {it : Value} {body orelse : List Stmt}
    (ht : ∀ v, letOwnedTupleGo target it v = pure ())
    (h : wpAny (model prog w) (A.over (.forLoop target it body orelse env) fs) (pyNext it) (fun r s₁ => ∃ v, r = some v ∧
        wpAny (model prog w) (A.over (.forLoop target it body orelse env) fs) (assign target env v) (fun _ s₂ => ∀ Hn, 
          Seg (model prog w) A R Y n s₀ (.forLoop target it body orelse env) ((execs body env).wrap (fun f => match f with
            | .next | .cont => .pure (.again (.forLoop target it body orelse env))
            | .brk => .pure (.done .next)
            | .ret v => .pure (.done (.ret v))) Hn id id) fs s₂) (fun _ _ => False) s₁) (fun _ _ => False) s) :
    Seg (model prog w) A R Y n s₀ (.forLoop target it body orelse env) ((model prog w).den (.forLoop target it body orelse env)) fs s := by
  show Seg _ A R Y n s₀ _ ((forTurn target it body orelse env).onRaise (fun x => do noteFrame x env; theTreesLotGoes x)) fs s
  unfold forTurn
  rw [Sem.onRaise_eq_wrap]
  refine seg_bind_wrap (wpAny_standAt ?_)
  refine seg_bind_wrap (wpAny_onRaise (wpAny_mono h (fun r s₁ h₁ => ?_) fun _ _ x => x.elim))
  obtain ⟨v, rfl, h₁⟩ := h₁
  dsimp only
  rw [ht v]
  refine seg_bind_wrap (wpAny_pure ?_)
  refine seg_bind_wrap (wpAny_mono h₁ (fun _ s₂ h₂ => ?_) fun _ _ x => x.elim)
  rw [Sem.bind_eq_wrap', Sem.wrap_wrap]
  rw [Sem.wrap_congr (execs body env) _ _ (K' := fun f => match f with
            | .next | .cont => .pure (.again (.forLoop target it body orelse env))
            | .brk => .pure (.done .next)
            | .ret v => .pure (.done (.ret v))) (fun f => by cases f <;> rfl) (fun e => rfl)]
  exact h₂ _
end
end
section
open PySem PySem.W PyProof.Rows PySem.Calls
set_option maxRecDepth 100000
abbrev kLast : Str := Str.ofString "last_interval"
abbrev kInt : Str := Str.ofString "interval"
abbrev kGrp : Str := Str.ofString "grouping"
abbrev kMax : Str := Str.ofString "CHAR_MAX"
def NotIter (o : Obj) : Prop := ¬ (o.cls = .type "list_iterator" ∧ ∃ fs, o.data = .fields fs)
/-- how the world goes on from one yield to the next: what is not the generator's own stays -/
def GStep (h₀ : Heap) (C : Addr) (s₀ s : Shared) : Prop :=
  ∃ h' tk, s = { s₀ with heap := h', toks := tk } ∧ (∀ b o, h₀.get? b = some o → s₀.heap.get? b = some o → h'.get? b = some o) ∧
    (∀ b o, b ≠ C → NotIter o → s₀.heap.get? b = some o → h'.get? b = some o)
theorem GStep.refl {h₀ : Heap} {C : Addr} (s : Shared) : GStep h₀ C s s := ⟨s.heap, s.toks, rfl, fun _ _ _ e => e, fun _ _ _ _ e => e⟩
theorem GStep.step {h₀ : Heap} {C : Addr} {s₀ s : Shared} (x : GStep h₀ C s₀ s) {h' : Heap} {tk : Nat} (k₀ : ∀ b o, h₀.get? b = some o → s.heap.get? b = some o → h'.get? b = some o)
    (k : ∀ b o, b ≠ C → NotIter o → s.heap.get? b = some o → h'.get? b = some o) : GStep h₀ C s₀ { s with heap := h', toks := tk } := by
  obtain ⟨h₁, t₁, rfl, a, b⟩ := x
  exact ⟨h', tk, rfl, fun c o e e' => k₀ c o e (a c o e e'), fun c o n m e => k c o n m (b c o n m e)⟩
def gY (h₀ : Heap) (L C : Addr) (z : Int) : Protocol := fun m s₀ v s kap =>
  (∃ t, v = .int z t) ∧ GStep h₀ C s₀ s ∧
    (m ≠ 0 → ∃ P : List (Addr × Obj), News h₀ L s.heap P ∧ (∃ oC, (C, oC) ∈ P) ∧ ∀ s'' : Shared, (∀ b o, h₀.get? b = some o → s''.heap.get? b = some o) → (∀ p ∈ P, s''.heap.get? p.1 = some p.2) → kap (.send .none) s'')
def gR : GenEnd := fun _ _ r _ => r = .ok .next ∧ False
section
variable {prog : Program} {w : World} {A : Around} {s₀ s : Shared} {env : Env} {h₀ : Heap} {L C G I : Addr} {z : Int}
  {K : Flow → Sem Fin} {H : Value → Sem Fin} {gd : Bool → Bool} {lv : List Value → List Value}
theorem while_true_test {test : Expr} {k : Nat} {p : Pos} {Q : Bool → Shared → Prop} {E : Value → Shared → Prop} (e : test = .Constant (.bool true) k p) (h : Q true s) :
    wpAny (model prog w) A (isTrue test env (eval test env)) Q E s := by
  subst e
  exact wpAny_isTrue_value (wpAny_Constant_bool (wpAny_truthy_bool h))
/-- phase 2: in the endless loop -/
theorem gen_while (hk : env.scope.kind = .function) (hC : env.locals = C) (hl : env.kindOf kLast = some .local) (hco : env.scope.isCoroutine = false) (hi : interactive env = false)
    (hCL : C ≠ L) (hC₀ : h₀.get? C = none) {fs : List Frame} (hfs : splitAtGen fs = none) (hfg : fs.any Frame.guarded = false) {k₁ : Nat} {p₁ p₂ p₃ p₄ : Pos} :
    ∀ (n : Nat) (s₀ s : Shared) (m : Str → Option Value) (t : Tok), s.heap.Ns C m → m kLast = some (.int z t) → GStep h₀ C s₀ s →
      Seg (model prog w) A gR (gY h₀ L C z) (n + 1) s₀ (.whileLoop (.Constant (.bool true) k₁ p₁) [.Expr (.Yield (some (.Name kLast p₂)) p₃) p₄] [] env)
        ((model prog w).den (.whileLoop (.Constant (.bool true) k₁ p₁) [.Expr (.Yield (some (.Name kLast p₂)) p₃) p₄] [] env)) fs s := by
  intro n
  induction n with
  | zero =>
    intro s₀ s m t hn hm hst
    refine seg_whileLoop (while_true_test rfl ?_)
    rw [if_pos rfl]
    refine seg_execs_cons (seg_Expr_Yield hfs rfl hfg (wpAny_Name (wpAny_loadName_local hk hl (hC ▸ hn) hm ?_) (by decide +kernel)) hco hi)
    intro kap hkap
    exact ⟨⟨t, rfl⟩, hst, fun z => absurd rfl z⟩
  | succ n ih =>
    intro s₀ s m t hn hm hst
    refine seg_whileLoop (while_true_test rfl ?_)
    rw [if_pos rfl]
    refine seg_execs_cons (seg_Expr_Yield hfs rfl hfg (wpAny_Name (wpAny_loadName_local hk hl (hC ▸ hn) hm ?_) (by decide +kernel)) hco hi)
    intro kap hkap
    have hn0 := hn
    obtain ⟨oC, es, ep, hoC, hd, r⟩ := hn0
    refine ⟨⟨t, rfl⟩, hst, fun _ => ⟨[(C, oC)], fun p hp => ?_, ⟨oC, List.mem_singleton.mpr rfl⟩, fun s'' _ hal => hkap _ _ ?_⟩⟩
    · obtain rfl := List.mem_singleton.mp hp
      exact ⟨hoC, hCL, hC₀⟩
    · dsimp only
      refine seg_execs_nil ?_
      exact seg_again rfl (ih s'' s'' m t ⟨oC, es, ep, hal _ (List.mem_singleton.mpr rfl), hd, r⟩ hm (GStep.refl _))
theorem GStep.iter {s₀ s : Shared} {h' : Heap} {l : Addr} {i : Nat} (x : GStep h₀ C s₀ s) (hI : s.heap.IsListIter I l i) (hI₀ : h₀.get? I = none) (hs : Heap.SameBut I s.heap h') : GStep h₀ C s₀ { s with heap := h' } := by
  obtain ⟨oI, hoI, hc, hdI⟩ := hI
  refine x.step (tk := s.toks) (fun b o e e' => ?_) (fun b o _ n e => ?_)
  · exact hs.extBut b o (fun q => by rw [q, hI₀] at e; cases e) e'
  · exact hs.extBut b o (fun q => by rw [q, hoI] at e; cases e; exact n ⟨hc, _, hdI⟩) e
theorem GStep.loc {s₀ s : Shared} {h' : Heap} {tk : Nat} (x : GStep h₀ C s₀ s) (hC₀ : h₀.get? C = none) (hs : Heap.SameBut C s.heap h') : GStep h₀ C s₀ { s with heap := h', toks := tk } :=
  x.step (fun b o e e' => hs.extBut b o (fun q => by rw [q, hC₀] at e; cases e) e') (fun b o n _ e => hs.extBut b o n e)
theorem GStep.tok {s₀ s : Shared} {tk : Nat} (x : GStep h₀ C s₀ s) : GStep h₀ C s₀ { s with toks := tk } :=
  x.step (h' := s.heap) (fun _ _ _ e => e) (fun _ _ _ _ e => e)
/-- what the generator's frame tells of its names -/
structure GEnv (env : Env) (C : Addr) : Prop where
  kind : env.scope.kind = .function
  loc : env.locals = C
  glob : env.globals = mainGlobals
  last : env.kindOf kLast = some .local
  int : env.kindOf kInt = some .local
  grp : env.kindOf kGrp = some .local
  max : env.kindOf kMax = some .globalImplicit
  co : env.scope.isCoroutine = false
theorem GEnv.quiet {env : Env} (e : GEnv env C) : interactive env = false := by unfold interactive; rw [e.kind]; rfl
theorem GEnv.place {env : Env} (e : GEnv env C) : (env.scope.kind == .class || (env.scope.kind == .module && env.locals != env.globals)) = false := by rw [e.kind]; rfl
variable {mg : Str → Option Value} {tc : Tok}
theorem gen_name {x : Str} {p : Pos} {m : Str → Option Value} {v : Value} {A : Around} {Q : Value → Shared → Prop} {E : Value → Shared → Prop} (e : GEnv env C) (hx : env.kindOf x = some .local) (hd : (x == ("__debug__" : Str)) = false) (hn : s.heap.Ns C m) (hv : m x = some v) (h : Q v s) :
    wpAny (model prog w) A (eval (.Name x p) env) Q E s := wpAny_Name (wpAny_loadName_local e.kind hx (e.loc ▸ hn) hv h) hd
theorem gen_store {x : Str} {m : Str → Option Value} {v : Value} {A : Around} {Q : Unit → Shared → Prop} {E : Value → Shared → Prop} (e : GEnv env C) (hx : env.kindOf x = some .local) (hn : s.heap.Ns C m)
    (h : ∀ h', h'.Ns C (fun y => if y = x then some v else m y) → Heap.SameBut C s.heap h' → Q () { s with heap := h', toks := s.toks + 1 }) : wpAny (model prog w) A (storeName env x v) Q E s :=
  wpAny_storeName_local hx (e.loc.symm ▸ hn) (e.loc ▸ h) e.place
/-- the test against CHAR_MAX goes on -/
theorem gen_max {body : List Stmt} {p₁ p₂ p₃ p₄ : Pos} {m : Str → Option Value} {i : Int} {u : Tok} {A : Around} {Q : Flow → Shared → Prop} {E : Value → Shared → Prop} (e : GEnv env C) (hn : s.heap.Ns C m) (hv : m kInt = some (.int i u)) (hne : i ≠ 127)
    (hg : s.heap.Ns mainGlobals mg) (hmg : mg kMax = some (.int 127 tc)) (h : Q .next s) :
    wpAny (model prog w) A (exec (.If (.Compare (.Name kInt p₁) [.Eq] [.Name kMax p₂] p₃) body [] p₄) env) Q E s := by
  refine wpAny_If (wpAny_isTrue_Compare1 (gen_name e e.int (by decide +kernel) hn hv (wpAny_Name ?_ (by decide +kernel))))
  rw [loadName_read e.kind e.max]
  refine loadGlobal_global (e.glob.symm ▸ hg) hmg (eq_int (wpAny_truthy_bool ?_))
  rw [if_neg (by simp [hne])]
  exact wpAny_execs_nil h
theorem gen_zero {p₁ p₃ : Pos} {k : Nat} {p₂ : Pos} {m : Str → Option Value} {i : Int} {u : Tok} {A : Around} {Q : Bool → Shared → Prop} {E : Value → Shared → Prop} {whole : Sem Value} (e : GEnv env C) (hn : s.heap.Ns C m) (hv : m kInt = some (.int i u))
    (h : ∀ tk, Q (i == 0) { s with toks := tk }) :
    wpAny (model prog w) A (isTrue (.Compare (.Name kInt p₁) [.Eq] [.Constant (.int 0) k p₂] p₃) env whole) Q E s := by
  refine wpAny_isTrue_Compare1 (gen_name e e.int (by decide +kernel) hn hv (wpAny_Constant_int (eq_int (wpAny_truthy_bool ?_))))
  exact h _
theorem gen_last {body : List Stmt} {p₁ p₃ p₄ : Pos} {k : Nat} {p₂ : Pos} {m : Str → Option Value} {i : Int} {u : Tok} {A : Around} {Q : Flow → Shared → Prop} {E : Value → Shared → Prop} (e : GEnv env C) (hn : s.heap.Ns C m) (hv : m kLast = some (.int i u))
    (h : Q .next s) :
    wpAny (model prog w) A (exec (.If (.Compare (.Name kLast p₁) [.Is] [.Constant .none k p₂] p₃) body [] p₄) env) Q E s := by
  refine wpAny_If (wpAny_isTrue_Compare1 (gen_name e e.last (by decide +kernel) hn hv (wpAny_Constant_none (wpAny_is_other rfl (by intro q; cases q) (wpAny_truthy_bool ?_)))))
  rw [if_neg (by simp)]
  exact wpAny_execs_nil h
/-- the two turns of the generator's loop -/
@[reducible] def giBody (p1 p2 p3 p4 p5 p6 p7 p8 p9 p10 p11 p12 p13 p14 p15 p16 p17 p18 p19 p20 p21 p22 p23 p24 : Pos) (k₁ k₂ k₃ : Nat) (rs : List Stmt) : List Stmt :=
  [.If (.Compare (.Name kInt p1) [.Eq] [.Name kMax p2] p3) [.Return none p4] [] p5,
   .If (.Compare (.Name kInt p6) [.Eq] [.Constant (.int 0) k₁ p7] p8)
     [.If (.Compare (.Name kLast p9) [.Is] [.Constant .none k₂ p10] p11) rs [] p12,
      .While (.Constant (.bool true) k₃ p13) [.Expr (.Yield (some (.Name kLast p14)) p15) p16] [] p17] [] p18,
   .Expr (.Yield (some (.Name kInt p19)) p20) p21,
   .Assign [.Name kLast p22] (.Name kInt p23) p24]
theorem gen_turn2 (e : GEnv env C) (hCL : C ≠ L) (hC₀ : h₀.get? C = none) (hI₀ : h₀.get? I = none) (hIC : I ≠ C) (hg : h₀.Ns mainGlobals mg) (hmg : mg kMax = some (.int 127 tc))
    {fs : List Frame} (hfs : splitAtGen fs = none) (hfg : fs.any Frame.guarded = false) {p1 p2 p3 p4 p5 p6 p7 p8 p9 p10 p11 p12 p13 p14 p15 p16 p17 p18 p19 p20 p21 p22 p23 p24 : Pos} {px : Pos} {k₁ k₂ k₃ : Nat} {rs : List Stmt} {t₁ t₂ t₃ : Tok}
    (n : Nat) (s₀ s : Shared) (m : Str → Option Value) (t : Tok) (hk₀ : ∀ b o, h₀.get? b = some o → s.heap.get? b = some o) (hn : s.heap.Ns C m) (hm : m kLast = some (.int z t)) (hI : s.heap.IsListIter I G 1) (hG : s.heap.IsList G #[.int z t₁, .int 0 t₂, .int 127 t₃]) (hst : GStep h₀ C s₀ s) :
      Seg (model prog w) A gR (gY h₀ L C z) (n + 1) s₀ (.forLoop (.Name kInt px) (.ref I) (giBody p1 p2 p3 p4 p5 p6 p7 p8 p9 p10 p11 p12 p13 p14 p15 p16 p17 p18 p19 p20 p21 p22 p23 p24 k₁ k₂ k₃ rs) [] env)
        ((model prog w).den (.forLoop (.Name kInt px) (.ref I) (giBody p1 p2 p3 p4 p5 p6 p7 p8 p9 p10 p11 p12 p13 p14 p15 p16 p17 p18 p19 p20 p21 p22 p23 p24 k₁ k₂ k₃ rs) [] env)) fs s := by
  refine seg_forLoop (fun _ => rfl) (wpAny_pyNext_list_item hI hG (i := 1) (x := .int 0 t₂) rfl fun h₁ hI₁ hs₁ => ⟨_, rfl, ?_⟩)
  have st₁ := hst.iter hI hI₀ hs₁
  have hn₁ : h₁.Ns C m := hn.at' fun o q => hs₁.extBut _ o (Ne.symm hIC) q
  refine wpAny_assign_Name (gen_store e e.int hn₁ fun h₂ hn₂ hs₂ Hn => ?_)
  have st₂ := st₁.loc (tk := s.toks + 1) hC₀ hs₂
  have g₂ : h₂.Ns mainGlobals mg := hg.at' fun o q => by
    have q' := hk₀ _ o q
    exact hs₂.extBut _ o (fun z => by rw [z, hC₀] at q; cases q) (hs₁.extBut _ o (fun z => by rw [z, hI₀] at q; cases q) q')
  refine seg_execs_cons (seg_stmt (gen_max (mg := mg) (tc := tc) e hn₂ (by rw [if_pos rfl]) (by decide) g₂ hmg ?_))
  dsimp only
  refine seg_execs_cons (seg_If (gen_zero e hn₂ (by rw [if_pos rfl]) fun tk => ?_))
  rw [if_pos (by decide)]
  refine seg_execs_cons (seg_stmt (gen_last e hn₂ (i := z) (u := t) (by rw [if_neg (by decide +kernel)]; exact hm) ?_))
  dsimp only
  refine seg_execs_cons (seg_While fun p' => ?_)
  refine gen_while e.kind e.loc e.last e.co e.quiet hCL hC₀ ?_ ?_ n s₀ _ _ t hn₂ (by rw [if_neg (by decide +kernel)]; exact hm) (st₂.tok (tk := tk))
  · simp [splitAtGen, hfs]
  · simpa [Frame.guarded] using hfg
theorem gen_turn1 (e : GEnv env C) (hCL : C ≠ L) (hC₀ : h₀.get? C = none) (hI₀ : h₀.get? I = none) (hIC : I ≠ C) (hIL : I ≠ L) (hGL : G ≠ L) (hG₀ : h₀.get? G = none) (hGC : G ≠ C) (hGI : G ≠ I) (hg : h₀.Ns mainGlobals mg) (hmg : mg kMax = some (.int 127 tc))
    (hz0 : z ≠ 0) (hz7 : z ≠ 127) {fs : List Frame} (hfs : splitAtGen fs = none) (hfg : fs.any Frame.guarded = false) {p1 p2 p3 p4 p5 p6 p7 p8 p9 p10 p11 p12 p13 p14 p15 p16 p17 p18 p19 p20 p21 p22 p23 p24 : Pos} {px : Pos} {k₁ k₂ k₃ : Nat} {rs : List Stmt} {t₁ t₂ t₃ : Tok}
    (n : Nat) (s₀ s : Shared) (m : Str → Option Value) (hk₀ : ∀ b o, h₀.get? b = some o → s.heap.get? b = some o) (hn : s.heap.Ns C m) (hI : s.heap.IsListIter I G 0) (hG : s.heap.IsList G #[.int z t₁, .int 0 t₂, .int 127 t₃]) (hst : GStep h₀ C s₀ s) :
      Seg (model prog w) A gR (gY h₀ L C z) (n + 1) s₀ (.forLoop (.Name kInt px) (.ref I) (giBody p1 p2 p3 p4 p5 p6 p7 p8 p9 p10 p11 p12 p13 p14 p15 p16 p17 p18 p19 p20 p21 p22 p23 p24 k₁ k₂ k₃ rs) [] env)
        ((model prog w).den (.forLoop (.Name kInt px) (.ref I) (giBody p1 p2 p3 p4 p5 p6 p7 p8 p9 p10 p11 p12 p13 p14 p15 p16 p17 p18 p19 p20 p21 p22 p23 p24 k₁ k₂ k₃ rs) [] env)) fs s := by
  refine seg_forLoop (fun _ => rfl) (wpAny_pyNext_list_item hI hG (i := 0) (x := .int z t₁) rfl fun h₁ hI₁ hs₁ => ⟨_, rfl, ?_⟩)
  have st₁ := hst.iter hI hI₀ hs₁
  have hn₁ : h₁.Ns C m := hn.at' fun o q => hs₁.extBut _ o (Ne.symm hIC) q
  refine wpAny_assign_Name (gen_store e e.int hn₁ fun h₂ hn₂ hs₂ Hn => ?_)
  have st₂ := st₁.loc (tk := s.toks + 1) hC₀ hs₂
  have g₂ : h₂.Ns mainGlobals mg := hg.at' fun o q => by
    have q' := hk₀ _ o q
    exact hs₂.extBut _ o (fun z => by rw [z, hC₀] at q; cases q) (hs₁.extBut _ o (fun z => by rw [z, hI₀] at q; cases q) q')
  refine seg_execs_cons (seg_stmt (gen_max (mg := mg) (tc := tc) e hn₂ (by rw [if_pos rfl]) hz7 g₂ hmg ?_))
  dsimp only
  refine seg_execs_cons (seg_If (gen_zero e hn₂ (by rw [if_pos rfl]) fun tk => ?_))
  rw [if_neg (by simp [hz0])]
  refine seg_execs_nil ?_
  dsimp only
  refine seg_execs_cons (seg_Expr_Yield hfs rfl hfg (gen_name e e.int (by decide +kernel) hn₂ (by rw [if_pos rfl]) ?_) e.co e.quiet)
  intro kap hkap
  refine ⟨⟨t₁, rfl⟩, st₂.tok (tk := tk), fun hn0 => ?_⟩
  obtain ⟨n, rfl⟩ : ∃ k, n = k + 1 := ⟨n - 1, by omega⟩
  have hI₂ : h₂.IsListIter I G 1 := hI₁.at fun o q => hs₂.extBut _ o hIC q
  have hG₂ : h₂.IsList G #[.int z t₁, .int 0 t₂, .int 127 t₃] := hG.at fun o q => hs₂.extBut _ o hGC (hs₁.extBut _ o hGI q)
  have hnC := hn₂
  have hIo := hI₂
  have hGo := hG₂
  obtain ⟨oC, es, ep, hoC, hd, r⟩ := hnC
  obtain ⟨oI, hoI, _⟩ := hIo
  obtain ⟨oG, hoG, _⟩ := hGo
  refine ⟨[(C, oC), (I, oI), (G, oG)], fun q hq => ?_, ⟨oC, List.mem_cons_self ..⟩, fun s'' hk' hal => hkap _ _ ?_⟩
  · rcases List.mem_cons.mp hq with rfl | hq
    · exact ⟨hoC, hCL, hC₀⟩
    · rcases List.mem_cons.mp hq with rfl | hq
      · exact ⟨hoI, hIL, hI₀⟩
      · obtain rfl := List.mem_singleton.mp hq
        exact ⟨hoG, hGL, hG₀⟩
  · dsimp only
    have aC : s''.heap.get? C = some oC := hal (C, oC) (by simp)
    have aI : s''.heap.get? I = some oI := hal (I, oI) (by simp)
    have aG : s''.heap.get? G = some oG := hal (G, oG) (by simp)
    have hn₃ : s''.heap.Ns C _ := hn₂.at' fun o q => by rw [hoC] at q; cases q; exact aC
    refine seg_execs_cons (seg_stmt (wpAny_Assign_Name (gen_name e e.int (by decide +kernel) hn₃ (v := .int z t₁) (by rw [if_pos rfl]) (gen_store e e.last hn₃ fun h₄ hn₄ hs₄ => ?_))))
    dsimp only
    refine seg_execs_nil ?_
    refine seg_again rfl ?_
    refine gen_turn2 (mg := mg) (tc := tc) (t₁ := t₁) (t₂ := t₂) (t₃ := t₃) (G := G) e hCL hC₀ hI₀ hIC hg hmg hfs hfg n _ _ _ t₁ (fun b o q => ?_) hn₄ (by rw [if_pos rfl]) ?_ ?_ ((GStep.refl s'').loc hC₀ hs₄)
    · exact hs₄.extBut _ o (fun z => by rw [z, hC₀] at q; cases q) (hk' b o q)
    · exact hI₂.at fun o q => hs₄.extBut _ o hIC (by rw [hoI] at q; cases q; exact aI)
    · exact hG₂.at fun o q => hs₄.extBut _ o hGC (by rw [hoG] at q; cases q; exact aG)
/-- the generator from its start -/
theorem gen_start (e : GEnv env C) (hCL : C ≠ L) (hC₀ : h₀.get? C = none) (hGL : G ≠ L) (hG₀ : h₀.get? G = none) (hGC : G ≠ C) (hg : h₀.Ns mainGlobals mg) (hmg : mg kMax = some (.int 127 tc))
    (hz0 : z ≠ 0) (hz7 : z ≠ 127) {p1 p2 p3 p4 p5 p6 p7 p8 p9 p10 p11 p12 p13 p14 p15 p16 p17 p18 p19 p20 p21 p22 p23 p24 : Pos} {px pa pb pc pd pe : Pos} {k₁ k₂ k₃ k₄ : Nat} {rs : List Stmt} {t₁ t₂ t₃ : Tok} (hLC : L < C)
    (n : Nat) (m : Str → Option Value) (hk₀ : ∀ b o, h₀.get? b = some o → s.heap.get? b = some o) (hn : s.heap.Ns C m) (hm : m kGrp = some (.ref G)) (hG : s.heap.IsList G #[.int z t₁, .int 0 t₂, .int 127 t₃]) :
      Seg (model prog w) A gR (gY h₀ L C z) (n + 1) s (.func [.Assign [.Name kLast pa] (.Constant .none k₄ pb) pc, .For (.Name kInt px) (.Name kGrp pd) (giBody p1 p2 p3 p4 p5 p6 p7 p8 p9 p10 p11 p12 p13 p14 p15 p16 p17 p18 p19 p20 p21 p22 p23 p24 k₁ k₂ k₃ rs) [] pe] env)
        ((model prog w).den (.func [.Assign [.Name kLast pa] (.Constant .none k₄ pb) pc, .For (.Name kInt px) (.Name kGrp pd) (giBody p1 p2 p3 p4 p5 p6 p7 p8 p9 p10 p11 p12 p13 p14 p15 p16 p17 p18 p19 p20 p21 p22 p23 p24 k₁ k₂ k₃ rs) [] pe] env)) [] s := by
  refine seg_func (seg_execs_cons (seg_stmt (wpAny_Assign_Name (wpAny_Constant_none (gen_store e e.last hn fun h₁ hn₁ hs₁ => ?_)))))
  dsimp only
  have hG₁ : h₁.IsList G #[.int z t₁, .int 0 t₂, .int 127 t₃] := hG.at fun o q => hs₁.extBut _ o hGC q
  have st₁ : GStep h₀ C s { s with heap := h₁, toks := s.toks + 1 } := (GStep.refl s).loc hC₀ hs₁
  have k₁' : ∀ b o, h₀.get? b = some o → h₁.get? b = some o := fun b o q => hs₁.extBut _ o (fun z => by rw [z, hC₀] at q; cases q) (hk₀ b o q)
  refine seg_execs_cons (seg_For (gen_name e e.grp (by decide +kernel) hn₁ (v := .ref G) (by rw [if_neg (by decide +kernel)]; exact hm) (wpAny_pyIter_list hG₁ fun k p' => ?_)))
  dsimp only
  have hC₁ : C < h₁.objs.size := by obtain ⟨_, _, _, q, _⟩ := hn₁; exact Heap.lt_size q
  have hL₁ : L < h₁.objs.size := Nat.lt_trans hLC hC₁
  have hG₁' : G < h₁.objs.size := by obtain ⟨_, q, _⟩ := hG₁; exact Heap.lt_size q
  refine gen_turn1 (mg := mg) (tc := tc) (t₁ := t₁) (t₂ := t₂) (t₃ := t₃) (G := G) e hCL hC₀ ?_ (Ne.symm (Nat.ne_of_lt hC₁)) (Ne.symm (Nat.ne_of_lt hL₁)) hGL hG₀ hGC (Nat.ne_of_lt hG₁') hg hmg hz0 hz7 rfl ?_ n _ _ _ (fun b o q => Heap.get?_push_of_some _ (k₁' b o q)) (hn₁.push _) ⟨_, Heap.get?_push_size _ rfl, rfl, rfl⟩ (hG₁.push _) ?_
  · cases q : h₀.get? h₁.objs.size with
    | none => rfl
    | some o => exact absurd (Heap.lt_size (k₁' _ o q)) (Nat.lt_irrefl _)
  · rfl
  · exact st₁.step (tk := s.toks + 1) (fun b o _ q => Heap.get?_push_of_some _ q) (fun b o _ _ q => Heap.get?_push_of_some _ q)
end
end
section
open PySem PySem.W PyProof.Rows PySem.Calls
set_option maxRecDepth 100000
/-- the generator at rest: it can be woken wherever what it stands on stands -/
def GenSt (prog : Program) (w : World) (h₀ : Heap) (L C : Addr) (z : Int) (P : List (Addr × Obj)) (n : Nat) (gs : GenState) : Prop :=
  gs.bare = true ∧ ∀ (A : Around) (s'' : Shared), (∀ b o, h₀.get? b = some o → s''.heap.get? b = some o) → (∀ p ∈ P, s''.heap.get? p.1 = some p.2) →
    gs.Goes (model prog w) A gR (gY h₀ L C z) n (.send .none) s''
/-- the same with one around -/
def GenAtA (prog : Program) (w : World) (A : Around) (h₀ : Heap) (L C : Addr) (z : Int) (P : List (Addr × Obj)) (n : Nat) (gs : GenState) : Prop :=
  gs.bare = true ∧ ∀ s'' : Shared, (∀ b o, h₀.get? b = some o → s''.heap.get? b = some o) → (∀ p ∈ P, s''.heap.get? p.1 = some p.2) →
    gs.Goes (model prog w) A gR (gY h₀ L C z) n (.send .none) s''
section
variable {prog : Program} {w : World} {A : Around} {E : Value → Shared → Prop} {s : Shared} {h₀ : Heap} {L C : Addr} {z : Int}
theorem gen_next {a : Addr} {g n : Nat} {gs : GenState} {P : List (Addr × Obj)} {Q : Option Value → Shared → Prop} (hh : A.handled = none) (hl : s.heap.NoLimit) (hroom : A.depth < recursionLimit)
    (hg : s.heap.IsGen a g) (hgs : s.gens[g]? = some gs) (GS : GenAtA prog w A.in1 h₀ L C z P (n + 2) gs) (hk₀ : ∀ b o, h₀.get? b = some o → s.heap.get? b = some o) (hP : ∀ p ∈ P, s.heap.get? p.1 = some p.2)
    (h : ∀ t h' tk gens' gs' P', (∀ b o, h₀.get? b = some o → h'.get? b = some o) → (∀ b o, b ≠ C → NotIter o → s.heap.get? b = some o → h'.get? b = some o) → News h₀ L h' P' → (∃ oC, (C, oC) ∈ P') →
      gens'[g]? = some gs' → GenAtA prog w A.in1 h₀ L C z P' (n + 1) gs' → (AllBare s.gens → AllBare gens') → Q (some (.int z t)) { s with heap := h', toks := tk, gens := gens' }) :
    wpAny (model prog w) A (pyNext (.ref a)) Q E s := by
  refine wpAny_pyNext_genexpQ (P := fun _ _ _ => False) hh hl hroom hg hgs (GS.2 _ hk₀ hP) (fun v s₁ gs' hb hv => ?_) (fun s₁ hp => hp.elim)
  obtain ⟨⟨t, rfl⟩, ⟨h₁, tk₁, rfl, ka, kb⟩, hkap⟩ := hv
  obtain ⟨P', NP, hC, hgo⟩ := hkap (by omega)
  exact h t h₁ tk₁ _ gs' P' (fun b o q => ka b o q (hk₀ b o q)) (fun b o n1 n2 q => kb b o n1 n2 q) NP hC (setGen_self (gs := .running) (setGen_self hgs)) ⟨hb, hgo⟩
    fun ha => (GenOnlyQ.of ((GenOnly.setGen s g .running).trans (GenOnly.setGen _ g gs')) (setGen_self (gs := .running) (setGen_self hgs)) hb).bare ha
theorem code_gen {K : Frag} {m mg mb : Str → Option Value} {p : Program} {loose : List Str} {mean : ExcName → Option Value} {R : Result → Shared → Prop} {name qual : Str} {params : Arguments} {body : List Stmt} {scope : Scope} {dV kV doc pm cdv ct oc : Value} {an od : Option Addr} {osl : Array (Option Value)} {f : Addr} {args : Args} {binds : List (Str × Value)}
    (F : Fr h₀ L s.heap m) (X₀ : K.In h₀) (T : Top p loose mean mg mb h₀)
    (ho : K.lookup f = some ⟨oc, od, .func (fnOf name qual params body scope dV kV doc pm an cdv ct), osl⟩) (hcd : codeIn K cdv qual = true) (hroom : A.depth < recursionLimit)
    (hbind : BindsTo s (fnOf name qual params body scope dV kV doc pm an cdv ct) args binds) (hloc : ∀ y ∈ binds, scope.names.lookup y.1 = some .local)
    (h : ∀ C h' tk ob, C = s.heap.objs.size → h'.Ns C (fun y => binds.reverse.lookup y) → Heap.SameBut C (s.heap.push { cls := .type "frame", data := .dict #[] }) h' → ob.cls = .type "generator" → (∃ nm qn, ob.data = .fields #[.int (s.gens.size : Nat) 0, nm, qn]) → ob.slots = #[] → ob.isFreed = false →
      R (.ok (.ret (.ref h'.objs.size))) { s with gens := s.gens.push (.fresh (.func body (envOf qual scope C f cdv))), toks := tk, heap := h'.push ob })
    (hco : scope.isCoroutine = false) (hgen : scope.isGenerator = true) (hk : scope.kind = .function)
    (hcell : ∀ x ∈ scope.names, x.2 ≠ .cell) : codeAny (model prog w) A (.call (.ref f) args) R s := by
  refine codeAny_call_generator (fd := fnX name qual params body scope [] dV kV doc pm an cdv ct) (body := body) hroom ((X₀.keeps F.keep) _ _ ho) rfl hco hgen rfl (codeRec_of (X₀.keeps F.keep) hcd) (hbind _ _ _ _ ?_)
  refine wpAny_newFunctionEnv hcell hloc (fun h₁ hn₁ hs₁ => ⟨(T.nolimit.keeps F.keep).fresh _ hs₁, ?_⟩) hk
  exact h s.heap.objs.size h₁ _ _ rfl hn₁ hs₁ rfl ⟨_, _, rfl⟩ rfl rfl
theorem gen_made {H : Heap} {gn : Nat} {G : Addr} {env : Env} {m mg : Str → Option Value} {news : List (Addr × Obj)} {h' : Heap} {ob : Obj} {binds : List (Str × Value)} {t₁ t₂ t₃ tc : Tok} {kG : Nat} {p1 p2 p3 p4 p5 p6 p7 p8 p9 p10 p11 p12 p13 p14 p15 p16 p17 p18 p19 p20 p21 p22 p23 p24 px pa pb pc pd pe : Pos} {k₁ k₂ k₃ k₄ : Nat} {rs : List Stmt}
    {gs : GenState} (hgs : GenState.fresh (.func [.Assign [.Name kLast pa] (.Constant .none k₄ pb) pc, .For (.Name kInt px) (.Name kGrp pd) (giBody p1 p2 p3 p4 p5 p6 p7 p8 p9 p10 p11 p12 p13 p14 p15 p16 p17 p18 p19 p20 p21 p22 p23 p24 k₁ k₂ k₃ rs) [] pe] env) = gs) (F : Fr h₀ L H m) (N : News h₀ L H news) (hGm : (G, listOf #[.int z t₁, .int 0 t₂, .int 127 t₃] kG) ∈ news) (hg : h₀.Ns mainGlobals mg) (hmg : mg kMax = some (.int 127 tc)) (hz0 : z ≠ 0) (hz7 : z ≠ 127)
    (hE : GEnv env C) (hC : C = H.objs.size) (hn : h'.Ns C (fun y => binds.reverse.lookup y)) (hm : binds.reverse.lookup kGrp = some (.ref G)) (hs : Heap.SameBut C (H.push { cls := .type "frame", data := .dict #[] }) h')
    (hcls : ob.cls = .type "generator") (hdata : ∃ nm qn, ob.data = .fields #[.int (gn : Nat) 0, nm, qn]) (hslots : ob.slots = #[]) (hfr : ob.isFreed = false) :
    ∃ oC, Fr h₀ L (h'.push ob) m ∧ News h₀ L (h'.push ob) ((h'.objs.size, ob) :: (C, oC) :: news) ∧ (h'.push ob).IsGen h'.objs.size gn ∧ (∀ p ∈ news, p.1 ≠ C) ∧ h'.objs.size ≠ C ∧ C ≠ L ∧ (∀ b o, H.get? b = some o → (h'.push ob).get? b = some o) ∧
      ∀ (A : Around) n, GenAtA prog w A h₀ L C z [(C, oC), (G, listOf #[.int z t₁, .int 0 t₂, .int 127 t₃] kG)] (n + 1)
        gs := by
  subst hgs
  have old : ∀ b o, H.get? b = some o → h'.get? b = some o := fun b o e => hs.extBut b o (by rw [hC]; exact Nat.ne_of_lt (Heap.lt_size e)) (Heap.get?_push_of_some _ e)
  have old' : ∀ b o, H.get? b = some o → (h'.push ob).get? b = some o := fun b o e => Heap.get?_push_of_some _ (old b o e)
  have hLC : L < C := by rw [hC]; exact F.ns.lt
  have none_at : ∀ b, H.objs.size ≤ b → h₀.get? b = none := fun b hb => by
    cases q : h₀.get? b with
    | none => rfl
    | some o => exact absurd (Heap.lt_size (F.keep b o q)) (Nat.not_lt.mpr hb)
  have hC₀ : h₀.get? C = none := none_at C (Nat.le_of_eq hC.symm)
  have hsz : h'.objs.size = H.objs.size + 1 := by rw [hs.1, Heap.size_push]
  have hnC := hn
  obtain ⟨oC, es, ep, hoC, hd, r⟩ := hnC
  have hG := N _ hGm
  refine ⟨oC, F.keeps old', fun p hp => ?_, ?_, fun p hp => ?_, ?_, Ne.symm (Nat.ne_of_lt hLC), old', fun A n => ⟨rfl, fun s'' hk hP => ⟨rfl, ?_⟩⟩⟩
  · rcases List.mem_cons.mp hp with rfl | hp
    · exact ⟨Heap.get?_push_size _ hfr, by show h'.objs.size ≠ L; rw [hsz]; exact Ne.symm (Nat.ne_of_lt (Nat.lt_succ_of_lt F.ns.lt)), none_at _ (by show H.objs.size ≤ h'.objs.size; rw [hsz]; exact Nat.le_succ _)⟩
    · rcases List.mem_cons.mp hp with rfl | hp
      · exact ⟨Heap.get?_push_of_some _ hoC, Ne.symm (Nat.ne_of_lt hLC), hC₀⟩
      · exact ⟨old' _ _ (N p hp).1, (N p hp).2⟩
  · obtain ⟨nm, qn, hd'⟩ := hdata
    exact ⟨ob, nm, qn, Heap.get?_push_size _ hfr, hcls, hd', hslots⟩
  · rw [hC]; exact Nat.ne_of_lt (Heap.lt_size (N p hp).1)
  · rw [hC, hsz]; exact Nat.succ_ne_self _
  · have aC : s''.heap.get? C = some oC := hP (C, oC) (by simp)
    have aG : s''.heap.get? G = some _ := hP (G, listOf #[.int z t₁, .int 0 t₂, .int 127 t₃] kG) (by simp)
    exact gen_start (mg := mg) (tc := tc) hE (Ne.symm (Nat.ne_of_lt hLC)) hC₀ hG.2.1 hG.2.2 (by rw [hC]; exact Nat.ne_of_lt (Heap.lt_size hG.1)) hg hmg hz0 hz7 hLC n _ hk ⟨oC, es, ep, aC, hd, r⟩ hm ⟨_, aG, rfl, _, rfl⟩
theorem notIter_ns {h : Heap} {L : Addr} {m : Str → Option Value} (x : h.Ns L m) : ∃ o, h.get? L = some o ∧ NotIter o := by
  obtain ⟨o, es, ep, e, hd, _⟩ := x
  exact ⟨o, e, fun ⟨_, fs, hf⟩ => by rw [hd] at hf; cases hf⟩
theorem gen_next_K {a : Addr} {g n : Nat} {gs : GenState} {m : Str → Option Value} {P : List (Addr × Obj)} {ob : Obj} {Q : Option Value → Shared → Prop} (hh : A.handled = none) (hl : s.heap.NoLimit) (hroom : A.depth < recursionLimit)
    (F : Fr h₀ L s.heap m) (N : News h₀ L s.heap ((a, ob) :: P)) (hg : s.heap.IsGen a g) (hgs : s.gens[g]? = some gs) (GS : GenAtA prog w A.in1 h₀ L C z P (n + 2) gs) (haC : a ≠ C) (hCL : C ≠ L) (hob : ob.cls = .type "generator")
    (h : ∀ t h' tk gens' gs' P', Fr h₀ L h' m → News h₀ L h' ((a, ob) :: P') → h'.IsGen a g → gens'[g]? = some gs' → GenAtA prog w A.in1 h₀ L C z P' (n + 1) gs' → (AllBare s.gens → AllBare gens') → Q (some (.int z t)) { s with heap := h', toks := tk, gens := gens' }) :
    wpAny (model prog w) A (pyNext (.ref a)) Q E s := by
  refine gen_next hh hl hroom hg hgs GS F.keep (fun p hp => (N p (List.mem_cons_of_mem _ hp)).1) fun t h' tk gens' gs' P' k₀ k NP _ e GS' hb => ?_
  have na : NotIter ob := fun ⟨q, _⟩ => by rw [hob] at q; exact absurd q (by decide +kernel)
  have za := N (a, ob) (List.mem_cons_self ..)
  have ka : h'.get? a = some ob := k a ob haC na za.1
  refine h t h' tk gens' gs' P' ⟨F.ns.at' fun o q => ?_, k₀, F.above⟩ (fun p hp => ?_) ?_ e GS' hb
  · obtain ⟨o', q', ni⟩ := notIter_ns F.ns
    rw [q'] at q; cases q
    exact k _ _ (Ne.symm hCL) ni q'
  · rcases List.mem_cons.mp hp with rfl | hp
    · exact ⟨ka, za.2⟩
    · exact NP p hp
  · obtain ⟨o, nm, qn, q, r⟩ := hg
    rw [za.1] at q; cases q
    exact ⟨ob, nm, qn, ka, r⟩
def GTurn (h₀ : Heap) (L : Addr) (nw : List (Addr × Obj)) (J : Nat → (Str → Option Value) → Prop) (k : Nat) (s : Shared) (R : Result → Shared → Prop) (f : Flow) (s₃ : Shared) : Prop :=
  match f with
  | .ret v => R (.ok (.ret v)) s₃
  | .brk => R (.ok .next) s₃
  | _ => ∃ h' tk' m' k', s₃ = { s with heap := h', toks := tk' } ∧ Fr h₀ L h' m' ∧ News h₀ L h' nw ∧ J k' m' ∧ k' < k
theorem GTurn.next {nw news : List (Addr × Obj)} {J : Nat → (Str → Option Value) → Prop} {k : Nat} {R : Result → Shared → Prop} {h' : Heap} {tk' : Nat} {m' : Str → Option Value} (F : Fr h₀ L h' m') (N : News h₀ L h' news) (k' : Nat) (hn : ∀ p ∈ nw, p ∈ news) (hJ : J k' m') (hk : k' < k) :
    GTurn h₀ L nw J k s R .next { s with heap := h', toks := tk' } := ⟨h', tk', m', k', rfl, F, fun p hp => N p (hn p hp), hJ, hk⟩
theorem for_gen {env : Env} {x : Str} {px : Pos} {body : List Stmt} {R : Result → Shared → Prop} {a : Addr} {g n₀ k₀ : Nat} {gs : GenState} {m : Str → Option Value} {P : List (Addr × Obj)} {ob : Obj} (J : Nat → (Str → Option Value) → Prop)
    (hh : A.handled = none) (hl : h₀.NoLimit) (hroom : A.depth < recursionLimit) (hx : env.kindOf x = some .local) (hL : env.locals = L)
    (hp : (env.scope.kind == .class || (env.scope.kind == .module && env.locals != env.globals)) = false)
    (F : Fr h₀ L s.heap m) (N : News h₀ L s.heap ((a, ob) :: P)) (hg : s.heap.IsGen a g) (hgs : s.gens[g]? = some gs) (GS : GenAtA prog w A.in1 h₀ L C z P n₀ gs) (haC : a ≠ C) (hCL : C ≠ L) (hob : ob.cls = .type "generator") (hJ : J k₀ m) (hn : k₀ + 2 ≤ n₀)
    (step : ∀ k m₁ t h tk gens P, J k m₁ → (AllBare s.gens → AllBare gens) → Fr h₀ L h (fun y => if y = x then some (.int z t) else m₁ y) → News h₀ L h ((a, ob) :: P) →
      wpAny (model prog w) A (execs body env) (GTurn h₀ L ((a, ob) :: P) J k { s with heap := h, toks := tk, gens := gens } R) (notedBy (model prog w) A env fun e s' => R (.error e) s') { s with heap := h, toks := tk, gens := gens }) :
    codeAny (model prog w) A (.forLoop (.Name x px) (.ref a) body [] env) R s := by
  refine codeAny_forLoop (fun k s' => ∃ h tk gens gs m' P n, s' = { s with heap := h, toks := tk, gens := gens } ∧ (AllBare s.gens → AllBare gens) ∧ Fr h₀ L h m' ∧ News h₀ L h ((a, ob) :: P) ∧ h.IsGen a g ∧ gens[g]? = some gs ∧
      GenAtA prog w A.in1 h₀ L C z P n gs ∧ J k m' ∧ k + 2 ≤ n) ?_ k₀ ⟨s.heap, s.toks, s.gens, gs, m, P, n₀, rfl, id, F, N, hg, hgs, GS, hJ, hn⟩
  rintro k s' ⟨h, tk, gens, gs₁, m', P₁, n, rfl, hb, F₁, N₁, hg₁, hgs₁, GS₁, hJ₁, hn₁⟩
  obtain ⟨n, rfl⟩ : ∃ i, n = i + 2 := ⟨n - 2, by omega⟩
  refine gen_next_K hh (hl.keeps F₁.keep) hroom F₁ N₁ hg₁ hgs₁ GS₁ haC hCL hob fun t h₂ tk₂ gens₂ gs₂ P₂ F₂ N₂ hg₂ hgs₂ GS₂ hb₂ => ?_
  dsimp only
  refine wpAny_assign_Name (wpAny_storeName_local hx (hL.symm ▸ F₂.ns) (fun h₃ hn₃ hs₃ => ?_) hp)
  rw [hL] at hn₃ hs₃
  have F₃ := F₂.set hn₃ hs₃
  have N₃ := N₂.set hs₃
  refine wpAny_mono (step k m' t h₃ _ gens₂ P₂ hJ₁ (fun q => hb₂ (hb q)) F₃ N₃) (fun f s₃ p => ?_) fun _ _ e => e
  have fin : (∃ h' tk' m' k', s₃ = { ({ s with heap := h₃, toks := tk₂ + 1, gens := gens₂ } : Shared) with heap := h', toks := tk' } ∧ Fr h₀ L h' m' ∧ News h₀ L h' ((a, ob) :: P₂) ∧ J k' m' ∧ k' < k) →
      ∃ m, m < k ∧ ∃ h tk gens gs m' P n, s₃ = { s with heap := h, toks := tk, gens := gens } ∧ (AllBare s.gens → AllBare gens) ∧ Fr h₀ L h m' ∧ News h₀ L h ((a, ob) :: P) ∧ h.IsGen a g ∧ gens[g]? = some gs ∧
      GenAtA prog w A.in1 h₀ L C z P n gs ∧ J m m' ∧ m + 2 ≤ n := by
    rintro ⟨h', tk', m₂, k', rfl, F₄, N₄, hJ₄, hk⟩
    refine ⟨k', hk, h', tk', gens₂, gs₂, m₂, P₂, n + 1, rfl, fun q => hb₂ (hb q), F₄, N₄, ?_, hgs₂, GS₂, hJ₄, by omega⟩
    obtain ⟨o, nm, qn, q, r⟩ := hg₂
    rw [(N₂ (a, ob) (List.mem_cons_self ..)).1] at q; cases q
    exact ⟨ob, nm, qn, (N₄ (a, ob) (List.mem_cons_self ..)).1, r⟩
  cases f with
  | ret v => exact p
  | brk => exact p
  | next => exact fin p
  | cont => exact fin p
end
end
section
open PySem PySem.W PyProof.Rows PySem.Calls PySem.Spec PyProof.Rows.LCg
set_option maxRecDepth 100000
/-- the end of one step of a comprehension -/
def CEnd (h₀ : Heap) (L : Addr) (m : Str → Option Value) (sB : Shared) (I : Addr) (oI : Obj) (C : Addr) (oC : Obj) (D : Addr) (oD : Obj) (news : List (Addr × Obj)) (K : List (Addr × Obj) → Prop) (s₄ : Shared) : Prop :=
  ∃ h' tk gens' nw', s₄ = { sB with heap := h', toks := tk, gens := gens' } ∧ (AllBare sB.gens → AllBare gens') ∧ Fr h₀ L h' m ∧ News h₀ L h' ((I, oI) :: (C, oC) :: (D, oD) :: (nw' ++ news)) ∧ Off3 I C D nw' ∧ K nw'
theorem Off3.app {I C D : Addr} {a b : List (Addr × Obj)} (x : Off3 I C D a) (y : Off3 I C D b) : Off3 I C D (a ++ b) := Off3.of fun p hp => (List.mem_append.mp hp).elim (x.mem p) (y.mem p)
theorem CEnd.intro {h₀ : Heap} {L I C D : Addr} {m : Str → Option Value} {sB : Shared} {oI oC oD : Obj} {news all : List (Addr × Obj)} {K : List (Addr × Obj) → Prop} {h' : Heap} {tk : Nat} {gens' : Array GenState} (nw' : List (Addr × Obj))
    (hb : AllBare sB.gens → AllBare gens') (F : Fr h₀ L h' m) (N : News h₀ L h' all) (sub : ∀ p ∈ (I, oI) :: (C, oC) :: (D, oD) :: (nw' ++ news), p ∈ all) (off : Off3 I C D nw') (k : K nw') :
    CEnd h₀ L m sB I oI C oC D oD news K { sB with heap := h', toks := tk, gens := gens' } := ⟨h', tk, gens', nw', rfl, hb, F, fun p hp => N p (sub p hp), off, k⟩
section
variable {prog : Program} {w : World} {A : Around} {E : Value → Shared → Prop} {h₀ : Heap} {L : Addr} {m : Str → Option Value} {env : Env}
theorem block_J {elt iter : Expr} {x : Str} {px : Pos} {ifs : List Expr} {scope : Scope} {cl : List (Str × Addr)} {pos : Pos} {s₂ : Shared} {I : Addr} {fp : List Addr} {n : Nat} {P : Nat → Value → Prop} {St : Nat → Heap → Prop} {news : List (Addr × Obj)}
    (J : Nat → List Value → List (Addr × Obj) → Prop) {RR : Value → Addr → Result → Shared → Prop}
    (W : Walks prog w A I fp [I] n P St) (hsz : n ≤ sizeLine) (hIo : ∀ i h, St i h → ∃ o, h.get? I = some o)
    (hSt : ∀ i h h' o, St i h → h.get? I = some o → h'.get? I = some o → (∀ b o, h₀.get? b = some o → h'.get? b = some o) → News h₀ L h' news → St i h')
    (hcell : ∀ y ∈ scope.names, y.2 ≠ .cell) (hkind : scope.kind = .function) (hx : scope.names.lookup x = some .local) (hst : St 0 s₂.heap) (hfp : ∀ b ∈ fp, b < s₂.heap.objs.size)
    (F : Fr h₀ L s₂.heap m) (N : News h₀ L s₂.heap news) (hIL : L ≠ I) (hI₀ : h₀.get? I = none) (off : ∀ p ∈ news, p.1 ≠ I) (hJ : J 0 [] [])
    (turn : ∀ i v ys nw oI C oC D m₂ h tk gens (E' : Value → Shared → Prop), i < n → P i v → J i ys nw → (AllBare s₂.gens → AllBare gens) → NsObj oC m₂ → m₂ x = some v → Fr h₀ L h m → News h₀ L h ((I, oI) :: (C, oC) :: (D, lst ys) :: (nw ++ news)) →
      Off3 I C D (nw ++ news) → ((@Ne Nat I C) ∧ (@Ne Nat I D) ∧ (@Ne Nat C D)) →
      wpAny (model prog w) A (forIn ifs true fun c r => if r = true then do let ok ← isTrue c (compEnvC scope cl C env) (eval c (compEnvC scope cl C env)); pure (ForInStep.yield ok) else pure (ForInStep.yield r))
        (fun ok s₃ => if ok = true then wpAny (model prog w) A (eval elt (compEnvC scope cl C env)) (fun y => CEnd h₀ L m s₂ I oI C oC D (lst ys) news fun nw' => J (i + 1) (ys ++ [y]) nw') E' s₃
          else CEnd h₀ L m s₂ I oI C oC D (lst ys) news (fun nw' => J (i + 1) ys nw') s₃) E' { s₂ with heap := h, toks := tk, gens := gens })
    (hlen : ∀ i ys nw, J i ys nw → ys.length ≤ i)
    (hRR : ∀ D C oC m' ys nw h tk gens, (AllBare s₂.gens → AllBare gens) → Fr h₀ L h m → News h₀ L h ((C, oC) :: (D, lst ys) :: (nw ++ news)) → NsObj oC m' → C ≠ D → (∀ p ∈ nw ++ news, p.1 ≠ C ∧ p.1 ≠ D) → J n ys nw →
      RR (.ref D) C (.ok .next) { s₂ with heap := h, toks := tk, gens := gens }) :
    wpAny (model prog w) A (newList []) (fun acc s₃ => wpAny (model prog w) A (newFunctionEnv scope env.globals cl [] env.qual none .none (some env)) (fun cenv s₄ =>
      codeAny (model prog w) A (.compStart (.ListComp elt [⟨.Name x px, iter, ifs, 0⟩] scope pos) 0 (.ref I) acc { cenv with scope := relabel scope env }) (RR acc cenv.locals) s₄) E s₃) E s₂ := by
  refine wpAny_newObj_type (wpAny_newFunctionEnv hcell (by intro y hy; simp at hy) (fun h₁ hns₁ hsb₁ => ?_) hkind)
  dsimp only at hns₁ hsb₁ ⊢
  generalize hH2 : s₂.heap.push { cls := .type "list", dict := none, data := .seq ([] : List Value).toArray } = H2 at hns₁ hsb₁ ⊢
  have hC : H2.objs.size = s₂.heap.objs.size + 1 := by rw [← hH2, Heap.size_push]
  generalize hCe : H2.objs.size = C at *
  generalize hDe : s₂.heap.objs.size = D at *
  have hDC : D ≠ C := by rw [hC]; exact Nat.ne_of_lt (Nat.lt_succ_self _)
  have below : ∀ b, b < D → b ≠ C ∧ b ≠ D := fun b hb => ⟨by rw [hC]; exact Nat.ne_of_lt (Nat.lt_succ_of_lt hb), Nat.ne_of_lt hb⟩
  have ltD : ∀ b o, s₂.heap.get? b = some o → b < D := fun b o e => hDe ▸ Heap.lt_size e
  have hDf : D ∉ fp := fun hm => Nat.lt_irrefl _ (hfp _ hm)
  have hCf : C ∉ fp := fun hm => by have := hfp _ hm; rw [hC] at this; exact Nat.lt_irrefl _ (Nat.lt_of_succ_lt this)
  have hIlt : I < D := hfp I (W.sub I (List.mem_singleton.mpr rfl))
  have old : ∀ b o, s₂.heap.get? b = some o → h₁.get? b = some o := fun b o e => hsb₁.extBut b o (below b (ltD b o e)).1 (Heap.get?_push_of_some _ (hH2 ▸ Heap.get?_push_of_some _ e))
  have hacc : h₁.get? D = some (lst []) := hsb₁.extBut _ _ hDC (Heap.get?_push_of_some _ (by rw [← hH2, ← hDe]; exact Heap.get?_push_size _ rfl))
  have hst₁ : St 0 h₁ := W.frame _ _ _ hst fun b _ o e => old b o e
  have fresh₀ : ∀ a, D ≤ a → h₀.get? a = none := fun a ha => by
    cases e : h₀.get? a with
    | none => rfl
    | some o' => exact absurd (ltD a o' (F.keep a o' e)) (Nat.not_lt.mpr ha)
  have hD₀ : h₀.get? D = none := fresh₀ _ (Nat.le_refl _)
  have hC₀ : h₀.get? C = none := fresh₀ _ (by rw [hC]; exact Nat.le_succ _)
  have hLlt : L < D := by obtain ⟨_, _, _, q, _⟩ := F.ns; exact ltD _ _ q
  have hDL : D ≠ L := Ne.symm (below L hLlt).2
  have hCL : C ≠ L := Ne.symm (below L hLlt).1
  have hCI : I ≠ C := (below I hIlt).1
  have hDI : I ≠ D := (below I hIlt).2
  have offN : Off3 I C D news := Off3.of fun p hp => ⟨off p hp, (below _ (ltD _ _ (N p hp).1)).1, (below _ (ltD _ _ (N p hp).1)).2⟩
  have loop : ∀ s₃ : Shared, s₃ = { s₂ with heap := h₁, toks := s₂.toks + ([] : List (Str × Value)).length } →
      codeAny (model prog w) A (.compLoop (.ListComp elt [⟨.Name x px, iter, ifs, 0⟩] scope pos) 0 (.ref I) (.ref D) (compEnvC scope cl C env)) (RR (.ref D) C) s₃ := by
    rintro s₃ rfl
    refine codeAny_compLoop_tests
      (fun k s' => ∃ h' tk gens i ys m' nw, s' = { s₂ with heap := h', toks := tk, gens := gens } ∧ i ≤ n ∧ k = n + 1 - i ∧ (AllBare s₂.gens → AllBare gens) ∧ St i h' ∧ Fr h₀ L h' m ∧ h'.Ns C m' ∧ News h₀ L h' ((D, lst ys) :: (nw ++ news)) ∧
        Off3 I C D nw ∧ J i ys nw) ?_ (n + 1)
      ⟨h₁, _, s₂.gens, 0, [], _, [], rfl, Nat.zero_le _, rfl, id, hst₁, F.keeps old, hns₁, fun p hp => ?_, trivial, hJ⟩
    · rintro k s' ⟨h', tk, gens, i, ys, m', nw, rfl, hi, rfl, hb, hst', F', hn', N', off', hJ'⟩
      have off3 := (Off3.app off' offN).mem
      by_cases hlt : i < n
      · refine W.item i _ _ _ hlt hst' fun v h₂ tk₂ hPv hst₂ hk₂ => ?_
        refine wpAny_assign_Name (wpAny_storeName_local (lookup_relabel_local hx) (hn'.at' fun o e => hk₂ _ o (by simpa using Ne.symm hCI) e) (fun h₃ hn₃ hs₃ => ?_) (by simp [compEnvC, relabel, hkind]))
        have hst₃ : St (i + 1) h₃ := W.frame _ _ _ hst₂ fun b hb o e => hs₃.extBut b o (fun q => hCf (by have q' : b = C := q; rw [← q']; exact hb)) e
        obtain ⟨oI, heI⟩ := hIo _ _ hst₃
        obtain ⟨oC, heC, hoC⟩ := ns_obj hn₃
        have F₃ : Fr h₀ L h₃ m := (fr_but F' hk₂ hIL hI₀).change hs₃ hCL hC₀
        have N₂ : News h₀ L h₂ ((D, lst ys) :: (nw ++ news)) := news_but N' hk₂ fun p hp => by
          rcases List.mem_cons.mp hp with rfl | hp
          · exact Ne.symm hDI
          · exact (off3 p hp).1
        have N₃ : News h₀ L h₃ ((I, oI) :: (C, oC) :: (D, lst ys) :: (nw ++ news)) := fun p hp => by
          rcases List.mem_cons.mp hp with rfl | hp
          · exact ⟨heI, Ne.symm hIL, hI₀⟩
          · rcases List.mem_cons.mp hp with rfl | hp
            · exact ⟨heC, hCL, hC₀⟩
            · have z := N₂ p hp
              refine ⟨hs₃.extBut _ _ ?_ z.1, z.2⟩
              rcases List.mem_cons.mp hp with rfl | hp
              · exact hDC
              · exact (off3 p hp).2.1
        have noteStep : ∀ (ys' : List Value) (s₄ : Shared), ys'.length ≤ i + 1 → (∀ nw', J (i + 1) ys' nw' → ys'.length ≤ i + 1) → ∀ oD, CEnd h₀ L m s₂ I oI C oC D oD news (fun nw' => J (i + 1) ys' nw') s₄ →
            (∀ h' : Heap, oD = lst ys' → s₄.heap = h' → ∃ k', k' < n + 1 - i ∧ ∃ h' tk gens i ys m' nw, s₄ = { s₂ with heap := h', toks := tk, gens := gens } ∧ i ≤ n ∧ k' = n + 1 - i ∧ (AllBare s₂.gens → AllBare gens) ∧ St i h' ∧ Fr h₀ L h' m ∧ h'.Ns C m' ∧ News h₀ L h' ((D, lst ys) :: (nw ++ news)) ∧
              Off3 I C D nw ∧ J i ys nw) := by
          rintro ys' s₄ _ _ oD ⟨h₄, tk₄, gens₄, nw', rfl, hb₄, F₄, N₄, off₄, hJ₄⟩ _ rfl _
          have zI := (N₄ (I, oI) List.mem_cons_self).1
          have zC := (N₄ (C, oC) (List.mem_cons_of_mem _ List.mem_cons_self)).1
          have N₄' : News h₀ L h₄ ((D, lst ys') :: (nw' ++ news)) := fun p hp => N₄ p (List.mem_cons_of_mem _ (List.mem_cons_of_mem _ hp))
          refine ⟨n + 1 - (i + 1), by omega, h₄, tk₄, gens₄, i + 1, ys', _, nw', rfl, hlt, rfl, hb₄, ?_, F₄, hoC.ns zC, N₄', off₄, hJ₄⟩
          exact hSt _ _ _ _ hst₃ heI zI F₄.keep fun p hp => N₄' p (List.mem_cons_of_mem _ (List.mem_append_right _ hp))
        refine wpAny_mono (turn i v ys nw oI C oC D _ h₃ _ gens _ hlt hPv hJ' hb hoC (by simp) F₃ N₃ (Off3.app off' offN) ⟨hCI, hDI, Ne.symm hDC⟩) (fun ok s₃ h₃' => ?_) fun _ _ e => e
        cases ok with
        | false =>
          rw [if_neg Bool.false_ne_true] at h₃' ⊢
          exact noteStep ys s₃ (by have := hlen _ _ _ hJ'; omega) (fun nw' q => hlen _ _ _ q) _ h₃' _ rfl rfl
        | true =>
          rw [if_pos rfl] at h₃' ⊢
          refine wpAny_mono h₃' (fun y s₄ h₄ => ?_) fun _ _ e => e
          obtain ⟨h₄, tk₄, gens₄, nw', rfl, hb₄, F₄, N₄, off₄, hJ₄⟩ := h₄
          have zI := (N₄ (I, oI) List.mem_cons_self).1
          have zC := (N₄ (C, oC) (List.mem_cons_of_mem _ List.mem_cons_self)).1
          have zD := (N₄ (D, lst ys) (List.mem_cons_of_mem _ (List.mem_cons_of_mem _ List.mem_cons_self))).1
          have N₄' : News h₀ L h₄ (nw' ++ news) := fun p hp => N₄ p (List.mem_cons_of_mem _ (List.mem_cons_of_mem _ (List.mem_cons_of_mem _ hp)))
          have hst₄ : St (i + 1) h₄ := hSt _ _ _ _ hst₃ heI zI F₄.keep fun p hp => N₄' p (List.mem_append_right _ hp)
          have hyl := hlen _ _ _ hJ'
          refine append_at (hsz := by show ys.toArray.size ≤ sizeLine; rw [List.size_toArray]; exact Nat.le_trans hyl (Nat.le_trans hi hsz)) zD fun h₅ hs₅ hD₅ => ?_
          have off4 := (Off3.app off₄ offN).mem
          refine ⟨n + 1 - (i + 1), by omega, h₅, tk₄, gens₄, i + 1, ys ++ [y], _, nw', rfl, hlt, rfl, hb₄, W.frame _ _ _ hst₄ fun b hb o e => hs₅.extBut b o (fun q => hDf (q ▸ hb)) e, F₄.change hs₅ hDL hD₀,
            (hoC.ns zC).sameBut hs₅ (Ne.symm hDC), fun p hp => ?_, off₄, hJ₄⟩
          rcases List.mem_cons.mp hp with rfl | hp
          · exact ⟨hD₅.trans (congrArg some (lst_snoc ys y)), hDL, hD₀⟩
          · exact ⟨hs₅.extBut _ _ (off4 p hp).2.2 (N₄' p hp).1, (N₄' p hp).2⟩
      · obtain rfl : i = n := Nat.le_antisymm hi (Nat.not_lt.mp hlt)
        refine W.done _ _ _ hst' fun h₂ tk₂ hk₂ => ?_
        have N₂ : News h₀ L h₂ ((D, lst ys) :: (nw ++ news)) := news_but N' hk₂ fun p hp => by
          rcases List.mem_cons.mp hp with rfl | hp
          · exact Ne.symm hDI
          · exact (off3 p hp).1
        obtain ⟨oC, heC, hoC⟩ := ns_obj (hn'.at' fun o e => hk₂ _ o (by simpa using Ne.symm hCI) e)
        refine hRR D C oC _ ys nw h₂ tk₂ gens hb (fr_but F' hk₂ hIL hI₀) (fun p hp => ?_) hoC (Ne.symm hDC) (fun p hp => (off3 p hp).2) hJ'
        rcases List.mem_cons.mp hp with rfl | hp
        · exact ⟨heC, hCL, hC₀⟩
        · exact N₂ p hp
    · rcases List.mem_cons.mp hp with rfl | hp
      · exact ⟨hacc, hDL, hD₀⟩
      · exact ⟨old _ _ (N p hp).1, (N p hp).2⟩
  exact codeAny_compStart_list (loop _ rfl) (W.self 0 _ _ _ hst₁ (loop _ rfl))
end
end
section
open PySem PySem.W PyProof.Rows PySem.Calls PySem.Spec PyProof.Rows.LCg
set_option maxRecDepth 100000
section
variable {prog : Program} {w : World} {A : Around} {E : Value → Shared → Prop} {h₀ : Heap} {L : Addr} {m : Str → Option Value} {env : Env}
/-- a step of a comprehension, by its test and its element -/
def CTurn (prog : Program) (w : World) (A : Around) (h₀ : Heap) (L : Addr) (m : Str → Option Value) (env : Env) (elt : Expr) (x : Str) (ifs : List Expr) (scope : Scope) (cl : List (Str × Addr)) (s₂ : Shared) (n : Nat) (P : Nat → Value → Prop) (news : List (Addr × Obj))
    (J : Nat → List Value → List (Addr × Obj) → Prop) : Prop :=
  ∀ I i v ys nw oI C oC D m₂ h tk gens (E' : Value → Shared → Prop), i < n → P i v → J i ys nw → (AllBare s₂.gens → AllBare gens) → NsObj oC m₂ → m₂ x = some v → Fr h₀ L h m → News h₀ L h ((I, oI) :: (C, oC) :: (D, lst ys) :: (nw ++ news)) →
      Off3 I C D (nw ++ news) → ((@Ne Nat I C) ∧ (@Ne Nat I D) ∧ (@Ne Nat C D)) →
      wpAny (model prog w) A (forIn ifs true fun c r => if r = true then do let ok ← isTrue c (compEnvC scope cl C env) (eval c (compEnvC scope cl C env)); pure (ForInStep.yield ok) else pure (ForInStep.yield r))
        (fun ok s₃ => if ok = true then wpAny (model prog w) A (eval elt (compEnvC scope cl C env)) (fun y => CEnd h₀ L m s₂ I oI C oC D (lst ys) news fun nw' => J (i + 1) (ys ++ [y]) nw') E' s₃
          else CEnd h₀ L m s₂ I oI C oC D (lst ys) news (fun nw' => J (i + 1) ys nw') s₃) E' { s₂ with heap := h, toks := tk, gens := gens }
/-- behind an assignment to a name, the comprehension's frame as it was -/
def AsgPost (h₀ : Heap) (L : Addr) (sB : Shared) (C : Addr) (oC : Obj) (Fin : (Str → Option Value) → List (Addr × Obj) → Prop) (s₄ : Shared) : Prop :=
  ∃ h' tk gens' m' news', s₄ = { sB with heap := h', toks := tk, gens := gens' } ∧ (AllBare sB.gens → AllBare gens') ∧ Fr h₀ L h' m' ∧ News h₀ L h' ((C, oC) :: news') ∧ (∀ p ∈ news', p.1 ≠ C) ∧ Fin m' news'
theorem AsgPost.intro {sB : Shared} {C : Addr} {oC : Obj} {Fin : (Str → Option Value) → List (Addr × Obj) → Prop} {h' : Heap} {tk : Nat} {gens' : Array GenState} {m' : Str → Option Value} {all : List (Addr × Obj)} (news' : List (Addr × Obj))
    (hb : AllBare sB.gens → AllBare gens') (F : Fr h₀ L h' m') (N : News h₀ L h' all) (sub : ∀ p ∈ (C, oC) :: news', p ∈ all) (off : ∀ p ∈ news', p.1 ≠ C) (k : Fin m' news') :
    AsgPost h₀ L sB C oC Fin { sB with heap := h', toks := tk, gens := gens' } := ⟨h', tk, gens', m', news', rfl, hb, F, fun p hp => N p (sub p hp), off, k⟩
def CDone (prog : Program) (w : World) (A : Around) (E : Value → Shared → Prop) (h₀ : Heap) (L : Addr) (m : Str → Option Value) (use : Option (Value → Sem Unit)) (Q : Value → Shared → Prop) (s₂ : Shared) (n : Nat) (news : List (Addr × Obj)) (J : Nat → List Value → List (Addr × Obj) → Prop) : Prop :=
  ∀ D C oC m' ys nw h tk gens, (AllBare s₂.gens → AllBare gens) → Fr h₀ L h m → News h₀ L h ((C, oC) :: (D, lst ys) :: (nw ++ news)) → NsObj oC m' → C ≠ D → (∀ p ∈ nw ++ news, p.1 ≠ C ∧ p.1 ≠ D) → J n ys nw →
    match use with
    | none => ∀ h', Fr h₀ L h' m → News h₀ L h' ((D, lst ys) :: (nw ++ news)) → Q (.ref D) { s₂ with heap := h', toks := tk, gens := gens }
    | some u => wpAny (model prog w) A (u (.ref D)) (fun _ => AsgPost h₀ L s₂ C oC fun m'' news'' => ∀ h' tk' gens', (AllBare s₂.gens → AllBare gens') → Fr h₀ L h' m'' → News h₀ L h' news'' → Q .none { s₂ with heap := h', toks := tk', gens := gens' }) E { s₂ with heap := h, toks := tk, gens := gens }
theorem CDone.post {use : Option (Value → Sem Unit)} {Q : Value → Shared → Prop} {s₂ s₁ : Shared} {n : Nat} {news : List (Addr × Obj)} {J : Nat → List Value → List (Addr × Obj) → Prop} (d : CDone prog w A E h₀ L m use Q s₂ n news J) (h2 : ∃ h, s₁ = { s₂ with heap := h }) :
    ∀ D C oC m' ys nw h tk gens, (AllBare s₁.gens → AllBare gens) → Fr h₀ L h m → News h₀ L h ((C, oC) :: (D, lst ys) :: (nw ++ news)) → NsObj oC m' → C ≠ D → (∀ p ∈ nw ++ news, p.1 ≠ C ∧ p.1 ≠ D) → J n ys nw →
      compPost (model prog w) A E use Q (.ref D) C (.ok .next) { s₁ with heap := h, toks := tk, gens := gens } := by
  obtain ⟨h1, rfl⟩ := h2
  intro D C oC m' ys nw h tk gens hb F N hC hCD off hJ
  have z := d D C oC m' ys nw h tk gens hb F N hC hCD off hJ
  have nC := N (C, oC) (List.mem_cons_self ..)
  cases use with
  | none =>
    refine ⟨m', hC.ns nC.1, fun h' hs => z h' (F.change hs nC.2.1 nC.2.2) fun p hp => ?_⟩
    have y := N p (List.mem_cons_of_mem _ hp)
    refine ⟨hs.extBut _ _ ?_ y.1, y.2⟩
    rcases List.mem_cons.mp hp with rfl | hp
    · exact Ne.symm hCD
    · exact (off p hp).1
  | some u =>
    refine wpAny_mono z (fun _ s'' hz => ?_) fun _ _ e => e
    obtain ⟨h', tk', gens', m'', news'', rfl, hb', F', N', off', fin⟩ := hz
    have nC' := N' (C, oC) (List.mem_cons_self ..)
    refine ⟨m', hC.ns nC'.1, fun h'' hs => fin h'' tk' gens' hb' (F'.change hs nC'.2.1 nC'.2.2) fun p hp => ?_⟩
    have y := N' p (List.mem_cons_of_mem _ hp)
    exact ⟨hs.extBut _ _ (off' p hp) y.1, y.2⟩
theorem iter_range_J {elt iter : Expr} {x : Str} {px : Pos} {ifs : List Expr} {scope : Scope} {cl : List (Str × Addr)} {pos : Pos} {use : Option (Value → Sem Unit)} {Q : Value → Shared → Prop} {s₁ : Shared} {r : Addr} {a b : Int} {t u v : Tok} {n : Nat} {news : List (Addr × Obj)}
    (J : Nat → List Value → List (Addr × Obj) → Prop) (hh : A.handled = none) (hr : IsRange s₁.heap r a b 1 t u v) (hsm : Builtin.Range.small a b 1 = true) (hn : Builtin.Range.rangeSize a b 1 = ((n : Nat) : Int)) (hsz : n ≤ sizeLine)
    (hcell : ∀ y ∈ scope.names, y.2 ≠ .cell) (hkind : scope.kind = .function) (hx : scope.names.lookup x = some .local)
    (F : Fr h₀ L s₁.heap m) (N : News h₀ L s₁.heap news) (hJ : J 0 [] []) (hlen : ∀ i ys nw, J i ys nw → ys.length ≤ i)
    (turn : CTurn prog w A h₀ L m env elt x ifs scope cl s₁ n (fun i v => ∃ t, v = .int (a + (i : Int)) t) news J) (done : CDone prog w A E h₀ L m use Q s₁ n news J) :
    wpAny (model prog w) A (pyIter (.ref r)) (fun it s₂ => wpAny (model prog w) A (newList []) (fun acc s₃ => wpAny (model prog w) A (newFunctionEnv scope env.globals cl [] env.qual none .none (some env)) (fun cenv s₄ =>
      codeAny (model prog w) A (.compStart (.ListComp elt [⟨.Name x px, iter, ifs, 0⟩] scope pos) 0 it acc { cenv with scope := relabel scope env }) (compPost (model prog w) A E use Q acc cenv.locals) s₄) E s₃) E s₂) E s₁ := by
  refine wpAny_pyIter_range hr hsm ?_
  refine block_J (RR := fun acc C => compPost (model prog w) A E use Q acc C) J (range_walks hh a n) hsz (fun i h st => ⟨_, st⟩) (fun i h h' o st e e' k _ => range_st (h₀ := h₀) (L := L) i h h' o [] st e e' k News.nil trivial) hcell hkind hx (by show IsRangeIter _ _ _ _ _; rw [hn]; simpa using Heap.get?_push_size _ rfl) (fun b hb => ?_)
    (F.keeps fun _ _ e => Heap.get?_push_of_some _ e) (N.grown fun _ _ e => Heap.get?_push_of_some _ e) (Nat.ne_of_lt F.ns.lt) (next_is_new F) (fun p hp => Nat.ne_of_lt (Heap.lt_size (N p hp).1)) hJ
    (fun i v ys nw oI C oC D m₂ h tk gens E' => turn _ i v ys nw oI C oC D m₂ h tk gens E') hlen (done.post ⟨_, rfl⟩)
  rw [List.mem_singleton.mp hb]
  show s₁.heap.objs.size < (s₁.heap.push _).objs.size
  rw [Heap.size_push]; exact Nat.lt_succ_self _
theorem iter_list_J {elt iter : Expr} {x : Str} {px : Pos} {ifs : List Expr} {scope : Scope} {cl : List (Str × Addr)} {pos : Pos} {use : Option (Value → Sem Unit)} {Q : Value → Shared → Prop} {s₁ : Shared} {ax : Addr} {its : List Value} {k : Nat} {news : List (Addr × Obj)}
    (J : Nat → List Value → List (Addr × Obj) → Prop) (hh : A.handled = none) (hm : (ax, listOf its.toArray k) ∈ news) (hsz : its.length ≤ sizeLine)
    (hcell : ∀ y ∈ scope.names, y.2 ≠ .cell) (hkind : scope.kind = .function) (hx : scope.names.lookup x = some .local)
    (F : Fr h₀ L s₁.heap m) (N : News h₀ L s₁.heap news) (hJ : J 0 [] []) (hlen : ∀ i ys nw, J i ys nw → ys.length ≤ i)
    (turn : CTurn prog w A h₀ L m env elt x ifs scope cl s₁ its.length (fun i v => its[i]? = some v) news J) (done : CDone prog w A E h₀ L m use Q s₁ its.length news J) :
    wpAny (model prog w) A (pyIter (.ref ax)) (fun it s₂ => wpAny (model prog w) A (newList []) (fun acc s₃ => wpAny (model prog w) A (newFunctionEnv scope env.globals cl [] env.qual none .none (some env)) (fun cenv s₄ =>
      codeAny (model prog w) A (.compStart (.ListComp elt [⟨.Name x px, iter, ifs, 0⟩] scope pos) 0 it acc { cenv with scope := relabel scope env }) (compPost (model prog w) A E use Q acc cenv.locals) s₄) E s₃) E s₂) E s₁ := by
  have hl : s₁.heap.IsList ax its.toArray := ⟨_, (N _ hm).1, rfl, _, rfl⟩
  have hlt : ax < s₁.heap.objs.size := Heap.lt_size (N _ hm).1
  refine wpAny_pyIter_list hl ?_
  have W := Walks.list (prog := prog) (w := w) hh s₁.heap.objs.size ax (Nat.ne_of_lt hlt) its.toArray
  have up : ∀ b o, s₁.heap.get? b = some o → (s₁.heap.push { cls := .type "list_iterator", data := .fields #[.ref ax, .int 0 0] }).get? b = some o := fun b o e => Heap.get?_push_of_some _ e
  have hW : its.toArray.size = its.length := by simp
  rw [hW] at W
  refine block_J (RR := fun acc C => compPost (model prog w) A E use Q acc C) J W hsz (fun i h st => by obtain ⟨o, e, _⟩ := st.1; exact ⟨o, e⟩) (fun i h h' o st e e' kk Nn => list_st (h₀ := h₀) (L := L) i h h' o news st e e' kk Nn (.inr ⟨_, hm, rfl, _, rfl⟩)) hcell hkind hx ⟨⟨_, Heap.get?_push_size _ rfl, rfl, rfl⟩, hl.push _⟩ (fun b hb => ?_)
    (F.keeps up) (N.grown up) (Nat.ne_of_lt F.ns.lt) (next_is_new F) (fun p hp => Nat.ne_of_lt (Heap.lt_size (N p hp).1)) hJ
    (fun i v ys nw oI C oC D m₂ h tk gens E' hi hP => turn _ i v ys nw oI C oC D m₂ h tk gens E' hi (by simpa using hP)) hlen (done.post ⟨_, rfl⟩)
  show b < (s₁.heap.push _).objs.size
  rw [Heap.size_push]
  rcases List.mem_cons.mp hb with rfl | hb
  · exact Nat.lt_succ_self _
  · rw [List.mem_singleton.mp hb]; exact Nat.lt_succ_of_lt hlt
theorem lc_eval {elt target iter : Expr} {ifs : List Expr} {scope : Scope} {cl : List (Str × Addr)} {pos : Pos} {Q : Value → Shared → Prop} {s : Shared}
    (hclos : closureFor scope env = pure cl) (hkind : scope.kind = .function) (hnames : ∀ y ∈ scope.names, y.2 = .local → scope.names.lookup y.1 = some .local)
    (h : wpAny (model prog w) A (eval iter env) (fun xv s₁ => wpAny (model prog w) A (pyIter xv) (fun it s₂ => wpAny (model prog w) A (newList []) (fun acc s₃ => wpAny (model prog w) A (newFunctionEnv scope env.globals cl [] env.qual none .none (some env)) (fun cenv s₄ =>
      codeAny (model prog w) A (.compStart (.ListComp elt [⟨target, iter, ifs, 0⟩] scope pos) 0 it acc { cenv with scope := relabel scope env }) (compPost (model prog w) A E none Q acc cenv.locals) s₄) E s₃) E s₂) E s₁) E s)
    (hs : ∀ x, foldedSetIterable iter env x = pure x) :
    wpAny (model prog w) A (eval (.ListComp elt [⟨target, iter, ifs, 0⟩] scope pos) env) Q E s := by
  rw [eval_ListComp]
  exact wpAny_comprehension_free (use := none) rfl hs hclos hkind hnames h
theorem lc_assign {elt target iter : Expr} {ifs : List Expr} {y : Str} {py : Pos} {scope : Scope} {cl : List (Str × Addr)} {pos spos : Pos} {Q : Flow → Shared → Prop} {s : Shared}
    (hsw : swapsWith (.ListComp elt [⟨target, iter, ifs, 0⟩] scope pos) (some (.Name y py)) spos.line env = pure true)
    (hclos : closureFor scope env = pure cl) (hkind : scope.kind = .function) (hnames : ∀ y ∈ scope.names, y.2 = .local → scope.names.lookup y.1 = some .local)
    (h : wpAny (model prog w) A (eval iter env) (fun xv s₁ => wpAny (model prog w) A (pyIter xv) (fun it s₂ => wpAny (model prog w) A (newList []) (fun acc s₃ => wpAny (model prog w) A (newFunctionEnv scope env.globals cl [] env.qual none .none (some env)) (fun cenv s₄ =>
      codeAny (model prog w) A (.compStart (.ListComp elt [⟨target, iter, ifs, 0⟩] scope pos) 0 it acc { cenv with scope := relabel scope env }) (compPost (model prog w) A E (some (assign (.Name y py) env)) (fun _ s' => Q .next s') acc cenv.locals) s₄) E s₃) E s₂) E s₁) E s)
    (hs : ∀ x, foldedSetIterable iter env x = pure x) :
    wpAny (model prog w) A (exec (.Assign [.Name y py] (.ListComp elt [⟨target, iter, ifs, 0⟩] scope pos) spos) env) Q E s := by
  rw [exec_Assign_Name_used _ _ _ _ hsw]
  refine wpAny_bind (wpAny_standAt (wpAny_bind ?_))
  show wpAny _ A (do let _ ← comprehension (.ListComp elt [⟨target, iter, ifs, 0⟩] scope pos) scope env _ (newList []) false (eval iter env) (some (assign (.Name y py) env))) _ _ s
  refine wpAny_bind (wpAny_mono (wpAny_comprehension_free (use := some (assign (.Name y py) env)) (Q := fun _ s' => Q .next s') rfl hs hclos hkind hnames h) (fun _ s' hq => wpAny_pure (wpAny_pure hq)) fun _ _ e => e)
end
end
section
open PySem PySem.W PyProof.Rows PySem.Calls PySem.Spec PyProof.Rows.LCg
set_option maxRecDepth 100000
section
variable {prog : Program} {w : World} {A : Around} {h₀ : Heap} {L : Addr} {m : Str → Option Value} {env : Env}
/-- the end of one turn of a loop -/
def FEnd (h₀ : Heap) (L : Addr) (sB : Shared) (I : Addr) (oI : Obj) (adr : List Addr) (K : (Str → Option Value) → List (Addr × Obj) → Prop) (R : Result → Shared → Prop) (f : Flow) (s₃ : Shared) : Prop :=
  match f with
  | .ret v => R (.ok (.ret v)) s₃
  | .brk => R (.ok .next) s₃
  | _ => ∃ h' tk gens' m' nw', s₃ = { sB with heap := h', toks := tk, gens := gens' } ∧ (AllBare sB.gens → AllBare gens') ∧ Fr h₀ L h' m' ∧ News h₀ L h' ((I, oI) :: nw') ∧ nw'.map (·.1) = adr ∧ K m' nw'
theorem FEnd.next {sB : Shared} {I : Addr} {oI : Obj} {adr : List Addr} {K : (Str → Option Value) → List (Addr × Obj) → Prop} {R : Result → Shared → Prop} {h' : Heap} {tk : Nat} {gens' : Array GenState} {m' : Str → Option Value} {all : List (Addr × Obj)} (nw' : List (Addr × Obj))
    (hb : AllBare sB.gens → AllBare gens') (F : Fr h₀ L h' m') (N : News h₀ L h' all) (sub : ∀ p ∈ (I, oI) :: nw', p ∈ all) (e : nw'.map (·.1) = adr) (k : K m' nw') :
    FEnd h₀ L sB I oI adr K R .next { sB with heap := h', toks := tk, gens := gens' } := ⟨h', tk, gens', m', nw', rfl, hb, F, fun p hp => N p (sub p hp), e, k⟩
def FTurn (prog : Program) (w : World) (A : Around) (h₀ : Heap) (L : Addr) (env : Env) (target : Expr) (body : List Stmt) (R : Result → Shared → Prop) (s₂ : Shared) (n : Nat) (P : Nat → Value → Prop) (lI : Addr → Obj → Prop) (Inv : Nat → (Str → Option Value) → List (Addr × Obj) → Prop) : Prop :=
  ∀ I i v m₁ nw oI h tk gens (E' : Value → Shared → Prop), i < n → P i v → Inv i m₁ nw → lI I oI → (AllBare s₂.gens → AllBare gens) → Fr h₀ L h m₁ → News h₀ L h ((I, oI) :: nw) → (∀ p ∈ nw, p.1 ≠ I) →
    wpAny (model prog w) A (letOwnedTupleGo target (.ref I) v) (fun _ s₃ => wpAny (model prog w) A (assign target env v) (fun _ s₄ => wpAny (model prog w) A (execs body env) (FEnd h₀ L s₂ I oI (nw.map (·.1)) (Inv (i + 1)) R) E' s₄) E' s₃) E' { s₂ with heap := h, toks := tk, gens := gens }
theorem for_core {target : Expr} {body : List Stmt} {R : Result → Shared → Prop} {s₂ : Shared} {I : Addr} {fp : List Addr} {n : Nat} {P : Nat → Value → Prop} {St : Nat → Heap → Prop} {lI : Addr → Obj → Prop} {nw₀ : List (Addr × Obj)} (Inv : Nat → (Str → Option Value) → List (Addr × Obj) → Prop)
    (W : Walks prog w A I fp [I] n P St) (hIo : ∀ i h, St i h → ∃ o, h.get? I = some o ∧ lI I o)
    (hSt : ∀ i h h' o mm nn, St i h → h.get? I = some o → h'.get? I = some o → (∀ b o, h₀.get? b = some o → h'.get? b = some o) → News h₀ L h' nn → Inv i mm nn → St i h')
    (hst : St 0 s₂.heap) (F : Fr h₀ L s₂.heap m) (N : News h₀ L s₂.heap nw₀) (hIL : L ≠ I) (hI₀ : h₀.get? I = none) (off : ∀ p ∈ nw₀, p.1 ≠ I) (hJ : Inv 0 m nw₀)
    (turn : FTurn prog w A h₀ L env target body R s₂ n P lI Inv)
    (done : ∀ m' nw h tk gens, (AllBare s₂.gens → AllBare gens) → Fr h₀ L h m' → News h₀ L h nw → nw.map (·.1) = nw₀.map (·.1) → Inv n m' nw → R (.ok .next) { s₂ with heap := h, toks := tk, gens := gens }) :
    codeAny (model prog w) A (.forLoop target (.ref I) body [] env) R s₂ := by
  have offA : ∀ nw : List (Addr × Obj), nw.map (·.1) = nw₀.map (·.1) → ∀ p ∈ nw, p.1 ≠ I := fun nw e p hp => by
    have : p.1 ∈ nw₀.map (·.1) := e ▸ List.mem_map.mpr ⟨p, hp, rfl⟩
    obtain ⟨q, hq, e'⟩ := List.mem_map.mp this
    exact e' ▸ off q hq
  refine codeAny_forLoop_any (fun k s' => ∃ h' tk gens i m' nw, s' = { s₂ with heap := h', toks := tk, gens := gens } ∧ i ≤ n ∧ k = n + 1 - i ∧ (AllBare s₂.gens → AllBare gens) ∧ St i h' ∧ Fr h₀ L h' m' ∧ News h₀ L h' nw ∧ nw.map (·.1) = nw₀.map (·.1) ∧ Inv i m' nw) ?_ (n + 1)
    ⟨s₂.heap, s₂.toks, s₂.gens, 0, m, nw₀, rfl, Nat.zero_le _, rfl, id, hst, F, N, rfl, hJ⟩
  rintro k s' ⟨h', tk, gens, i, m', nw, rfl, hi, rfl, hb, hst', F', N', hadr, hJ'⟩
  by_cases hlt : i < n
  · refine W.item i _ _ _ hlt hst' fun v h₂ tk₂ hPv hst₂ hk₂ => ?_
    have F₂ : Fr h₀ L h₂ m' := fr_but F' hk₂ hIL hI₀
    have N₂ : News h₀ L h₂ nw := news_but N' hk₂ (offA nw hadr)
    obtain ⟨oI, heI, hlI⟩ := hIo _ _ hst₂
    have N₃ : News h₀ L h₂ ((I, oI) :: nw) := fun p hp => by
      rcases List.mem_cons.mp hp with rfl | hp
      · exact ⟨heI, Ne.symm hIL, hI₀⟩
      · exact N₂ p hp
    refine wpAny_mono (turn I i v m' nw oI h₂ tk₂ gens _ hlt hPv hJ' hlI hb F₂ N₃ (offA nw hadr)) (fun _ s₃ h₃ => wpAny_mono h₃ (fun _ s₄ h₄ => wpAny_mono h₄ (fun f s₅ h₅ => ?_) fun _ _ e => e) fun _ _ e => e) fun _ _ e => e
    have fin : (∃ h' tk gens' m' nw', s₅ = { s₂ with heap := h', toks := tk, gens := gens' } ∧ (AllBare s₂.gens → AllBare gens') ∧ Fr h₀ L h' m' ∧ News h₀ L h' ((I, oI) :: nw') ∧ nw'.map (·.1) = nw.map (·.1) ∧ Inv (i + 1) m' nw') →
        ∃ m_1, m_1 < n + 1 - i ∧ ∃ h' tk gens i m' nw, s₅ = { s₂ with heap := h', toks := tk, gens := gens } ∧ i ≤ n ∧ m_1 = n + 1 - i ∧ (AllBare s₂.gens → AllBare gens) ∧ St i h' ∧ Fr h₀ L h' m' ∧ News h₀ L h' nw ∧ nw.map (·.1) = nw₀.map (·.1) ∧ Inv i m' nw := by
      rintro ⟨h₄, tk₄, gens₄, m₄, nw₄, rfl, hb₄, F₄, N₄, e₄, hJ₄⟩
      have N₄' : News h₀ L h₄ nw₄ := fun p hp => N₄ p (List.mem_cons_of_mem _ hp)
      exact ⟨n + 1 - (i + 1), by omega, h₄, tk₄, gens₄, i + 1, m₄, nw₄, rfl, hlt, rfl, hb₄, hSt _ _ _ _ _ _ hst₂ heI (N₄ (I, oI) List.mem_cons_self).1 F₄.keep N₄' hJ₄, F₄, N₄', e₄.trans hadr, hJ₄⟩
    cases f with
    | ret v => exact h₅
    | brk => exact h₅
    | next => exact fin h₅
    | cont => exact fin h₅
  · obtain rfl : i = n := Nat.le_antisymm hi (Nat.not_lt.mp hlt)
    refine W.done _ _ _ hst' fun h₂ tk₂ hk₂ => wpAny_execs_nil ?_
    exact done m' nw h₂ tk₂ gens hb (fr_but F' hk₂ hIL hI₀) (news_but N' hk₂ (offA nw hadr)) hadr hJ'
theorem for_range_J {E : Value → Shared → Prop} {target : Expr} {body : List Stmt} {R : Result → Shared → Prop} {s₁ : Shared} {r : Addr} {a b : Int} {t u v : Tok} {n : Nat} {nw₀ : List (Addr × Obj)} (Inv : Nat → (Str → Option Value) → List (Addr × Obj) → Prop)
    (hh : A.handled = none) (hr : IsRange s₁.heap r a b 1 t u v) (hsm : Builtin.Range.small a b 1 = true) (hn : Builtin.Range.rangeSize a b 1 = ((n : Nat) : Int))
    (F : Fr h₀ L s₁.heap m) (N : News h₀ L s₁.heap nw₀) (hJ : Inv 0 m nw₀)
    (turn : FTurn prog w A h₀ L env target body R s₁ n (fun i v => ∃ t, v = .int (a + (i : Int)) t) (fun _ _ => True) Inv)
    (done : ∀ m' nw h tk gens, (AllBare s₁.gens → AllBare gens) → Fr h₀ L h m' → News h₀ L h nw → nw.map (·.1) = nw₀.map (·.1) → Inv n m' nw → R (.ok .next) { s₁ with heap := h, toks := tk, gens := gens }) :
    wpAny (model prog w) A (pyIter (.ref r)) (fun it s₂ => codeAny (model prog w) A (.forLoop target it body [] env) R s₂) E s₁ := by
  refine wpAny_pyIter_range hr hsm ?_
  refine for_core (h₀ := h₀) (L := L) (m := m) (nw₀ := nw₀) (lI := fun _ _ => True) Inv (range_walks hh a n) (fun i h st => ⟨_, st, trivial⟩) (fun i h h' o _ _ st e e' k _ _ => range_st (h₀ := h₀) (L := L) i h h' o [] st e e' k News.nil trivial) (by show IsRangeIter _ _ _ _ _; rw [hn]; simpa using Heap.get?_push_size _ rfl)
    (F.keeps fun _ _ e => Heap.get?_push_of_some _ e) (N.grown fun _ _ e => Heap.get?_push_of_some _ e) (Nat.ne_of_lt F.ns.lt) (next_is_new F) (fun p hp => Nat.ne_of_lt (Heap.lt_size (N p hp).1)) hJ turn done
theorem for_list_J {E : Value → Shared → Prop} {target : Expr} {body : List Stmt} {R : Result → Shared → Prop} {s₁ : Shared} {ax : Addr} {its : List Value} {k : Nat} {nw₀ : List (Addr × Obj)} (Inv : Nat → (Str → Option Value) → List (Addr × Obj) → Prop)
    (hh : A.handled = none) (hsrc : ∀ i mm nn, Inv i mm nn → (ax, listOf its.toArray k) ∈ nn)
    (F : Fr h₀ L s₁.heap m) (N : News h₀ L s₁.heap nw₀) (hJ : Inv 0 m nw₀)
    (turn : FTurn prog w A h₀ L env target body R s₁ its.length (fun i v => its[i]? = some v) (fun _ o => ∃ i, o.cls = .type "list_iterator" ∧ o.data = .fields #[.ref ax, .int (i : Nat) 0]) Inv)
    (done : ∀ m' nw h tk gens, (AllBare s₁.gens → AllBare gens) → Fr h₀ L h m' → News h₀ L h nw → nw.map (·.1) = nw₀.map (·.1) → Inv its.length m' nw → R (.ok .next) { s₁ with heap := h, toks := tk, gens := gens }) :
    wpAny (model prog w) A (pyIter (.ref ax)) (fun it s₂ => codeAny (model prog w) A (.forLoop target it body [] env) R s₂) E s₁ := by
  have hm := hsrc _ _ _ hJ
  have hl : s₁.heap.IsList ax its.toArray := ⟨_, (N _ hm).1, rfl, _, rfl⟩
  have hlt : ax < s₁.heap.objs.size := Heap.lt_size (N _ hm).1
  refine wpAny_pyIter_list hl ?_
  have W := Walks.list (prog := prog) (w := w) hh s₁.heap.objs.size ax (Nat.ne_of_lt hlt) its.toArray
  have up : ∀ b o, s₁.heap.get? b = some o → (s₁.heap.push { cls := .type "list_iterator", data := .fields #[.ref ax, .int 0 0] }).get? b = some o := fun b o e => Heap.get?_push_of_some _ e
  have hW : its.toArray.size = its.length := by simp
  rw [hW] at W
  refine for_core (h₀ := h₀) (L := L) (m := m) (nw₀ := nw₀) (lI := fun _ o => ∃ i, o.cls = .type "list_iterator" ∧ o.data = .fields #[.ref ax, .int (i : Nat) 0]) Inv W (fun i h st => by obtain ⟨o, e, c, d⟩ := st.1; exact ⟨o, e, i, c, d⟩) (fun i h h' o mm nn st e e' kk Nn hi => list_st (h₀ := h₀) (L := L) i h h' o nn st e e' kk Nn (.inr ⟨_, hsrc _ _ _ hi, rfl, _, rfl⟩)) ⟨⟨_, Heap.get?_push_size _ rfl, rfl, rfl⟩, hl.push _⟩
    (F.keeps up) (N.grown up) (Nat.ne_of_lt F.ns.lt) (next_is_new F) (fun p hp => Nat.ne_of_lt (Heap.lt_size (N p hp).1)) hJ
    (fun I i v m₁ nw oI h tk gens E' hi hP => turn I i v m₁ nw oI h tk gens E' hi (by simpa using hP)) done
/-- a name as the target -/
theorem go_name {x : Str} {px : Pos} {it v : Value} {Q : Unit → Shared → Prop} {E : Value → Shared → Prop} {s : Shared} (h : Q () s) : wpAny (model prog w) A (letOwnedTupleGo (.Name x px) it v) Q E s := wpAny_of_eq (rfl : letOwnedTupleGo (.Name x px) it v = pure ()) h
theorem go_pair {elts : List Expr} {x1} {pos : Pos} {I ax T : Addr} {oI : Obj} {nw : List (Addr × Obj)} {Q : Unit → Shared → Prop} {E : Value → Shared → Prop} {s : Shared} (N : News h₀ L s.heap ((I, oI) :: nw)) (hI : ∃ i, oI.cls = .type "list_iterator" ∧ oI.data = .fields #[.ref ax, .int (i : Nat) 0]) (h : Q () s) :
    wpAny (model prog w) A (letOwnedTupleGo (.Tuple elts x1 pos) (.ref I) (.ref T)) Q E s := by
  obtain ⟨i, c, d⟩ := hI
  exact wpAny_letOwnedTupleGo_listiter ⟨oI, (N (I, oI) List.mem_cons_self).1, c, d⟩ h
end
end
section
open PySem PySem.W PyProof.Rows PySem.Calls PySem.Spec PyProof.Rows.LCg
set_option maxRecDepth 100000
section
variable {prog : Program} {w : World} {A : Around} {E : Value → Shared → Prop} {h₀ : Heap} {L : Addr} {m : Str → Option Value} {env : Env}
def PEnd (h₀ : Heap) (L : Addr) (m : Str → Option Value) (sB : Shared) (all : List (Addr × Obj)) (K : Prop) (s₄ : Shared) : Prop :=
  ∃ h' tk gens', s₄ = { sB with heap := h', toks := tk, gens := gens' } ∧ (AllBare sB.gens → AllBare gens') ∧ Fr h₀ L h' m ∧ News h₀ L h' all ∧ K
theorem PEnd.intro {sB : Shared} {all nw : List (Addr × Obj)} {K : Prop} {h' : Heap} {tk : Nat} {gens' : Array GenState} (hb : AllBare sB.gens → AllBare gens') (F : Fr h₀ L h' m) (N : News h₀ L h' nw) (sub : ∀ p ∈ all, p ∈ nw) (k : K) :
    PEnd h₀ L m sB all K { sB with heap := h', toks := tk, gens := gens' } := ⟨h', tk, gens', rfl, hb, F, fun p hp => N p (sub p hp), k⟩
theorem but2 {h h' : Heap} {e it : Addr} (hk : ∀ b o, b ∉ [e, it] → h.get? b = some o → h'.get? b = some o) : ∀ b o, b ≠ e → b ≠ it → h.get? b = some o → h'.get? b = some o := fun b o n1 n2 q => hk b o (by simp [n1, n2]) q
theorem iter_enum_J {elt iter : Expr} {x x₂ : Str} {px px₂ tp : Pos} {tk₀} {scope : Scope} {cl : List (Str × Addr)} {pos : Pos} {use : Option (Value → Sem Unit)} {Q : Value → Shared → Prop} {s₁ : Shared} {e it l : Addr} {items : List Value} {kl : Nat} {news : List (Addr × Obj)}
    (J : Nat → List Value → Prop) (hh : A.handled = none) (he : IsEnum s₁.heap e it 0 .none) (hit : s₁.heap.IsListIter it l 0) (hm : (l, listOf items.toArray kl) ∈ news) (hsz : items.length ≤ sizeLine) (hei : e ≠ it)
    (hcell : ∀ y ∈ scope.names, y.2 ≠ .cell) (hkind : scope.kind = .function) (hx : scope.names.lookup x = some .local) (hx₂ : scope.names.lookup x₂ = some .local) (hxx : x ≠ x₂)
    (F : Fr h₀ L s₁.heap m) (N : News h₀ L s₁.heap news) (hne : ∀ p ∈ news, p.1 ≠ e ∧ p.1 ≠ it) (he₀ : h₀.get? e = none) (hi₀ : h₀.get? it = none) (heL : L ≠ e) (hiL : L ≠ it) (hJ : J 0 []) (hlen : ∀ i ys, J i ys → ys.length ≤ i)
    (turn : ∀ i v₁ v₂ ys oe oit C oC D m₂ h tk gens (E' : Value → Shared → Prop), i < items.length → items[i]? = some v₂ → (∃ t, v₁ = .int (i : Nat) t) → J i ys → (AllBare s₁.gens → AllBare gens) → NsObj oC m₂ → m₂ x = some v₁ → m₂ x₂ = some v₂ → Fr h₀ L h m →
      News h₀ L h ((e, oe) :: (it, oit) :: (C, oC) :: (D, lst ys) :: news) →
      wpAny (model prog w) A (eval elt (compEnvC scope cl C env)) (fun y => PEnd h₀ L m s₁ ((e, oe) :: (it, oit) :: (C, oC) :: (D, lst ys) :: news) (J (i + 1) (ys ++ [y]))) E' { s₁ with heap := h, toks := tk, gens := gens })
    (done : CDone prog w A E h₀ L m use Q s₁ items.length news (fun i ys nw => nw = [] ∧ J i ys)) :
    wpAny (model prog w) A (pyIter (.ref e)) (fun it s₂ => wpAny (model prog w) A (newList []) (fun acc s₃ => wpAny (model prog w) A (newFunctionEnv scope env.globals cl [] env.qual none .none (some env)) (fun cenv s₄ =>
      codeAny (model prog w) A (.compStart (.ListComp elt [⟨.Tuple [.Name x px, .Name x₂ px₂] tk₀ tp, iter, [], 0⟩] scope pos) 0 it acc { cenv with scope := relabel scope env }) (compPost (model prog w) A E use Q acc cenv.locals) s₄) E s₃) E s₂) E s₁ := by
  have hl : s₁.heap.IsList l items.toArray := ⟨_, (N _ hm).1, rfl, _, rfl⟩
  have hle : l ≠ e := (hne _ hm).1
  have hli : l ≠ it := (hne _ hm).2
  have W := (WalksT.enumerate (prog := prog) (w := w) hh e it l hei hle hli items.toArray).toU
  have hsize : items.toArray.size = items.length := by simp
  rw [hsize] at W
  refine W.self 0 _ _ _ ⟨⟨_, he⟩, hit, hl⟩ ?_
  have lt₁ : ∀ b o, s₁.heap.get? b = some o → b < s₁.heap.objs.size := fun b o q => Heap.lt_size q
  have hee : e < s₁.heap.objs.size := lt₁ _ _ he
  have hiI : it < s₁.heap.objs.size := by obtain ⟨_, q, _⟩ := hit; exact lt₁ _ _ q
  have hlt : l < s₁.heap.objs.size := lt₁ _ _ (N _ hm).1
  refine wpAny_newObj_type (wpAny_newFunctionEnv hcell (by intro y hy; simp at hy) (fun h₁ hns₁ hsb₁ => ?_) hkind)
  dsimp only at hns₁ hsb₁ ⊢
  generalize hH2 : s₁.heap.push { cls := .type "list", dict := none, data := .seq ([] : List Value).toArray } = H2 at hns₁ hsb₁ ⊢
  have hC : H2.objs.size = s₁.heap.objs.size + 1 := by rw [← hH2, Heap.size_push]
  generalize hCe : H2.objs.size = C at *
  generalize hDe : s₁.heap.objs.size = D at *
  have hDC : D ≠ C := by rw [hC]; exact Nat.ne_of_lt (Nat.lt_succ_self _)
  have below : ∀ b, b < D → b ≠ C ∧ b ≠ D := fun b hb => ⟨by rw [hC]; exact Nat.ne_of_lt (Nat.lt_succ_of_lt hb), Nat.ne_of_lt hb⟩
  have old : ∀ b o, s₁.heap.get? b = some o → h₁.get? b = some o := fun b o q => hsb₁.extBut b o (below b (lt₁ b o q)).1 (Heap.get?_push_of_some _ (hH2 ▸ Heap.get?_push_of_some _ q))
  have hacc : h₁.get? D = some (lst []) := hsb₁.extBut _ _ hDC (Heap.get?_push_of_some _ (by rw [← hH2, ← hDe]; exact Heap.get?_push_size _ rfl))
  have hst₁ := W.frame _ _ h₁ ⟨⟨_, he⟩, hit, hl⟩ fun b _ o q => old b o q
  have fresh₀ : ∀ a, D ≤ a → h₀.get? a = none := fun a ha => by
    cases q : h₀.get? a with
    | none => rfl
    | some o' => exact absurd (lt₁ a o' (F.keep a o' q)) (Nat.not_lt.mpr ha)
  have hD₀ : h₀.get? D = none := fresh₀ _ (Nat.le_refl _)
  have hC₀ : h₀.get? C = none := fresh₀ _ (by rw [hC]; exact Nat.le_succ _)
  have hLlt : L < D := by obtain ⟨_, _, _, q, _⟩ := F.ns; exact lt₁ _ _ q
  have hDL : D ≠ L := Ne.symm (below L hLlt).2
  have hCL : C ≠ L := Ne.symm (below L hLlt).1
  have offN : ∀ p ∈ news, p.1 ≠ C ∧ p.1 ≠ D := fun p hp => below _ (lt₁ _ _ (N p hp).1)
  have fpC : C ∉ [e, it, l] := fun hm' => by
    have : C < D := by
      rcases List.mem_cons.mp hm' with rfl | hm'
      · exact hee
      · rcases List.mem_cons.mp hm' with rfl | hm'
        · exact hiI
        · rw [List.mem_singleton.mp hm']; exact hlt
    rw [hC] at this; omega
  have fpD : D ∉ [e, it, l] := fun hm' => by
    have : D < D := by
      rcases List.mem_cons.mp hm' with q | hm'
      · exact q ▸ hee
      · rcases List.mem_cons.mp hm' with q | hm'
        · exact q ▸ hiI
        · exact (List.mem_singleton.mp hm') ▸ hlt
    exact Nat.lt_irrefl _ this
  have frB : ∀ {h h' : Heap}, Fr h₀ L h m → (∀ b o, b ∉ [e, it] → h.get? b = some o → h'.get? b = some o) → Fr h₀ L h' m := fun {h h'} F' hk =>
    ⟨F'.ns.at' fun o q => but2 hk _ o heL hiL q, fun b o q => but2 hk b o (fun z => by rw [z, he₀] at q; cases q) (fun z => by rw [z, hi₀] at q; cases q) (F'.keep b o q), F'.above⟩
  have nwB : ∀ {h h' : Heap} {nn : List (Addr × Obj)}, News h₀ L h nn → (∀ p ∈ nn, p.1 ≠ e ∧ p.1 ≠ it) → (∀ b o, b ∉ [e, it] → h.get? b = some o → h'.get? b = some o) → News h₀ L h' nn := fun {h h' nn} N' off hk p hp =>
    ⟨but2 hk _ _ (off p hp).1 (off p hp).2 (N' p hp).1, (N' p hp).2⟩
  have offD : ∀ ys, ∀ p ∈ (D, lst ys) :: news, p.1 ≠ e ∧ p.1 ≠ it := fun ys p hp => by
    rcases List.mem_cons.mp hp with rfl | hp
    · exact ⟨fun q => fpD (List.mem_cons.mpr (.inl q)), fun q => fpD (List.mem_cons_of_mem _ (List.mem_cons.mpr (.inl q)))⟩
    · exact hne p hp
  have loop : ∀ s₃ : Shared, s₃ = { s₁ with heap := h₁, toks := s₁.toks + ([] : List (Str × Value)).length } →
      codeAny (model prog w) A (.compLoop (.ListComp elt [⟨.Tuple [.Name x px, .Name x₂ px₂] tk₀ tp, iter, [], 0⟩] scope pos) 0 (.ref e) (.ref D) (compEnvC scope cl C env)) (compPost (model prog w) A E use Q (.ref D) C) s₃ := by
    rintro s₃ rfl
    refine LCp.codeAny_compLoop_pair
      (fun k s' => ∃ h' tk gens i ys m', s' = { s₁ with heap := h', toks := tk, gens := gens } ∧ i ≤ items.length ∧ k = items.length + 1 - i ∧ (AllBare s₁.gens → AllBare gens) ∧
        ((∃ old, IsEnum h' e it i old) ∧ h'.IsListIter it l i ∧ h'.IsList l items.toArray) ∧ Fr h₀ L h' m ∧ h'.Ns C m' ∧ News h₀ L h' ((D, lst ys) :: news) ∧ J i ys) ?_ (items.length + 1)
      ⟨h₁, _, s₁.gens, 0, [], _, rfl, Nat.zero_le _, rfl, id, hst₁, F.keeps old, hns₁, fun p hp => ?_, hJ⟩
    · rintro k s' ⟨h', tk, gens, i, ys, m', rfl, hi, rfl, hb, hst', F', hn', N', hJ'⟩
      by_cases hlt' : i < items.length
      · refine W.item i _ _ _ hlt' hst' fun T vals h₂ tk₂ hP hT hMid hk₂ => ?_
        obtain ⟨t, v₂, hv₂, rfl⟩ := hP
        have hv₂ : items[i]? = some v₂ := by simpa using hv₂
        dsimp only
        have hn₂ : h₂.Ns C m' := hn'.at' fun o q => but2 hk₂ _ o (fun z => fpC (by simp [z])) (fun z => fpC (by simp [z])) q
        have F₂ := frB F' hk₂
        have N₂ := nwB N' (offD ys) hk₂
        have hT' := hT
        have hTw := W.apart i T h₂ hMid
        refine W.go _ _ _ i T _ _ _ hMid fun h₃ hst₃ hk₃ => ?_
        have hT₃ : IsTup h₃ T #[.int (i : Nat) t, v₂] := by obtain ⟨oT, q, r⟩ := hT'; exact ⟨oT, hk₃ _ _ hTw q, r⟩
        have F₃ := frB F₂ hk₃
        have N₃ := nwB N₂ (offD ys) hk₃
        have hn₃ : h₃.Ns C m' := hn₂.at' fun o q => but2 hk₃ _ o (fun z => fpC (by simp [z])) (fun z => fpC (by simp [z])) q
        refine assign_Tuple_tuple hh hT₃ rfl rfl fun h₅ hx5 => ?_
        have he5 : ∀ b o, h₃.get? b = some o → h₅.get? b = some o := fun b o q => hx5 b o (Nat.ne_of_lt (Heap.lt_size q)) q
        refine assignInOrder_cons (wpAny_assign_Name (wpAny_storeName_local (lookup_relabel_local hx) (hn₃.at' fun o q => he5 _ o q) (fun h₆ hn₆ hs₆ => ?_) (by simp [compEnvC, relabel, hkind])))
        refine assignInOrder_cons (wpAny_assign_Name (wpAny_storeName_local (lookup_relabel_local hx₂) hn₆ (fun h₇ hn₇ hs₇ => ?_) (by simp [compEnvC, relabel, hkind])))
        refine assignInOrder_nil ?_
        have old7 : ∀ b o, b ≠ C → h₃.get? b = some o → h₇.get? b = some o := fun b o hb q => hs₇.extBut b o hb (hs₆.extBut b o hb (he5 b o q))
        have hst₇ := W.frame _ _ h₇ hst₃ fun b hb o q => old7 b o (fun z => fpC (z ▸ hb)) q
        have F₇ : Fr h₀ L h₇ m := ((F₃.keeps he5).change hs₆ hCL hC₀).change hs₇ hCL hC₀
        have N₇ : News h₀ L h₇ ((D, lst ys) :: news) := fun p hp => by
          have z := N₃ p hp
          refine ⟨old7 _ _ ?_ z.1, z.2⟩
          rcases List.mem_cons.mp hp with rfl | hp
          · exact hDC
          · exact (offN p hp).1
        obtain ⟨oC, heC, hoC⟩ := ns_obj hn₇
        have hst7 := hst₇
        obtain ⟨⟨oldE, hE7⟩, ⟨oit, hoit, hcit, hdit⟩, hl7⟩ := hst₇
        have N₈ : News h₀ L h₇ ((e, _) :: (it, oit) :: (C, oC) :: (D, lst ys) :: news) := fun p hp => by
          rcases List.mem_cons.mp hp with rfl | hp
          · exact ⟨hE7, Ne.symm heL, he₀⟩
          · rcases List.mem_cons.mp hp with rfl | hp
            · exact ⟨hoit, Ne.symm hiL, hi₀⟩
            · rcases List.mem_cons.mp hp with rfl | hp
              · exact ⟨heC, hCL, hC₀⟩
              · exact N₇ p hp
        refine wpAny_mono (turn i _ v₂ ys _ oit C oC D _ h₇ _ gens _ hlt' hv₂ ⟨t, rfl⟩ hJ' hb hoC (by simp [hxx]) (by simp) F₇ N₈) (fun y s₄ h₄ => ?_) fun _ _ q => q
        obtain ⟨h₄, tk₄, gens₄, rfl, hb₄, F₄, N₄, hJ₄⟩ := h₄
        have zE := (N₄ (e, _) List.mem_cons_self).1
        have zI := (N₄ (it, oit) (List.mem_cons_of_mem _ List.mem_cons_self)).1
        have zC := (N₄ (C, oC) (List.mem_cons_of_mem _ (List.mem_cons_of_mem _ List.mem_cons_self))).1
        have N₄' : News h₀ L h₄ ((D, lst ys) :: news) := fun p hp => N₄ p (List.mem_cons_of_mem _ (List.mem_cons_of_mem _ (List.mem_cons_of_mem _ hp)))
        have zD := (N₄' (D, lst ys) List.mem_cons_self).1
        have hyl := hlen _ _ hJ'
        refine append_at (hsz := by show ys.toArray.size ≤ sizeLine; rw [List.size_toArray]; exact Nat.le_trans hyl (Nat.le_trans hi hsz)) zD fun h₅ hs₅ hD₅ => ?_
        have off5 : ∀ b o, b ≠ D → h₄.get? b = some o → h₅.get? b = some o := fun b o hb q => hs₅.extBut b o hb q
        have fpD' : e ≠ D ∧ it ≠ D := ⟨fun q => fpD (by simp [q]), fun q => fpD (by simp [q])⟩
        refine ⟨items.length + 1 - (i + 1), by omega, h₅, tk₄, gens₄, i + 1, ys ++ [y], _, rfl, hlt', rfl, hb₄, ⟨⟨oldE, off5 _ _ fpD'.1 zE⟩, ⟨oit, off5 _ _ fpD'.2 zI, hcit, hdit⟩, ?_⟩, F₄.change hs₅ hDL hD₀, (hoC.ns zC).sameBut hs₅ (Ne.symm hDC), fun p hp => ?_, hJ₄⟩
        · exact ⟨_, off5 _ _ (offN _ hm).2 (N₄' _ (List.mem_cons_of_mem _ hm)).1, rfl, _, rfl⟩
        · rcases List.mem_cons.mp hp with rfl | hp
          · exact ⟨hD₅.trans (congrArg some (lst_snoc ys y)), hDL, hD₀⟩
          · exact ⟨off5 _ _ (offN p hp).2 (N₄' p (List.mem_cons_of_mem _ hp)).1, (N₄' p (List.mem_cons_of_mem _ hp)).2⟩
      · obtain rfl : i = items.length := Nat.le_antisymm hi (Nat.not_lt.mp hlt')
        refine W.done _ _ _ hst' fun h₂ tk₂ hk₂ => ?_
        have N₂ := nwB N' (offD ys) hk₂
        obtain ⟨oC, heC, hoC⟩ := ns_obj (hn'.at' fun o q => but2 hk₂ _ o (fun z => fpC (by simp [z])) (fun z => fpC (by simp [z])) q)
        refine done.post ⟨s₁.heap, rfl⟩ D C oC _ ys [] h₂ tk₂ gens hb (frB F' hk₂) (fun p hp => ?_) hoC (Ne.symm hDC) (fun p hp => offN p hp) ⟨rfl, hJ'⟩
        rcases List.mem_cons.mp hp with rfl | hp
        · exact ⟨heC, hCL, hC₀⟩
        · exact N₂ p hp
    · rcases List.mem_cons.mp hp with rfl | hp
      · exact ⟨hacc, hDL, hD₀⟩
      · exact ⟨old _ _ (N p hp).1, (N p hp).2⟩
  exact codeAny_compStart_list (loop _ rfl) (W.self 0 _ _ _ hst₁ (loop _ rfl))
theorem call_enum_J {elt iter : Expr} {x x₂ : Str} {px px₂ tp : Pos} {tk₀} {scope : Scope} {cl : List (Str × Addr)} {pos : Pos} {use : Option (Value → Sem Unit)} {Q : Value → Shared → Prop} {s : Shared} {l : Addr} {items : List Value} {kl : Nat} {news : List (Addr × Obj)}
    (J : Nat → List Value → Prop) (hh : A.handled = none) (hm : (l, listOf items.toArray kl) ∈ news) (hsz : items.length ≤ sizeLine)
    (hcell : ∀ y ∈ scope.names, y.2 ≠ .cell) (hkind : scope.kind = .function) (hx : scope.names.lookup x = some .local) (hx₂ : scope.names.lookup x₂ = some .local) (hxx : x ≠ x₂)
    (F : Fr h₀ L s.heap m) (N : News h₀ L s.heap news) (hJ : J 0 []) (hlen : ∀ i ys, J i ys → ys.length ≤ i)
    (turn : ∀ e it i v₁ v₂ ys oe oit C oC D m₂ h tk gens (E' : Value → Shared → Prop), i < items.length → items[i]? = some v₂ → (∃ t, v₁ = .int (i : Nat) t) → J i ys → (AllBare s.gens → AllBare gens) → NsObj oC m₂ → m₂ x = some v₁ → m₂ x₂ = some v₂ → Fr h₀ L h m →
      News h₀ L h ((e, oe) :: (it, oit) :: (C, oC) :: (D, lst ys) :: news) →
      wpAny (model prog w) A (eval elt (compEnvC scope cl C env)) (fun y => PEnd h₀ L m s ((e, oe) :: (it, oit) :: (C, oC) :: (D, lst ys) :: news) (J (i + 1) (ys ++ [y]))) E' { s with heap := h, toks := tk, gens := gens })
    (done : CDone prog w A E h₀ L m use Q s items.length news (fun i ys nw => nw = [] ∧ J i ys)) :
    wpAny (model prog w) A (call (.type "enumerate") [.ref l]) (fun xv s₁ => wpAny (model prog w) A (pyIter xv) (fun it s₂ => wpAny (model prog w) A (newList []) (fun acc s₃ => wpAny (model prog w) A (newFunctionEnv scope env.globals cl [] env.qual none .none (some env)) (fun cenv s₄ =>
      codeAny (model prog w) A (.compStart (.ListComp elt [⟨.Tuple [.Name x px, .Name x₂ px₂] tk₀ tp, iter, [], 0⟩] scope pos) 0 it acc { cenv with scope := relabel scope env }) (compPost (model prog w) A E use Q acc cenv.locals) s₄) E s₃) E s₂) E s₁) E s := by
  refine call_enumerate_1 (N _ hm).1 fun h2 he2 hit2 hsz2 hk2 => ?_
  have none_at : ∀ b, s.heap.objs.size ≤ b → h₀.get? b = none := fun b hb => by
    cases q : h₀.get? b with
    | none => rfl
    | some o => exact absurd (Heap.lt_size (F.keep b o q)) (Nat.not_lt.mpr hb)
  exact iter_enum_J J hh he2 hit2 hm hsz (Nat.succ_ne_self _) hcell hkind hx hx₂ hxx (F.keeps hk2) (N.grown hk2)
    (fun p hp => ⟨Nat.ne_of_lt (Nat.lt_succ_of_lt (Heap.lt_size (N p hp).1)), Nat.ne_of_lt (Heap.lt_size (N p hp).1)⟩) (none_at _ (Nat.le_succ _)) (none_at _ (Nat.le_refl _))
    (Nat.ne_of_lt (Nat.lt_succ_of_lt F.ns.lt)) (Nat.ne_of_lt F.ns.lt) hJ hlen (turn _ _) done
end
end
section
open PySem PySem.W PyProof.Rows PySem.Calls PySem.StrLaws PySem.Builtin PySem.Builtin.Str
set_option maxRecDepth 100000
def NoDot (a : Str) : Prop := ∀ c ∈ a.cps.toList, c ≠ 46
def Hit (s sub : Str) (hi i : Nat) : Prop := i + sub.length ≤ hi ∧ subAt s sub i = true
theorem occ_skip (s sub : Str) (hi limit : Nat) : ∀ (l : List Nat) (st : Array Nat × Nat), (∀ i ∈ l, ¬ Hit s sub hi i) → (forIn l st (occBody s sub hi limit)).run = st
  | [], _, _ => rfl
  | a :: l, st, h => by
    rw [List.forIn_cons]
    unfold occBody
    rw [if_neg (fun z => h a (List.mem_cons_self ..) ⟨z.1.2, z.2⟩)]
    exact occ_skip s sub hi limit l st fun i hi => h i (List.mem_cons_of_mem _ hi)
theorem occ_append (s sub : Str) (hi limit : Nat) : ∀ (l r : List Nat) (st : Array Nat × Nat), (forIn (l ++ r) st (occBody s sub hi limit)).run = (forIn r (forIn l st (occBody s sub hi limit)).run (occBody s sub hi limit)).run
  | [], _, _ => rfl
  | a :: l, r, st => by
    rw [List.cons_append, List.forIn_cons, List.forIn_cons]
    unfold occBody
    split <;> exact occ_append s sub hi limit l r _
theorem occ_one (s sub : Str) (lo hi limit p : Nat) (hl : 1 ≤ limit) (hp : lo ≤ p) (hp2 : p ≤ hi) (hit : Hit s sub hi p) (hno : ∀ i, lo ≤ i → i ≤ hi → i ≠ p → ¬ Hit s sub hi i) :
    occurrences s sub lo hi limit = [p] := by
  rw [occ_eq]
  have e : List.range' lo (hi + 1 - lo) = List.range' lo (p - lo) ++ p :: List.range' (p + 1) (hi - p) := by
    have : hi + 1 - lo = (p - lo) + (1 + (hi - p)) := by omega
    rw [this, ← List.range'_append_1, ← List.range'_append_1]
    congr 1
    rw [List.range'_one]
    have e1 : lo + (p - lo) = p := by omega
    rw [e1]; rfl
  rw [e, occ_append, occ_skip s sub hi limit (List.range' lo (p - lo)) (#[], lo) (fun i hi' => by
    have := List.mem_range'_1.mp hi'
    exact hno i (by omega) (by omega) (by omega))]
  rw [List.forIn_cons]
  have st : (occBody s sub hi limit p (#[], lo)) = pure (ForInStep.yield (#[p], p + sub.length)) := by
    unfold occBody
    rw [if_pos ⟨⟨⟨by simp; omega, hp⟩, hit.1⟩, hit.2⟩]
    rfl
  rw [st]
  show (forIn (List.range' (p + 1) (hi - p)) (#[p], p + sub.length) (occBody s sub hi limit)).run.fst.toList = _
  rw [occ_skip s sub hi limit _ _ (fun i hi' => by
    have := List.mem_range'_1.mp hi'
    exact hno i (by omega) (by omega) (by omega))]
/-- the first place of several -/
theorem occ_empty (s : Str) (lo hi : Nat) (h : lo ≤ hi) : occurrences s (Str.ofString "") lo hi 1 = [lo] := by
  rw [occ_eq]
  have e : List.range' lo (hi + 1 - lo) = lo :: List.range' (lo + 1) (hi - lo) := by
    have : hi + 1 - lo = (hi - lo) + 1 := by omega
    rw [this, List.range'_succ]
  have e0 : (Str.ofString "") = ⟨#[]⟩ := by decide +kernel
  rw [e, List.forIn_cons, e0]
  have st : (occBody s ⟨#[]⟩ hi 1 lo (#[], lo)) = pure (ForInStep.yield (#[lo], lo + 0)) := by
    unfold occBody
    rw [if_pos ⟨⟨⟨by simp, Nat.le_refl _⟩, h⟩, by rw [subAt_eq]; rfl⟩]
    rfl
  rw [st]
  show (forIn (List.range' (lo + 1) (hi - lo)) (#[lo], lo + 0) (occBody s ⟨#[]⟩ hi 1)).run.fst.toList = _
  have key : ∀ (l : List Nat) (st : Array Nat × Nat), 1 ≤ st.1.size → (forIn l st (occBody s ⟨#[]⟩ hi 1)).run = st := by
    intro l
    induction l with
    | nil => intro st _; rfl
    | cons a l ih =>
      intro st h1
      rw [List.forIn_cons]
      unfold occBody
      rw [if_neg (fun z => by have := z.1.1.1; omega)]
      exact ih st h1
  rw [key _ _ (by simp)]
theorem dots_eq : Str.ofString "..." = ⟨#[46, 46, 46]⟩ := by decide +kernel
theorem empty_eq : Str.ofString "" = ⟨#[]⟩ := by decide +kernel
theorem str_len (l : List Nat) : (⟨⟨l⟩⟩ : Str).length = l.length := rfl
theorem hit_iff (s sub : Str) (hi i : Nat) : Hit s sub hi i ↔ i + sub.length ≤ hi ∧ (s.cps.toList.drop i).take sub.length = sub.cps.toList := by
  unfold Hit
  rw [subAt_eq, beq_iff_eq]
theorem front_occ {a : Str} (h : NoDot a) (limit : Nat) (hl : 1 ≤ limit) : occurrences (Str.ofString "..." ++ a) (Str.ofString "...") 0 (Str.ofString "..." ++ a).length limit = [0] := by
  obtain ⟨⟨l⟩⟩ := a
  rw [dots_eq]
  have eL : ((⟨#[46, 46, 46]⟩ : Str) ++ (⟨⟨l⟩⟩ : Str)).cps.toList = 46 :: 46 :: 46 :: l := by rw [Str.cps_append]; simp
  have eN : ((⟨#[46, 46, 46]⟩ : Str) ++ (⟨⟨l⟩⟩ : Str)).length = l.length + 3 := by rw [Str.length_append]; show 3 + l.length = _; omega
  refine occ_one _ _ 0 _ limit 0 hl (Nat.le_refl _) (Nat.zero_le _) ?_ ?_
  · rw [hit_iff, eL, eN]
    exact ⟨by show 0 + 3 ≤ _; omega, rfl⟩
  · intro i _ _ hi0
    rw [hit_iff, eL, eN]
    rintro ⟨h1, h2⟩
    have h1 : i + 3 ≤ l.length + 3 := h1
    have h2 : ((46 :: 46 :: 46 :: l).drop i).take 3 = [46, 46, 46] := h2
    have h3 : (((46 :: 46 :: 46 :: l).drop i).take 3)[2]? = some 46 := by rw [h2]; rfl
    rw [List.getElem?_take_of_lt (by omega), List.getElem?_drop] at h3
    have e3 : i + 2 = (i - 1) + 3 := by omega
    rw [e3] at h3
    have h4 : l[i - 1]? = some 46 := h3
    exact h 46 (List.mem_of_getElem? h4) rfl
theorem back_occ {a : Str} (h : NoDot a) (limit : Nat) (hl : 1 ≤ limit) : occurrences (a ++ Str.ofString "...") (Str.ofString "...") 0 (a ++ Str.ofString "...").length limit = [a.length] := by
  obtain ⟨⟨l⟩⟩ := a
  rw [dots_eq]
  have eL : ((⟨⟨l⟩⟩ : Str) ++ (⟨#[46, 46, 46]⟩ : Str)).cps.toList = l ++ [46, 46, 46] := by rw [Str.cps_append]; simp
  have eN : ((⟨⟨l⟩⟩ : Str) ++ (⟨#[46, 46, 46]⟩ : Str)).length = l.length + 3 := by rw [Str.length_append]; rfl
  refine occ_one _ _ 0 (((⟨⟨l⟩⟩ : Str) ++ (⟨#[46, 46, 46]⟩ : Str)).length) limit l.length hl (Nat.zero_le _) (by rw [eN]; omega) ?_ ?_
  · rw [hit_iff, eL, eN]
    exact ⟨by show l.length + 3 ≤ _; omega, by simp; rfl⟩
  · intro i _ _ hi0
    rw [hit_iff, eL, eN]
    rintro ⟨h1, h2⟩
    have h1 : i + 3 ≤ l.length + 3 := h1
    have h2 : ((l ++ [46, 46, 46]).drop i).take 3 = [46, 46, 46] := h2
    have h3 : (((l ++ [46, 46, 46]).drop i).take 3)[0]? = some 46 := by rw [h2]; rfl
    rw [List.getElem?_take_of_lt (by omega), List.getElem?_drop, Nat.add_zero, List.getElem?_append_left (by omega)] at h3
    exact h 46 (List.mem_of_getElem? h3) rfl
theorem front_found {a : Str} (h : NoDot a) : (occurrences (Str.ofString "..." ++ a) (Str.ofString "...") 0 (Str.ofString "..." ++ a).length 1).isEmpty = false := by
  rw [front_occ h 1 (Nat.le_refl _)]; rfl
theorem back_found {a : Str} (h : NoDot a) : (occurrences (a ++ Str.ofString "...") (Str.ofString "...") 0 (a ++ Str.ofString "...").length 1).isEmpty = false := by
  rw [back_occ h 1 (Nat.le_refl _)]; rfl
theorem kind_dots (x : Str) : ¬ Builtin.Str.strKind x < Builtin.Str.strKind (Str.ofString "...") := by
  have : Builtin.Str.strKind (Str.ofString "...") = 1 := by decide +kernel
  rw [this]
  unfold Builtin.Str.strKind
  split <;> (try split) <;> omega
theorem front_split {a : Str} (h : NoDot a) : Txt.split (Str.ofString "..." ++ a) (Str.ofString "...") = [Str.ofString "", a] := by
  unfold Txt.split
  rw [if_neg, if_neg, front_occ h _ (by omega)]
  · rw [partsBetween_eq]
    obtain ⟨⟨l⟩⟩ := a
    rw [dots_eq, empty_eq]
    have eN : ((⟨#[46, 46, 46]⟩ : Str) ++ (⟨⟨l⟩⟩ : Str)).length = l.length + 3 := by rw [Str.length_append]; show 3 + l.length = _; omega
    show [strSub _ 0 0, strSub _ (0 + 3) _] = _
    rw [eN]
    unfold strSub
    rw [Str.cps_append]
    have e1 : ((⟨#[46, 46, 46]⟩ : Str).cps ++ (⟨⟨l⟩⟩ : Str).cps).extract 0 0 = #[] := by apply Array.ext'; simp
    have e2 : ((⟨#[46, 46, 46]⟩ : Str).cps ++ (⟨⟨l⟩⟩ : Str).cps).extract (0 + 3) (l.length + 3) = ⟨l⟩ := by apply Array.ext'; simp
    rw [e1, e2]
  · rw [front_occ h _ (by omega)]; simp
  · have := kind_dots (Str.ofString "..." ++ a)
    have e : ¬ (Str.ofString "..." ++ a).length < (Str.ofString "...").length := by rw [Str.length_append]; omega
    simp only [Bool.or_eq_true, decide_eq_true_eq, not_or]
    exact ⟨e, this⟩
theorem back_split {a : Str} (h : NoDot a) : Txt.split (a ++ Str.ofString "...") (Str.ofString "...") = [a, Str.ofString ""] := by
  unfold Txt.split
  rw [if_neg, if_neg, back_occ h _ (by omega)]
  · rw [partsBetween_eq]
    obtain ⟨⟨l⟩⟩ := a
    rw [dots_eq, empty_eq]
    have eN : ((⟨⟨l⟩⟩ : Str) ++ (⟨#[46, 46, 46]⟩ : Str)).length = l.length + 3 := by rw [Str.length_append]; rfl
    show [strSub _ 0 l.length, strSub _ (l.length + 3) _] = _
    rw [eN]
    unfold strSub
    rw [Str.cps_append]
    congr 1
    · congr 1
      apply Array.ext'
      simp
    · congr 1
      congr 1
      apply Array.ext'
      simp
  · rw [back_occ h _ (by omega)]; simp
  · have := kind_dots (a ++ Str.ofString "...")
    have e : ¬ (a ++ Str.ofString "...").length < (Str.ofString "...").length := by rw [Str.length_append]; omega
    simp only [Bool.or_eq_true, decide_eq_true_eq, not_or]
    exact ⟨e, this⟩
end
section
open PySem PySem.W PyProof.Rows PySem.Calls
set_option maxRecDepth 100000
abbrev theProg : Program := PySem.Challenge.rw_pk0040_01.row.prog
/-- what a def of the text gives back, from any caller of the text: all that stood before stands behind it -/
def Ctr (n : Nat) (w : World) (s₀ : Shared) (mg mb : Str → Option Value) (f : Addr) (pre : Heap → Prop) (vs : List Value) (R : Tok → Value) : Prop :=
  ∀ (dp un : Nat) (gd : Option (List Code)) (cn : Str) (cs : Scope) (a : Addr) (ccd : Value) (cl : List (Str × Addr)) (outer : List Env) (A₀ : Around) (base h₀ : Heap) (L : Addr) (m : Str → Option Value) (s : Shared) (Q E : Value → Shared → Prop),
    Below A₀ base outer h₀ → Fr h₀ L s.heap m → (hd.heap_39 w.params).In h₀ → Top hd.view_39 (looseW hd.view_39 []) (ExcName.means s₀.heap) mg mb h₀ → cs.kind = .function →
    pre s.heap → dp + n < recursionLimit → un + 20 * n < cLine →
    (∀ (t : Tok) (h' : Heap) (tk' : Nat), (∀ b o, s.heap.get? b = some o → h'.get? b = some o) → Q (R t) { s with heap := h', toks := tk' }) →
    wpAny (model PySem.Challenge.rw_pk0040_01.row.prog w) (ktrTop dp un gd cn cs L a ccd cl outer) (call (.ref f) vs) Q E s
theorem use_ctr {n : Nat} {w : World} {s₀ : Shared} {mg mb : Str → Option Value} {f : Addr} {pre : Heap → Prop} {vs : List Value} {R : Tok → Value} (C : Ctr n w s₀ mg mb f pre vs R)
    {dp un : Nat} {gd : Option (List Code)} {cn : Str} {cs : Scope} {a : Addr} {ccd : Value} {cl : List (Str × Addr)} {outer : List Env} {A₀ : Around} {base h₀ : Heap} {L : Addr} {m : Str → Option Value} {news : List (Addr × Obj)} {s : Shared} {Q E : Value → Shared → Prop}
    (B : Below A₀ base outer h₀) (F : Fr h₀ L s.heap m) (X : (hd.heap_39 w.params).In h₀) (N : News h₀ L s.heap news) (T : Top hd.view_39 (looseW hd.view_39 []) (ExcName.means s₀.heap) mg mb h₀) (hk : cs.kind = .function)
    (hp : pre s.heap) (hd : dp + n < recursionLimit) (hu : un + 20 * n < cLine)
    (ret : ∀ t h' tk', Fr h₀ L h' m → News h₀ L h' news → Q (R t) { s with heap := h', toks := tk' }) :
    wpAny (model PySem.Challenge.rw_pk0040_01.row.prog w) (ktrTop dp un gd cn cs L a ccd cl outer) (call (.ref f) vs) Q E s :=
  C _ _ _ _ _ _ _ _ _ _ _ _ _ _ _ _ _ B F X T hk hp hd hu fun t h' tk' k => ret t h' tk' (F.grownK k) (N.grown k)

def KeptR (g : Heap) (R : Result → Shared → Prop) : Result → Shared → Prop := fun r s' => (∀ b o, g.get? b = some o → s'.heap.get? b = some o) → R r s'
section
variable {prog : Program} {w : World} {A A₀ : Around} {s : Shared} {K : Frag} {L : Addr} {h₀ base : Heap} {m mg mb : Str → Option Value} {p : Program} {loose : List Str} {mean : ExcName → Option Value}
theorem code_defE {env : Env} {outer : List Env} {R : Result → Shared → Prop} {name qual : Str} {params : Arguments} {body : List Stmt} {scope : Scope} {dV kV doc pm cdv ct oc : Value} {an od : Option Addr} {osl : Array (Option Value)} {f : Addr} {args : Args} {binds : List (Str × Value)}
    (B : Below A₀ base outer h₀) (F : Fr h₀ L s.heap m) (X₀ : K.In h₀) (T : Top p loose mean mg mb h₀) (hA : A.frames = some (env :: outer)) (hf : env.frame = some L) (hke : env.scope.kind = .function)
    (ho : K.lookup f = some ⟨oc, od, .func (fnOf name qual params body scope dV kV doc pm an cdv ct), osl⟩) (hcd : codeIn K cdv qual = true) (hroom : A.depth < recursionLimit)
    (hbind : BindsTo s (fnOf name qual params body scope dV kV doc pm an cdv ct) args binds) (hloc : ∀ y ∈ binds, scope.names.lookup y.1 = some .local)
    (h : ∀ g L' h₁, g = s.heap → Fr g L' h₁ (fun y => binds.reverse.lookup y) → News g L' h₁ [] → Below A base (env :: outer) g → K.In g → Top p loose mean mg mb g →
      wpAny (model prog w) (A.deeper (envOf qual scope L' f cdv)) (execs body (envOf qual scope L' f cdv))
        (fun fl s' => LeaveK h₀ L m g (KeptR g R) (match fl with | .ret v => v | _ => .none) s')
        (fun e s' => wpAny (model prog w) (A.deeper (envOf qual scope L' f cdv)) (leaving (envOf qual scope L' f cdv) e) (fun _ s'' => R (.error e) s'') (fun e' s'' => R (.error e') s'') s')
        { s with heap := h₁, toks := s.toks + binds.length })
    (hco : scope.isCoroutine = false) (hgen : scope.isGenerator = false) (hk : scope.kind = .function)
    (hcell : ∀ x ∈ scope.names, x.2 ≠ .cell) : codeAny (model prog w) A (.call (.ref f) args) R s := by
  have st : h₀.StaysIn s.heap := F.keep
  have B₁ := pushX B F hf hke
  refine codeAny_call_def (fd := fnX name qual params body scope [] dV kV doc pm an cdv ct) (body := body) (binds := binds) hroom ((X₀.keeps F.keep) _ _ ho) rfl (T.nolimit.keeps F.keep) (codeRec_of (X₀.keeps F.keep) hcd) rfl hbind hcell hloc (fun h₁ hns hk₁ => ?_) hco hgen hk
  refine wpAny_mono (h s.heap s.heap.objs.size h₁ rfl ⟨hns, hk₁, Nat.le_refl _⟩ News.nil ⟨hA, B₁.stays, B₁.frames⟩ (X₀.keeps st) (T.keeps st)) (fun fl s' hl => ?_) fun _ _ y => y
  obtain ⟨L', m', news', F', N', k⟩ := hl
  refine k (F.grownK F'.keep) (fun p hp => ⟨(N' p hp).1, ?_, ?_⟩) F'.keep
  · intro q
    have z := (N' p hp).2.2
    obtain ⟨oL, es, ep, hL, _⟩ := F.ns
    rw [q, hL] at z; cases z
  · cases q : h₀.get? p.1 with
    | none => rfl
    | some o => have z := (N' p hp).2.2; rw [st _ _ q] at z; cases z
end
theorem kept_retI {g : Heap} {s : Shared} {Q : Value → Shared → Prop} {x y : Int} {t : Tok} {h' : Heap} {tk' : Nat} (hg : g = s.heap)
    (hret : ∀ (t : Tok) (h' : Heap) (tk' : Nat), (∀ b o, s.heap.get? b = some o → h'.get? b = some o) → Q (.int x t) { s with heap := h', toks := tk' }) (e : y = x)
    (k : ∀ b o, g.get? b = some o → h'.get? b = some o) : Q (.int y t) { s with heap := h', toks := tk' } := by
  subst e; subst hg
  exact hret t h' tk' k
theorem kept_retB {g : Heap} {s : Shared} {Q : Value → Shared → Prop} {x y : Bool} {h' : Heap} {tk' : Nat} (hg : g = s.heap)
    (hret : ∀ (t : Tok) (h' : Heap) (tk' : Nat), (∀ b o, s.heap.get? b = some o → h'.get? b = some o) → Q (.bool x) { s with heap := h', toks := tk' }) (e : y = x)
    (k : ∀ b o, g.get? b = some o → h'.get? b = some o) : Q (.bool y) { s with heap := h', toks := tk' } := by
  subst e; subst hg
  exact hret 0 h' tk' k
theorem kept_retN {g : Heap} {s : Shared} {Q : Value → Shared → Prop} {h' : Heap} {tk' : Nat} (hg : g = s.heap)
    (hret : ∀ (t : Tok) (h' : Heap) (tk' : Nat), (∀ b o, s.heap.get? b = some o → h'.get? b = some o) → Q .none { s with heap := h', toks := tk' })
    (k : ∀ b o, g.get? b = some o → h'.get? b = some o) : Q .none { s with heap := h', toks := tk' } := by
  subst hg
  exact hret 0 h' tk' k
def cmpZ (a b : Str) : Int := b2i (decide (b.cps.toList < a.cps.toList)) - b2i (decide (a.cps.toList < b.cps.toList))
set_option maxHeartbeats 4000000 in
theorem c_strcoll (w : World) (s₀ : Shared) (mg mb : Str → Option Value) (a b : Str) (ta tb : Tok) :
    Ctr 2 w s₀ mg mb 21 (fun _ => True) [.str a ta, .str b tb] (fun t => .int (cmpZ a b) t) := by
  unfold Ctr; k_fill
  intros; rename_i hret
  refine wpAny_call ?_
  k_dflt (refine' code_defE ?k1 ?k2 ?k3 ?k5 ?kA ?kF ?kK ?k6 ?k7 ?k8 ?k9 ?kB ?_ ?c2 ?c3 ?c4 ?c5; (case kA => exact rfl); (case kF => exact rfl); (case kK => assumption); (case k1 => k_asm); (case k2 => k_asm); (case k3 => k_asm); (case k5 => k_asm); (case k6 => k_is); (case k7 => k_is); (case k8 => ktr_room); (case k9 => exact BindsTo.of_eq rfl); (case c5 => decide); (case kB => exact locs rfl); (case c2 => exact rfl); (case c3 => exact rfl); (case c4 => exact rfl); k_whole; intro g' L' h' hg' F' N' B' X' T'; (try dsimp only); (try k_lift B'); (try k_fold))
  k_steps
  all_goals (unfold KeptR; intro hkk; dsimp only at hkk ⊢; exact kept_retI (by assumption) hret rfl hkk)
end
section
open PySem PySem.W PyProof.Rows PySem.Calls
set_option maxRecDepth 100000
section
variable {prog : Program} {w : World} {A A₀ : Around} {s : Shared} {K : Frag} {L : Addr} {h₀ base : Heap} {m mg mb : Str → Option Value} {p : Program} {loose : List Str} {mean : ExcName → Option Value}
theorem code_defCE {env : Env} {outer : List Env} {R : Result → Shared → Prop} {name qual : Str} {params : Arguments} {body : List Stmt} {scope : Scope} {dV kV doc pm cdv ct oc : Value} {an od : Option Addr} {osl : Array (Option Value)} {f : Addr} {args : Args} {binds : List (Str × Value)}
    (B : Below A₀ base outer h₀) (F : Fr h₀ L s.heap m) (X₀ : K.In h₀) (T : Top p loose mean mg mb h₀) (hA : A.frames = some (env :: outer)) (hf : env.frame = some L) (hke : env.scope.kind = .function)
    (ho : K.lookup f = some ⟨oc, od, .func (fnOf name qual params body scope dV kV doc pm an cdv ct), osl⟩) (hcd : codeIn K cdv qual = true) (hroom : A.depth < recursionLimit)
    (hbind : BindsTo s (fnOf name qual params body scope dV kV doc pm an cdv ct) args binds) (hkind : (binds.all fun y => scope.names.lookup y.1 == some .local || scope.names.lookup y.1 == some .cell) = true)
    (hnd : ((cellsFrom 0 scope.names []).map (·.1)).Nodup)
    (h : ∀ g L' h₁ tk cells, g = s.heap → Fr g L' h₁ (bindL (envOfC qual scope L' f cdv).kindOf binds fun _ => none) → News g L' h₁ (cells ++ []) →
      CellsAre (bindC (envOfC qual scope L' f cdv).kindOf binds fun _ => none) (cellsFrom (L' + 1) scope.names []) cells → Below A base (env :: outer) g → K.In g → Top p loose mean mg mb g →
      wpAny (model prog w) (A.deeper (envOfC qual scope L' f cdv)) (execs body (envOfC qual scope L' f cdv))
        (fun fl s' => LeaveK h₀ L m g (KeptR g R) (match fl with | .ret v => v | _ => .none) s')
        (fun e s' => wpAny (model prog w) (A.deeper (envOfC qual scope L' f cdv)) (leaving (envOfC qual scope L' f cdv) e) (fun _ s'' => R (.error e) s'') (fun e' s'' => R (.error e') s'') s')
        { s with heap := h₁, toks := tk })
    (hco : scope.isCoroutine = false) (hgen : scope.isGenerator = false) (hk : scope.kind = .function) : codeAny (model prog w) A (.call (.ref f) args) R s := by
  have st : h₀.StaysIn s.heap := F.keep
  have B₁ := pushX B F hf hke
  refine codeAny_call_function (fd := fnX name qual params body scope [] dV kV doc pm an cdv ct) hroom ((X₀.keeps F.keep) _ _ ho) rfl hco hgen rfl (codeRec_of (X₀.keeps F.keep) hcd) (hbind _ _ _ _ ?_)
  refine wpAny_newFunctionEnv_cells hk (kindsX hkind _) fun env' he s' x => ?_
  subst he
  refine ⟨(T.nolimit.keeps F.keep).keeps x.toInCall.keep, codeAny_func ?_⟩
  obtain ⟨h₁, tk, rfl, _⟩ := x.done
  have hk₁ := x.toInCall.keep
  obtain ⟨cells, NC, Y⟩ := Cl.news (h₀ := s.heap) (Nat.le_refl _) fun n c hm => ⟨x.cell n c (lookup_of_mem_nodup (cellsFrom_names scope.names 0 (s.heap.objs.size + 1) [] [] rfl ▸ hnd) hm), x.above n c hm⟩
  refine wpAny_mono (h s.heap s.heap.objs.size h₁ tk cells rfl ⟨x.toInCall.ns, hk₁, Nat.le_refl _⟩ (by rw [List.append_nil]; exact NC) Y ⟨hA, B₁.stays, B₁.frames⟩ (X₀.keeps st) (T.keeps st)) (fun fl s' hl => ?_) fun _ _ y => y
  obtain ⟨L', m', news', F', N', k⟩ := hl
  refine k (F.grownK F'.keep) (fun p hp => ⟨(N' p hp).1, ?_, ?_⟩) F'.keep
  · intro q
    have z := (N' p hp).2.2
    obtain ⟨oL, es, ep, hL, _⟩ := F.ns
    rw [q, hL] at z; cases z
  · cases q : h₀.get? p.1 with
    | none => rfl
    | some o => have z := (N' p hp).2.2; rw [st _ _ q] at z; cases z
end
end
section
open PySem PySem.W PyProof.Rows PySem.Calls
set_option maxRecDepth 100000
/-- a contract that may leave a generator at rest -/
def CtrG (n : Nat) (w : World) (s₀ : Shared) (mg mb : Str → Option Value) (f : Addr) (pre : Heap → Prop) (vs : List Value) (R : Tok → Value) : Prop :=
  ∀ (dp un : Nat) (gd : Option (List Code)) (cn : Str) (cs : Scope) (a : Addr) (ccd : Value) (cl : List (Str × Addr)) (outer : List Env) (A₀ : Around) (base h₀ : Heap) (L : Addr) (m : Str → Option Value) (s : Shared) (Q E : Value → Shared → Prop),
    Below A₀ base outer h₀ → Fr h₀ L s.heap m → (hd.heap_39 w.params).In h₀ → Top hd.view_39 (looseW hd.view_39 []) (ExcName.means s₀.heap) mg mb h₀ → cs.kind = .function →
    pre s.heap → dp + n < recursionLimit → un + 20 * n < cLine →
    (∀ (t : Tok) (h' : Heap) (tk' : Nat) (gens' : Array GenState), (AllBare s.gens → AllBare gens') → (∀ b o, s.heap.get? b = some o → h'.get? b = some o) → Q (R t) { s with heap := h', toks := tk', gens := gens' }) →
    wpAny (model PySem.Challenge.rw_pk0040_01.row.prog w) (ktrTop dp un gd cn cs L a ccd cl outer) (call (.ref f) vs) Q E s
theorem use_ctrG {n : Nat} {w : World} {s₀ : Shared} {mg mb : Str → Option Value} {f : Addr} {pre : Heap → Prop} {vs : List Value} {R : Tok → Value} (C : CtrG n w s₀ mg mb f pre vs R)
    {dp un : Nat} {gd : Option (List Code)} {cn : Str} {cs : Scope} {a : Addr} {ccd : Value} {cl : List (Str × Addr)} {outer : List Env} {A₀ : Around} {base h₀ : Heap} {L : Addr} {m : Str → Option Value} {news : List (Addr × Obj)} {s : Shared} {Q E : Value → Shared → Prop}
    (B : Below A₀ base outer h₀) (F : Fr h₀ L s.heap m) (X : (hd.heap_39 w.params).In h₀) (N : News h₀ L s.heap news) (T : Top hd.view_39 (looseW hd.view_39 []) (ExcName.means s₀.heap) mg mb h₀) (hk : cs.kind = .function)
    (hp : pre s.heap) (hd : dp + n < recursionLimit) (hu : un + 20 * n < cLine)
    (ret : ∀ t h' tk' gens', (AllBare s.gens → AllBare gens') → Fr h₀ L h' m → News h₀ L h' news → Q (R t) { s with heap := h', toks := tk', gens := gens' }) :
    wpAny (model PySem.Challenge.rw_pk0040_01.row.prog w) (ktrTop dp un gd cn cs L a ccd cl outer) (call (.ref f) vs) Q E s :=
  C _ _ _ _ _ _ _ _ _ _ _ _ _ _ _ _ _ B F X T hk hp hd hu fun t h' tk' gens' hb k => ret t h' tk' gens' hb (F.grownK k) (N.grown k)
theorem kept_retBG {g : Heap} {s : Shared} {Q : Value → Shared → Prop} {x y : Bool} {h' : Heap} {tk' : Nat} {gens' : Array GenState} (hg : g = s.heap)
    (hret : ∀ (t : Tok) (h' : Heap) (tk' : Nat) (gens' : Array GenState), (AllBare s.gens → AllBare gens') → (∀ b o, s.heap.get? b = some o → h'.get? b = some o) → Q (.bool x) { s with heap := h', toks := tk', gens := gens' }) (e : y = x)
    (hb : AllBare s.gens → AllBare gens') (k : ∀ b o, g.get? b = some o → h'.get? b = some o) : Q (.bool y) { s with heap := h', toks := tk', gens := gens' } := by
  subst e; subst hg
  exact hret 0 h' tk' gens' hb k
theorem kept_retIG {g : Heap} {s : Shared} {Q : Value → Shared → Prop} {x y : Int} {t : Tok} {h' : Heap} {tk' : Nat} {gens' : Array GenState} (hg : g = s.heap)
    (hret : ∀ (t : Tok) (h' : Heap) (tk' : Nat) (gens' : Array GenState), (AllBare s.gens → AllBare gens') → (∀ b o, s.heap.get? b = some o → h'.get? b = some o) → Q (.int x t) { s with heap := h', toks := tk', gens := gens' }) (e : y = x)
    (hb : AllBare s.gens → AllBare gens') (k : ∀ b o, g.get? b = some o → h'.get? b = some o) : Q (.int y t) { s with heap := h', toks := tk', gens := gens' } := by
  subst e; subst hg
  exact hret t h' tk' gens' hb k
theorem bare_push {gens : Array GenState} {gs : GenState} (h : gs.bare = true) (k : AllBare gens) : AllBare (gens.push gs) := by
  intro y hy
  rcases Array.mem_push.mp hy with hy | rfl
  · exact k y hy
  · exact h
end
section
open PySem PySem.W PyProof.Rows PySem.Calls
set_option maxRecDepth 100000
theorem two_of {l : List (Str × Tok)} {x y : Str} (h : l.map (·.1) = [x, y]) : ∃ t u, l = [(x, t), (y, u)] := by
  match l, h with
  | [(_, t), (_, u)], rfl => exact ⟨t, u, rfl⟩
theorem del_K {prog : Program} {w : World} {A : Around} {E : Value → Shared → Prop} {s : Shared} {h₀ : Heap} {L D : Addr} {m : Str → Option Value} {news news' : List (Addr × Obj)}
    {its : Array Value} {l : List Value} {n : Nat} {i : Int} {u : Tok} {k : Nat} {Q : Unit → Shared → Prop} (F : Fr h₀ L s.heap m) (N : News h₀ L s.heap news)
    (hfit : Builtin.List.listFitsIndex i = true) (hk : seqIndex? i its.size = some k) (e : its.toList.eraseIdx k = l) (U : Upd D (listOf its n) (listOf l.toArray (n + 1)) news news')
    (h : ∀ h', Fr h₀ L h' m → News h₀ L h' news' → Q () { s with heap := h' }) (hsz : its.size ≤ sizeLine := by size_fits) :
    wpAny (model prog w) A (delItem (.ref D) (.int i u)) Q E s := by
  subst e
  obtain ⟨pre, post, rfl, rfl, a, b⟩ := U.split
  have z := N (D, listOf its n) (List.mem_append.mpr (.inr (.head _)))
  exact delItem_at (hsz := hsz) z.1 hfit hk fun h' hs ho' => h h' (F.change hs z.2.1 z.2.2) (news_set N a b hs ho')
local macro_rules | `(tactic| walk_at "delItem ref int") => `(tactic| apply stopT)
theorem split2_K {prog : Program} {w : World} {A : Around} {E : Value → Shared → Prop} {s : Shared} {x y x1 y1 : Str} {t u : Tok} {h₀ : Heap} {L : Addr} {m : Str → Option Value} {news : List (Addr × Obj)} {Q : Value → Shared → Prop}
    (F : Fr h₀ L s.heap m) (N : News h₀ L s.heap news) (hy : (y.length == 0) = false) (e : Txt.split x y = [x1, y1])
    (h : ∀ D h' k t1 t2, Fr h₀ L h' m → News h₀ L h' ((D, listOf #[.str x1 t1, .str y1 t2] 0) :: news) → (∀ p ∈ news, p.1 < D) → Q (.ref D) { s with heap := h', toks := k }) (hsz : x.length + 2 ≤ sizeLine := by size_fits) :
    wpAny (model prog w) A (call (.builtin "str.split") [.str x t, .str y u]) Q E s := by
  refine splitN1 F N hy (fun l h' k el F' N' => ?_) hsz
  rw [e] at el
  obtain ⟨t1, t2, rfl⟩ := two_of el
  exact h _ h' k t1 t2 F' N' fun p hp => Heap.lt_size (N p hp).1
local macro_rules | `(tactic| walk_at "call builtin:str.split") => `(tactic| apply stopT)
theorem gives_find4 (x y : Str) (i j : Int) (t u v z : Tok) (hi : 0 ≤ i) (hj : 0 ≤ j) : Gives (Builtin.«str.find» ⟨[.str x t, .str y u, .int i v, .int j z], []⟩) (.int (match Builtin.Str.occurrences x y i.toNat (min j.toNat x.length) 1 with | k :: _ => (k : Int) | [] => -1)) := by
  show Gives (match Builtin.Str.occurrences x y (max 0 (if i < 0 then i + x.length else i)).toNat (min (max 0 (if j < 0 then j + x.length else j)).toNat x.length) 1 with | k :: _ => retInt k | [] => (do rule "str.find.not-found"; retInt (-1))) _
  rw [if_neg (by omega), if_neg (by omega), Int.max_eq_right hi, Int.max_eq_right hj]
  cases Builtin.Str.occurrences x y i.toNat (min j.toNat x.length) 1 with
  | nil => exact .rule (.of_eq rfl)
  | cons k _ => exact .of_eq rfl
theorem find4_K {prog : Program} {w : World} {A : Around} {E : Value → Shared → Prop} {s : Shared} {x : Str} {i j : Int} {t u v z : Tok} {Q : Value → Shared → Prop} (hi : 0 ≤ i) (hij : i ≤ j) (hj : j ≤ x.length)
    (h : ∀ t' k, Q (.int i t') { s with toks := k }) : wpAny (model prog w) A (call (.builtin "str.find") [.str x t, .str (Str.ofString "") u, .int i v, .int j z]) Q E s := by
  refine call_gives F.slot_str_find (typeIs_str _ _ _) F.entry_str_find (F.args_str_find_4 _ _ _ _) (gives_find4 x (Str.ofString "") i j t u v z hi (Int.le_trans hi hij)) ?_
  have e : min j.toNat x.length = j.toNat := by omega
  rw [e, occ_empty x i.toNat j.toNat (by omega)]
  have e2 : ((i.toNat : Nat) : Int) = i := by omega
  show Q (.int ((i.toNat : Nat) : Int) _) _
  rw [e2]
  exact h _ _
local macro_rules | `(tactic| walk_at "call builtin:str.find") => `(tactic| apply stopT)
theorem ends_le {b a : Str} (h : Txt.endswith b a = true) : a.length ≤ b.length := by
  unfold Txt.endswith at h
  rw [Bool.and_eq_true, decide_eq_true_eq] at h
  omega
theorem starts_le {b a : Str} (h : Txt.startswith b a = true) : a.length ≤ b.length := by
  unfold Txt.startswith at h
  rw [Bool.and_eq_true, decide_eq_true_eq] at h
  omega
theorem ends_nil (b : Str) : Txt.endswith b (Str.ofString "") = true := by
  unfold Txt.endswith
  rw [Bool.and_eq_true, decide_eq_true_eq, empty_eq, StrLaws.subAt_eq]
  exact ⟨Nat.zero_le _, rfl⟩
theorem nodot_nil : NoDot (Str.ofString "") := by rw [empty_eq]; intro c hc; cases hc
theorem str_nil {a : Str} (h : a.length = 0) : a = Str.ofString "" := by
  obtain ⟨⟨l⟩⟩ := a
  have h : l.length = 0 := h
  rw [empty_eq, List.length_eq_zero_iff.mp h]
theorem ends_len0 {b a : Str} (h : a.length = 0) : Txt.endswith b a = true := by obtain rfl := str_nil h; exact ends_nil b
set_option maxHeartbeats 4000000 in
theorem c_ell (w : World) (s₀ : Shared) (mg mb : Str → Option Value) (a b : Str) (ta tb : Tok) :
    Ctr 2 w s₀ mg mb 35 (fun _ => a.length ≤ 1000 ∧ b.length ≤ 1000 ∧ NoDot a) [.str (Str.ofString "..." ++ a) ta, .str b tb] (fun _ => .bool (Txt.endswith b a)) := by
  unfold Ctr; k_fill
  intros; rename_i hret
  rename (a.length ≤ 1000 ∧ b.length ≤ 1000 ∧ NoDot a) => hp
  obtain ⟨ha8, hb8, had⟩ := hp
  have hff := front_found had
  have hfs := front_split had
  have hl0 : (Str.ofString "").length = 0 := by rw [empty_eq]; rfl
  refine wpAny_call ?_
  k_dflt (refine' code_defE ?k1 ?k2 ?k3 ?k5 ?kA ?kF ?kK ?k6 ?k7 ?k8 ?k9 ?kB ?_ ?c2 ?c3 ?c4 ?c5; (case kA => exact rfl); (case kF => exact rfl); (case kK => assumption); (case k1 => k_asm); (case k2 => k_asm); (case k3 => k_asm); (case k5 => k_asm); (case k6 => k_is); (case k7 => k_is); (case k8 => ktr_room); (case k9 => exact BindsTo.of_eq rfl); (case c5 => decide); (case kB => exact locs rfl); (case c2 => exact rfl); (case c3 => exact rfl); (case c4 => exact rfl); k_whole; intro g' L' h' hg' F' N' B' X' T'; (try dsimp only); (try k_lift B'); (try k_fold))
  k_steps
  iterate 6 (all_goals first | (unfold Stopped; (first | (k_here; (with_reducible show wpAny _ _ (delItem (Value.ref _) (Value.int _ _)) _ _ _); k_dflt (refine' del_K ?k1 ?k2 ?k3 ?k4 ?k5 ?k6 ?_ ?z; (case k1 => k_asm); (case k2 => k_asm); (case k6 => k_upd); (case k3 => decide); (case k4 => rfl); (case k5 => rfl); (case z => size_fits); k_whole); intro h' F' N'; (try k_sweep)) | (k_here; k_dflt (refine' split2_K ?k1 ?k2 ?k3 ?k4 ?_ ?z; (case k1 => k_asm); (case k2 => k_asm); (case k3 => first | rfl | assumption); (case k4 => assumption); (case z => size_fits); k_whole); intro D' h' k' t1' t2' F' N' l1; (try k_lt l1); (try k_sweep)) | (k_here; (with_reducible show wpAny _ _ (call (Value.builtin "str.find") [Value.str _ _, Value.str _ _, Value.int _ _, Value.int _ _]) _ _ _); k_dflt (refine' find4_K ?k1 ?k2 ?k3 ?_; (case k1 => omega); (case k2 => omega); (case k3 => omega); k_whole); intro t' k')); (try k_steps)) | skip)
  all_goals first | (have h0 : a.length = 0 := by omega); (obtain rfl := str_nil h0); (try unfold Stopped); (first | (k_here; (with_reducible show wpAny _ _ (delItem (Value.ref _) (Value.int _ _)) _ _ _); k_dflt (refine' del_K ?k1 ?k2 ?k3 ?k4 ?k5 ?k6 ?_ ?z; (case k1 => k_asm); (case k2 => k_asm); (case k6 => k_upd); (case k3 => decide); (case k4 => rfl); (case k5 => rfl); (case z => size_fits); k_whole); intro h' F' N'; (try k_sweep)) | (k_here; k_dflt (refine' split2_K ?k1 ?k2 ?k3 ?k4 ?_ ?z; (case k1 => k_asm); (case k2 => k_asm); (case k3 => first | rfl | assumption); (case k4 => assumption); (case z => size_fits); k_whole); intro D' h' k' t1' t2' F' N' l1; (try k_lt l1); (try k_sweep)) | (k_here; (with_reducible show wpAny _ _ (call (Value.builtin "str.find") [Value.str _ _, Value.str _ _, Value.int _ _, Value.int _ _]) _ _ _); k_dflt (refine' find4_K ?k1 ?k2 ?k3 ?_; (case k1 => omega); (case k2 => omega); (case k3 => omega); k_whole); intro t' k') | skip); (try k_steps) | skip
  iterate 4 (all_goals first | (unfold Stopped; (first | (k_here; (with_reducible show wpAny _ _ (delItem (Value.ref _) (Value.int _ _)) _ _ _); k_dflt (refine' del_K ?k1 ?k2 ?k3 ?k4 ?k5 ?k6 ?_ ?z; (case k1 => k_asm); (case k2 => k_asm); (case k6 => k_upd); (case k3 => decide); (case k4 => rfl); (case k5 => rfl); (case z => size_fits); k_whole); intro h' F' N'; (try k_sweep)) | (k_here; k_dflt (refine' split2_K ?k1 ?k2 ?k3 ?k4 ?_ ?z; (case k1 => k_asm); (case k2 => k_asm); (case k3 => first | rfl | assumption); (case k4 => assumption); (case z => size_fits); k_whole); intro D' h' k' t1' t2' F' N' l1; (try k_lt l1); (try k_sweep)) | (k_here; (with_reducible show wpAny _ _ (call (Value.builtin "str.find") [Value.str _ _, Value.str _ _, Value.int _ _, Value.int _ _]) _ _ _); k_dflt (refine' find4_K ?k1 ?k2 ?k3 ?_; (case k1 => omega); (case k2 => omega); (case k3 => omega); k_whole); intro t' k')); (try k_steps)) | skip)
  all_goals (unfold KeptR; intro hkk; dsimp only at hkk ⊢; refine kept_retB (by assumption) hret ?_ hkk; first | (exfalso; omega) | (exfalso; have hle := ends_le (b := b) (a := a) (by assumption); omega) | (symm; assumption) | exact (ends_len0 (by omega)).symm | skip)
set_option maxHeartbeats 4000000 in
theorem c_ellF (w : World) (s₀ : Shared) (mg mb : Str → Option Value) (a b : Str) (ta tb : Tok) :
    Ctr 2 w s₀ mg mb 35 (fun _ => a.length ≤ 1000 ∧ b.length ≤ 1000 ∧ 0 < a.length ∧ NoDot a) [.str (a ++ Str.ofString "...") ta, .str b tb] (fun _ => .bool (Txt.startswith b a)) := by
  unfold Ctr; k_fill
  intros; rename_i hret
  rename (a.length ≤ 1000 ∧ b.length ≤ 1000 ∧ 0 < a.length ∧ NoDot a) => hp
  obtain ⟨ha8, hb8, ha0, had⟩ := hp
  have hff := back_found had
  have hfs := back_split had
  have hl0 : (Str.ofString "").length = 0 := by rw [empty_eq]; rfl
  refine wpAny_call ?_
  k_dflt (refine' code_defE ?k1 ?k2 ?k3 ?k5 ?kA ?kF ?kK ?k6 ?k7 ?k8 ?k9 ?kB ?_ ?c2 ?c3 ?c4 ?c5; (case kA => exact rfl); (case kF => exact rfl); (case kK => assumption); (case k1 => k_asm); (case k2 => k_asm); (case k3 => k_asm); (case k5 => k_asm); (case k6 => k_is); (case k7 => k_is); (case k8 => ktr_room); (case k9 => exact BindsTo.of_eq rfl); (case c5 => decide); (case kB => exact locs rfl); (case c2 => exact rfl); (case c3 => exact rfl); (case c4 => exact rfl); k_whole; intro g' L' h' hg' F' N' B' X' T'; (try dsimp only); (try k_lift B'); (try k_fold))
  k_steps
  iterate 6 (all_goals first | (unfold Stopped; (first | (k_here; (with_reducible show wpAny _ _ (delItem (Value.ref _) (Value.int _ _)) _ _ _); k_dflt (refine' del_K ?k1 ?k2 ?k3 ?k4 ?k5 ?k6 ?_ ?z; (case k1 => k_asm); (case k2 => k_asm); (case k6 => k_upd); (case k3 => decide); (case k4 => rfl); (case k5 => rfl); (case z => size_fits); k_whole); intro h' F' N'; (try k_sweep)) | (k_here; k_dflt (refine' split2_K ?k1 ?k2 ?k3 ?k4 ?_ ?z; (case k1 => k_asm); (case k2 => k_asm); (case k3 => first | rfl | assumption); (case k4 => assumption); (case z => size_fits); k_whole); intro D' h' k' t1' t2' F' N' l1; (try k_lt l1); (try k_sweep)) | (k_here; (with_reducible show wpAny _ _ (call (Value.builtin "str.find") [Value.str _ _, Value.str _ _, Value.int _ _, Value.int _ _]) _ _ _); k_dflt (refine' find4_K ?k1 ?k2 ?k3 ?_; (case k1 => omega); (case k2 => omega); (case k3 => omega); k_whole); intro t' k')); (try k_steps)) | skip)
  all_goals (unfold KeptR; intro hkk; dsimp only at hkk ⊢; refine kept_retB (by assumption) hret ?_ hkk; first | (exfalso; omega) | (exfalso; have hle := starts_le (b := b) (a := a) (by assumption); omega) | (symm; assumption))
end
section
open PySem PySem.W PyProof.Rows PySem.Calls
set_option maxRecDepth 100000
/-- a text's signs -/
abbrev lst (x : Str) : List Nat := x.cps.toList
theorem lst_len (x : Str) : (lst x).length = x.length := rfl
theorem lst_inj {x y : Str} (h : lst x = lst y) : x = y := by
  obtain ⟨⟨l⟩⟩ := x; obtain ⟨⟨k⟩⟩ := y
  have h : l = k := h
  rw [h]
theorem lst_app (x y : Str) : lst (x ++ y) = lst x ++ lst y := by
  unfold lst; rw [Str.cps_append]; simp
theorem lst_mk (l : List Nat) : lst ⟨l.toArray⟩ = l := by unfold lst; simp
theorem sl_to (x : Str) {j : Int} (h : 0 ≤ j) : lst (Txt.slice x none (some j)) = (lst x).take j.toNat := by
  by_cases hj : j ≤ x.length
  · have := slice_closes_toL (x := x) h hj
    rw [beq_iff_eq] at this
    rw [this, lst_mk]
    show List.take (j - 0).toNat (List.drop 0 (lst x)) = _
    rw [List.drop_zero, Int.sub_zero]
  · have h2 : (x.length : Int) ≤ j := by omega
    rw [slice_to_beyond h2]
    have := slice_closes_toL (x := x) (j := (x.length : Int)) (by omega) (Int.le_refl _)
    rw [beq_iff_eq] at this
    rw [this, lst_mk]
    show List.take ((x.length : Int) - 0).toNat (List.drop 0 (lst x)) = _
    rw [List.drop_zero, List.take_of_length_le (by rw [lst_len]; omega), List.take_of_length_le (by rw [lst_len]; omega)]
theorem sl_from (x : Str) {i : Int} (h : 0 ≤ i) : lst (Txt.slice x (some i) none) = (lst x).drop i.toNat := by
  by_cases hi : i ≤ x.length
  · have := slice_closes_fromL (x := x) h hi rfl
    rw [beq_iff_eq] at this
    rw [this, lst_mk, List.take_of_length_le (by rw [List.length_drop]; show x.length - _ ≤ _; omega)]
  · rw [slice_from_beyond (by omega)]
    have : (lst x).length ≤ i.toNat := by rw [lst_len]; omega
    rw [List.drop_of_length_le this]
theorem sl_from_neg (x : Str) {k : Int} (h0 : 0 < k) (h1 : k ≤ x.length) : lst (Txt.slice x (some (-k)) none) = (lst x).drop (x.length - k.toNat) := by
  have := slice_closes_from_neg (x := x) (i := -k) (a := -k + x.length) (b := x.length) (by omega) (by omega) rfl rfl
  rw [beq_iff_eq] at this
  rw [this, lst_mk, show (-k + (x.length : Int)).toNat = x.length - k.toNat from by omega, List.take_of_length_le]
  rw [List.length_drop]
  show x.length - _ ≤ _
  omega
theorem sl_to_neg (x : Str) {k : Int} (h0 : 0 < k) (h1 : k ≤ x.length) : lst (Txt.slice x none (some (-k))) = (lst x).take (x.length - k.toNat) := by
  have := slice_closes_to_neg (x := x) (j := -k) (k := -k + x.length) (by omega) (by omega) rfl
  rw [beq_iff_eq] at this
  rw [this, lst_mk]
  show List.take _ (List.drop 0 (lst x)) = _
  rw [List.drop_zero, show (-k + (x.length : Int) - 0).toNat = x.length - k.toNat from by omega]
theorem sliceIdx_mem (x : Str) (i j : Option Int) : ∀ c ∈ lst (Txt.slice x i j), c ∈ lst x := by
  intro c hc
  unfold Txt.slice at hc
  split at hc
  · exact hc
  · rw [lst_mk, List.mem_filterMap] at hc
    obtain ⟨a, _, ha⟩ := hc
    have ha : x.cps[a]? = some c := ha
    exact Array.mem_toList_iff.mpr (Array.mem_of_getElem? ha)
theorem NoDot.slice {x : Str} (h : NoDot x) (i j : Option Int) : NoDot (Txt.slice x i j) := fun c hc => h c (sliceIdx_mem x i j c hc)
theorem NoDot.app {x y : Str} (h : NoDot x) (k : NoDot y) : NoDot (x ++ y) := by
  intro c hc
  have hc : c ∈ lst (x ++ y) := hc
  rw [lst_app, List.mem_append] at hc
  rcases hc with hc | hc
  · exact h c hc
  · exact k c hc
theorem le_slice {x : Str} {i j : Option Int} {n : Nat} (h : x.length ≤ n) : (Txt.slice x i j).length ≤ n := Nat.le_trans (Txt.slice_le x i j) h
theorem le_app {x y : Str} (h : x.length ≤ 500) (k : y.length ≤ 500) : (x ++ y).length ≤ 1000 := by rw [Str.length_append]; omega
end
section
open PySem PySem.W PyProof.Rows PySem.Calls
set_option maxRecDepth 100000
theorem ends_iff (x y : Str) : Txt.endswith x y = true ↔ lst y <:+ lst x := by
  unfold Txt.endswith
  rw [Bool.and_eq_true, decide_eq_true_eq, StrLaws.subAt_eq, beq_iff_eq, List.suffix_iff_eq_drop]
  show _ ∧ List.take y.length (List.drop (x.length - y.length) (lst x)) = lst y ↔ lst y = List.drop (x.length - y.length) (lst x)
  constructor
  · rintro ⟨h, e⟩
    rw [List.take_of_length_le (by rw [List.length_drop, lst_len]; omega)] at e
    exact e.symm
  · intro e
    have hl : y.length = x.length - (x.length - y.length) := by
      have := congrArg List.length e
      rwa [List.length_drop, lst_len, lst_len] at this
    refine ⟨by omega, ?_⟩
    rw [List.take_of_length_le (by rw [List.length_drop, lst_len]; omega)]
    exact e.symm
theorem starts_iff (x y : Str) : Txt.startswith x y = true ↔ lst y <+: lst x := by
  unfold Txt.startswith
  rw [Bool.and_eq_true, decide_eq_true_eq, StrLaws.subAt_eq, beq_iff_eq, List.prefix_iff_eq_take, List.drop_zero]
  show _ ∧ List.take y.length (lst x) = lst y ↔ lst y = List.take y.length (lst x)
  constructor
  · rintro ⟨_, e⟩; exact e.symm
  · intro e
    refine ⟨?_, e.symm⟩
    have := congrArg List.length e
    rw [List.length_take, lst_len, lst_len] at this
    omega
theorem ends_dec (x y : Str) : Txt.endswith x y = decide (lst y <:+ lst x) := by
  by_cases h : lst y <:+ lst x
  · rw [decide_eq_true h, (ends_iff x y).mpr h]
  · rw [decide_eq_false h]
    cases e : Txt.endswith x y with
    | false => rfl
    | true => exact absurd ((ends_iff x y).mp e) h
theorem starts_dec (x y : Str) : Txt.startswith x y = decide (lst y <+: lst x) := by
  by_cases h : lst y <+: lst x
  · rw [decide_eq_true h, (starts_iff x y).mpr h]
  · rw [decide_eq_false h]
    cases e : Txt.startswith x y with
    | false => rfl
    | true => exact absurd ((starts_iff x y).mp e) h
/-- the first of 1, 2 .. n that f takes; n + 1 if none -/
def firstK (f : Int → Bool) (n : Nat) : Int := 1 + ((((List.range n).find? fun (j : Nat) => f (1 + (j : Int))).getD n : Nat) : Int)
theorem firstK_eq {f : Int → Bool} {n m : Nat} (h : ∀ j, j < m → f (1 + (j : Int)) = false) (hm : f (1 + (m : Int)) = true) (hn : m < n) : firstK f n = 1 + (m : Int) := by
  unfold firstK
  have : (List.range n).find? (fun (j : Nat) => f (1 + (j : Int))) = some m := by
    rw [List.find?_eq_some_iff_append]
    refine ⟨hm, List.range m, List.range' (m + 1) (n - m - 1), ?_, ?_⟩
    · rw [List.range_eq_range', List.range_eq_range']
      have e : n = m + (1 + (n - m - 1)) := by omega
      rw [e, ← List.range'_append_1, ← List.range'_append_1, List.range'_one]
      simp
    · intro j hj
      rw [List.mem_range] at hj
      rw [h j hj]; rfl
  rw [this]
  rfl
def wordE (a : Str) (p k : Int) : Str := Txt.slice (Txt.slice a (some p) none) none (some k) ++ Txt.slice (Txt.slice a none (some p)) (some ((a.length : Int) - k)) none
def toldE (a : Str) (p k : Int) : Bool := if k ≤ p then Txt.endswith (Txt.slice a none (some p)) (wordE a p k) else Txt.endswith (wordE a p k) (Txt.slice a none (some p))
theorem lst_wordE (a : Str) {p k : Int} (hp : 0 ≤ p) (hk : 0 ≤ k) (hn : k ≤ a.length) : lst (wordE a p k) = ((lst a).drop p.toNat).take k.toNat ++ ((lst a).take p.toNat).drop (a.length - k.toNat) := by
  unfold wordE
  rw [lst_app, sl_to _ hk, sl_from _ hp, sl_from _ (by omega), sl_to _ hp]
  congr 2
  omega
theorem toldE_last (a : Str) {p : Int} (hp : 0 ≤ p) (hn : p ≤ a.length) : toldE a p a.length = true := by
  have hw := lst_wordE a (p := p) (k := a.length) hp (by omega) (Int.le_refl _)
  rw [Int.toNat_natCast, Nat.sub_self, List.drop_zero, List.take_of_length_le (by rw [List.length_drop, lst_len]; omega)] at hw
  unfold toldE
  split
  · rename_i h
    rw [ends_iff, hw, sl_to _ hp, List.drop_of_length_le (by rw [lst_len]; omega)]
    exact List.suffix_refl _
  · rw [ends_iff, hw, sl_to _ hp]
    exact List.suffix_append _ _
theorem rangeKs_len (a : Int) (n : Nat) : (rangeKs a n).length = n := by unfold rangeKs; simp
end
section
open PySem PySem.W PyProof.Rows PySem.Calls
set_option maxRecDepth 100000
def posI (x : Int) : Int := if x > 0 then x else 0
theorem posI_nn (x : Int) : 0 ≤ posI x := by unfold posI; split <;> omega
def wordF (a : Str) (p k : Int) : Str := Txt.slice (Txt.slice a (some p) none) none (some (if k - p > 0 then k - p else 0)) ++ Txt.slice (Txt.slice a none (some p)) (some (if p - k > 0 then p - k else 0)) none
def toldF (a : Str) (p k : Int) : Bool := if k ≤ (Txt.slice a (some p) none).length then Txt.startswith (Txt.slice a (some p) none) (wordF a p k) else Txt.startswith (wordF a p k) (Txt.slice a (some p) none)
theorem lst_wordF (a : Str) {p k : Int} (hp : 0 ≤ p) : lst (wordF a p k) = ((lst a).drop p.toNat).take (k - p).toNat ++ ((lst a).take p.toNat).drop (p - k).toNat := by
  unfold wordF
  rw [lst_app, sl_to _ (by split <;> omega), sl_from _ hp, sl_from _ (by split <;> omega), sl_to _ hp]
  have e1 : (if k - p > 0 then k - p else 0).toNat = (k - p).toNat := by split <;> omega
  have e2 : (if p - k > 0 then p - k else 0).toNat = (p - k).toNat := by split <;> omega
  rw [e1, e2]
theorem wordF_pos (a : Str) {p k : Int} (hp : 0 < p) (hk : 0 < k) (hn : p ≤ a.length) : 0 < (wordF a p k).length := by
  rw [← lst_len, lst_wordF a (by omega), List.length_append, List.length_drop, List.length_take, List.length_take, List.length_drop, lst_len]
  omega
theorem behind_len (a : Str) {p : Int} (hp : 0 ≤ p) : (Txt.slice a (some p) none).length = a.length - p.toNat := by
  rw [← lst_len, sl_from _ hp, List.length_drop, lst_len]
theorem toldF_last (a : Str) {p : Int} (hp : 0 < p) (hn : p < a.length) : toldF a p a.length = true := by
  have hw := lst_wordF a (p := p) (k := a.length) (by omega)
  rw [List.take_of_length_le (by rw [List.length_drop, lst_len]; omega)] at hw
  unfold toldF
  rw [behind_len a (by omega), if_neg (by omega), starts_iff, hw, sl_from _ (by omega)]
  exact List.prefix_append _ _
theorem toldF_pos {a : Str} {i k : Int} {b : Bool} (h : k ≤ (Txt.slice a (some i) none).length) (e : Txt.startswith (Txt.slice a (some i) none) (wordF a i k) = b) : toldF a i k = b := by
  unfold toldF; rw [if_pos h]; exact e
theorem toldF_neg {a : Str} {i k : Int} {b : Bool} (h : ¬ k ≤ (Txt.slice a (some i) none).length) (e : Txt.startswith (wordF a i k) (Txt.slice a (some i) none) = b) : toldF a i k = b := by
  unfold toldF; rw [if_neg h]; exact e
theorem bT {b : Bool} (h : (b == true) = true) : b = true := by cases b <;> first | rfl | cases h
theorem bF {b : Bool} (h : (b != false) = false) : b = false := by cases b <;> first | rfl | cases h
end
section
open PySem PySem.W PyProof.Rows PySem.Calls
set_option maxRecDepth 100000
theorem b2i_dec (p : Prop) [Decidable p] : b2i (decide p) = if p then 1 else 0 := by
  by_cases h : p <;> simp [b2i, h]
theorem lt_tri : ∀ (x y : List Nat), x < y ∨ x = y ∨ y < x
  | [], [] => .inr (.inl rfl)
  | [], _ :: _ => .inl (List.nil_lt_cons _ _)
  | _ :: _, [] => .inr (.inr (List.nil_lt_cons _ _))
  | a :: x, b :: y => by
    rw [List.cons_lt_cons_iff, List.cons_lt_cons_iff]
    rcases Nat.lt_trichotomy a b with h | h | h
    · exact .inl (.inl h)
    · subst h
      rcases lt_tri x y with h | h | h
      · exact .inl (.inr ⟨rfl, h⟩)
      · exact .inr (.inl (by rw [h]))
      · exact .inr (.inr (.inr ⟨rfl, h⟩))
    · exact .inr (.inr (.inl h))
theorem lt_asy : ∀ {x y : List Nat}, x < y → ¬ y < x := by
  intro x y h k
  exact List.lt_irrefl x (List.lt_trans h k)
theorem cmpZ_lt {a b : Str} (h : lst a < lst b) : cmpZ a b = -1 := by
  have k := lt_asy h
  unfold cmpZ; rw [b2i_dec, b2i_dec, if_pos h, if_neg k]; rfl
theorem cmpZ_gt {a b : Str} (h : lst b < lst a) : cmpZ a b = 1 := by
  have k := lt_asy h
  unfold cmpZ; rw [b2i_dec, b2i_dec, if_pos h, if_neg k]; rfl
theorem cmpZ_eq {a b : Str} (h : lst a = lst b) : cmpZ a b = 0 := by
  have k := List.lt_irrefl (lst a)
  unfold cmpZ; rw [b2i_dec, b2i_dec]
  have k1 : ¬ lst b < lst a := by rw [← h]; exact k
  have k2 : ¬ lst a < lst b := by rw [← h]; exact k
  rw [if_neg k1, if_neg k2]; rfl
theorem cmpZ_anti (a b : Str) : cmpZ b a = - cmpZ a b := by unfold cmpZ; omega
theorem cmpZ_one {a b : Str} (h : cmpZ a b = 1) : lst b < lst a := by
  rcases lt_tri (lst a) (lst b) with k | k | k
  · rw [cmpZ_lt k] at h; cases h
  · rw [cmpZ_eq k] at h; cases h
  · exact k
theorem cmpZ_nil {a b : Str} (h : cmpZ a b = 0) : a = b := by
  rcases lt_tri (lst a) (lst b) with k | k | k
  · rw [cmpZ_lt k] at h; cases h
  · exact lst_inj k
  · rw [cmpZ_gt k] at h; cases h
theorem cmpZ_ne {a b : Str} (h : a.length ≠ b.length) : cmpZ a b = 1 ∨ cmpZ a b = -1 := by
  rcases lt_tri (lst a) (lst b) with k | k | k
  · exact .inr (cmpZ_lt k)
  · exact absurd (by rw [← lst_len, ← lst_len, k]) h
  · exact .inl (cmpZ_gt k)
/-- the greatest end among the first, by place -/
def geK (a : Str) : Nat → Int
  | 0 => 0
  | n + 1 => if cmpZ (Txt.slice a (some (1 + (n : Int))) none) (Txt.slice a (some (geK a n)) none) = 1 then 1 + (n : Int) else geK a n
theorem geK_bd (a : Str) : ∀ n : Nat, 0 ≤ geK a n ∧ geK a n ≤ n
  | 0 => ⟨Int.le_refl 0, Int.le_refl 0⟩
  | n + 1 => by
    have ih := geK_bd a n
    unfold geK
    split <;> omega
theorem geK_ne {a : Str} {n : Nat} (h : n < a.length) : cmpZ (Txt.slice a (some (1 + (n : Int))) none) (Txt.slice a (some (geK a n)) none) = 1 ∨ cmpZ (Txt.slice a (some (1 + (n : Int))) none) (Txt.slice a (some (geK a n)) none) = -1 := by
  have b := geK_bd a n
  refine cmpZ_ne ?_
  rw [← lst_len, ← lst_len, sl_from _ (by omega), sl_from _ b.1, List.length_drop, List.length_drop, lst_len]
  omega
theorem geK_max (a : Str) : ∀ (n j : Nat), j ≤ n → ¬ (lst a).drop (geK a n).toNat < (lst a).drop j
  | 0, j, h => by
    obtain rfl : j = 0 := by omega
    exact List.lt_irrefl _
  | n + 1, j, h => by
    have ih := geK_max a n
    have b := geK_bd a n
    unfold geK
    split
    · rename_i e
      have z := cmpZ_one e
      rw [sl_from _ b.1, sl_from _ (by omega)] at z
      by_cases hj : j ≤ n
      · intro k
        exact ih j hj (List.lt_trans z k)
      · obtain rfl : j = n + 1 := by omega
        rw [show (1 + (n : Int)).toNat = n + 1 by omega]
        exact List.lt_irrefl _
    · rename_i e
      by_cases hj : j ≤ n
      · exact ih j hj
      · obtain rfl : j = n + 1 := by omega
        intro k
        apply e
        refine cmpZ_gt ?_
        rw [sl_from _ b.1, sl_from _ (by omega), show (1 + (n : Int)).toNat = n + 1 by omega]
        exact k
end
section
open PySem PySem.W PyProof.Rows PySem.Calls
set_option maxRecDepth 100000
theorem rangeKs_succ (a : Int) (n : Nat) : rangeKs a (n + 1) = rangeKs a n ++ [a + (n : Int)] := by unfold rangeKs; rw [List.range_succ, List.map_append]; rfl
/-- the signs at k and at k + z part -/
def parts (a : Str) (z k : Int) : Bool := decide ((lst a)[k.toNat]? ≠ (lst a)[(k + z).toNat]?)
def nearE (a : Str) (p z : Int) : Bool := ((rangeKs (if p - z > 0 then p - z else 0) ((if (a.length : Int) - z < p then (a.length : Int) - z else p) - (if p - z > 0 then p - z else 0)).toNat).filter (parts a z)).isEmpty
theorem item_at {a : Str} {k : Int} (h0 : 0 ≤ k) (h : k < a.length) : ∃ c, (lst a)[k.toNat]? = some c ∧ Txt.item a k = ⟨#[c]⟩ := by
  obtain ⟨⟨l⟩⟩ := a
  have hl : k.toNat < l.length := by have h : k < (l.length : Int) := h; omega
  refine ⟨l[k.toNat], by show l[k.toNat]? = _; exact List.getElem?_eq_getElem hl, item_meets h0 ?_⟩
  show (⟨l⟩ : Array Nat)[k.toNat]? = _
  rw [Array.getElem?_eq_getElem (by simpa using hl)]
  rfl
theorem parts_item {a : Str} {k z : Int} (h0 : 0 ≤ k) (hz : 0 ≤ z) (h : k + z < a.length) : (Txt.item a k != Txt.item a (k + z)) = parts a z k := by
  obtain ⟨c, hc, e⟩ := item_at (a := a) h0 (by omega)
  obtain ⟨d, hd, e'⟩ := item_at (a := a) (k := k + z) (by omega) h
  unfold parts
  rw [e, e', hc, hd]
  by_cases q : c = d
  · subst q; simp
  · have : (⟨#[c]⟩ : Str) ≠ ⟨#[d]⟩ := fun x => q (by injection x with x; injection x with x; injection x)
    simp [q, this]
theorem filter_snoc (a : Str) (z lo : Int) (j : Nat) (ys : List Value) (v : Value) (t : Tok) (hv : v = .int (lo + (j : Int)) t) (h : IntsAre ys ((rangeKs lo j).filter (parts a z))) (hp : parts a z (lo + (j : Int)) = true) : IntsAre (ys ++ [v]) ((rangeKs lo (j + 1)).filter (parts a z)) := by
  subst hv
  rw [rangeKs_succ, List.filter_append, List.filter_cons_of_pos hp]
  exact h.append (.cons _ _ .nil)
theorem filter_skip (a : Str) (z lo : Int) (j : Nat) (ys : List Value) (h : IntsAre ys ((rangeKs lo j).filter (parts a z))) (hp : parts a z (lo + (j : Int)) = false) : IntsAre ys ((rangeKs lo (j + 1)).filter (parts a z)) := by
  rw [rangeKs_succ, List.filter_append, List.filter_cons_of_neg (by rw [hp]; decide), List.filter_nil, List.append_nil]
  exact h
theorem nearE_last (a : Str) {p : Int} (hp : 0 ≤ p) : nearE a p a.length = true := by
  unfold nearE
  have e : ((if (a.length : Int) - (a.length : Int) < p then (a.length : Int) - (a.length : Int) else p) - (if p - (a.length : Int) > 0 then p - (a.length : Int) else 0)).toNat = 0 := by split <;> split <;> omega
  rw [e]; rfl
theorem isEmpty_dec (l : List Int) : (decide (l = []) : Bool) = l.isEmpty := by cases l <;> simp
end
section
open PySem PySem.W PyProof.Rows PySem.Calls
set_option maxRecDepth 100000
def Signs (sg : Str) : Prop := sg = Str.ofString "abc" ∨ sg = Str.ofString "B_a" ∨ sg = Str.ofString " ~🐍" ∨ sg = Str.ofString "\né†"
theorem Signs.three {sg : Str} (h : Signs sg) : ∃ x y z, lst sg = [x, y, z] ∧ x < y ∧ y < z ∧ x ≠ 46 ∧ y ≠ 46 ∧ z ≠ 46 := by
  rcases h with rfl | rfl | rfl | rfl
  · exact ⟨97, 98, 99, by decide +kernel, by decide⟩
  · exact ⟨66, 95, 97, by decide +kernel, by decide⟩
  · exact ⟨32, 126, 128013, by decide +kernel, by decide⟩
  · exact ⟨10, 233, 8224, by decide +kernel, by decide⟩
theorem Signs.len {sg : Str} (h : Signs sg) : sg.length = 3 := by
  obtain ⟨x, y, z, e, _⟩ := h.three
  rw [← lst_len, e]; rfl
theorem fm3 (x : Int) : 0 ≤ x.fmod 3 ∧ x.fmod 3 < 3 := by
  rw [Int.fmod_eq_emod_of_nonneg _ (by decide)]
  omega
/-- the sign of a number -/
def sgn (sg : Str) (k : Int) : Str := Txt.item sg k
def wholeOf (sg : Str) (cs : List Int) : Str := Txt.join (Str.ofString "") (cs.map fun c => sgn sg (c.fmod 3))
def turnedOf (sg : Str) (cs : List Int) : Str := Txt.join (Str.ofString "") (cs.map fun c => sgn sg (2 - c.fmod 3))
theorem glue_lst (r : List Str) : ∀ acc : Array Nat, (r.foldl (fun (acc : Array Nat) (p : Str) => acc ++ (Str.ofString "").cps ++ p.cps) acc).toList = acc.toList ++ (r.map lst).flatten := by
  rw [empty_eq]
  induction r with
  | nil => intro acc; simp
  | cons a r ih =>
    intro acc
    rw [List.foldl_cons, ih, List.map_cons, List.flatten_cons]
    simp [lst]
theorem join_lst (ss : List Str) : lst (Txt.join (Str.ofString "") ss) = (ss.map lst).flatten := by
  show ((ss.drop 1).foldl (fun (acc : Array Nat) (p : Str) => acc ++ (Str.ofString "").cps ++ p.cps) (ss.headD Str.empty).cps).toList = _
  rw [glue_lst]
  cases ss with
  | nil => rfl
  | cons a r => rfl
/-- the sign's number at a place of the menu -/
def sg3 (x y z : Nat) (k : Int) : Nat := if k = 0 then x else if k = 1 then y else z
theorem sgn_lst {sg : Str} {x y z : Nat} (h : lst sg = [x, y, z]) {k : Int} (h0 : 0 ≤ k) (h3 : k < 3) : lst (sgn sg k) = [sg3 x y z k] := by
  have hl : sg.length = 3 := by rw [← lst_len, h]; rfl
  obtain ⟨c, hc, e⟩ := item_at (a := sg) (k := k) h0 (by omega)
  rw [h] at hc
  unfold sgn
  rw [e]
  show [c] = _
  unfold sg3
  obtain rfl | rfl | rfl : k = 0 ∨ k = 1 ∨ k = 2 := by omega
  · have : c = x := by simpa using hc.symm
    simp [this]
  · have : c = y := by simpa using hc.symm
    simp [this]
  · have : c = z := by simpa using hc.symm
    simp [this]
theorem flat_map1 {α : Type} {f : α → Str} {g : α → Nat} : ∀ {l : List α}, (∀ a ∈ l, lst (f a) = [g a]) → ((l.map f).map lst).flatten = l.map g
  | [], _ => rfl
  | a :: l, h => by
    rw [List.map_cons, List.map_cons, List.flatten_cons, h a (List.mem_cons_self ..), flat_map1 fun b hb => h b (List.mem_cons_of_mem _ hb)]
    rfl
theorem whole_lst {sg : Str} {x y z : Nat} (h : lst sg = [x, y, z]) (cs : List Int) : lst (wholeOf sg cs) = cs.map fun c => sg3 x y z (c.fmod 3) := by
  unfold wholeOf
  rw [join_lst]
  exact flat_map1 fun c _ => sgn_lst h (fm3 c).1 (fm3 c).2
theorem turned_lst {sg : Str} {x y z : Nat} (h : lst sg = [x, y, z]) (cs : List Int) : lst (turnedOf sg cs) = cs.map fun c => sg3 x y z (2 - c.fmod 3) := by
  unfold turnedOf
  rw [join_lst]
  exact flat_map1 fun c _ => sgn_lst h (by have := fm3 c; omega) (by have := fm3 c; omega)
theorem whole_len {sg : Str} (h : Signs sg) (cs : List Int) : (wholeOf sg cs).length = cs.length := by
  obtain ⟨x, y, z, e, _⟩ := h.three
  rw [← lst_len, whole_lst e, List.length_map]
theorem turned_len {sg : Str} (h : Signs sg) (cs : List Int) : (turnedOf sg cs).length = cs.length := by
  obtain ⟨x, y, z, e, _⟩ := h.three
  rw [← lst_len, turned_lst e, List.length_map]
theorem whole_nodot {sg : Str} (h : Signs sg) (cs : List Int) : NoDot (wholeOf sg cs) := by
  obtain ⟨x, y, z, e, _, _, h1, h2, h3⟩ := h.three
  intro c hc
  have hc : c ∈ lst (wholeOf sg cs) := hc
  rw [whole_lst e, List.mem_map] at hc
  obtain ⟨a, _, rfl⟩ := hc
  unfold sg3
  split
  · exact h1
  · split
    · exact h2
    · exact h3
end
section
open PySem PySem.W PyProof.Rows PySem.Calls
set_option maxRecDepth 100000
local macro_rules | `(tactic| walk_at "call ref") => `(tactic| apply stopT)
local macro_rules | `(tactic| walk_at "pyIter ref") => `(tactic| apply stopT)
set_option maxHeartbeats 8000000 in
theorem c_great (w : World) (s₀ : Shared) (mg mb : Str → Option Value) (a : Str) (ta : Tok) :
    Ctr 4 w s₀ mg mb 49 (fun _ => a.length ≤ 8 ∧ 0 < a.length) [.str a ta] (fun t => .int (geK a (a.length - 1)) t) := by
  unfold Ctr; k_fill
  intros; rename_i hret
  rename (a.length ≤ 8 ∧ 0 < a.length) => hp
  obtain ⟨ha8, ha0⟩ := hp
  refine wpAny_call ?_
  k_dflt (refine' code_defE ?k1 ?k2 ?k3 ?k5 ?kA ?kF ?kK ?k6 ?k7 ?k8 ?k9 ?kB ?_ ?c2 ?c3 ?c4 ?c5; (case kA => exact rfl); (case kF => exact rfl); (case kK => assumption); (case k1 => k_asm); (case k2 => k_asm); (case k3 => k_asm); (case k5 => k_asm); (case k6 => k_is); (case k7 => k_is); (case k8 => ktr_room); (case k9 => exact BindsTo.of_eq rfl); (case c5 => decide); (case kB => exact locs rfl); (case c2 => exact rfl); (case c3 => exact rfl); (case c4 => exact rfl); k_whole; intro g' L' h' hg' F' N' B' X' T'; (try dsimp only); (try k_lift B'); (try k_fold))
  k_with_none
  k_steps
  iterate 6 (all_goals first | (unfold Stopped; (first | (k_here; (with_reducible show wpAny _ _ (call (Value.ref _) _) _ _ _); k_dflt (first | (refine' use_ctr (c_strcoll _ _ _ _ _ _ _ _) ?k1 ?k2 ?k3 ?k4 ?k5 ?kK ?kp ?kd ?ku ?_; (case kp => trivial)) | (refine' use_ctr (c_ell _ _ _ _ _ _ _ _) ?k1 ?k2 ?k3 ?k4 ?k5 ?kK ?kp ?kd ?ku ?_; (case kp => refine ⟨?_, ?_, ?_⟩ <;> assumption)) | (refine' use_ctr (c_ellF _ _ _ _ _ _ _ _) ?k1 ?k2 ?k3 ?k4 ?k5 ?kK ?kp ?kd ?ku ?_; (case kp => refine ⟨?_, ?_, ?_, ?_⟩ <;> assumption))); (case k1 => k_asm); (case k2 => k_asm); (case k3 => k_asm); (case k4 => k_asm); (case k5 => k_asm); (case kK => first | exact rfl | assumption); (case kd => ktr_room); (case ku => ktr_units); intro t9 h9 tk9 F9 N9; (try dsimp only); (try k_fold))); (try k_steps)) | skip)
  unfold Stopped
  (rename Fr _ _ _ _ => lF'); (rename News _ _ _ _ => lN'); (rename IsRange _ _ _ _ _ _ _ _ => rgX)
  with_unfolding_all refine' kst_range (σ := Int × Tok) (fun _ => _) (fun c => [(Str.ofString "at", Value.int c.1 c.2)]) (fun _ => True) [Str.ofString "told", Str.ofString "at"] (fun pre c => c.1 = geK a pre.length) (0, _) (by rfl) rgX (small_one (by omega) (by omega) (by omega) (by omega)) (rangeSize_nat _ _) lF' lN' True.intro (by kst_all) rfl ?turn ?done
  case turn =>
    clear lF' lN'
    intro kC kPre kN kT kU kH kTk kOwn kEq kLt kOff kFacts kInv kFr kNews
    have kMark := kstMark
    have kI1 : 0 ≤ kC.1 := by rw [kInv]; exact (geK_bd a _).1
    have kI2 : kC.1 ≤ kPre.length := by rw [kInv]; exact (geK_bd a _).2
    try dsimp only [kstB] at kFr
    (try dsimp only at kNews); (try dsimp only at kInv); (try dsimp only at kOff)
    try simp only [List.nil_append, List.cons_append] at kNews
    try simp only [List.map_cons, List.map_nil] at kOff
    try k_fold
    have kNe := geK_ne (a := a) (n := kPre.length) (by omega)
    rw [← kInv, ← kEq] at kNe
    k_steps
    iterate 6 (all_goals first | (unfold Stopped; (first | (k_here; (with_reducible show wpAny _ _ (call (Value.ref _) _) _ _ _); k_dflt (first | (refine' use_ctr (c_strcoll _ _ _ _ _ _ _ _) ?k1 ?k2 ?k3 ?k4 ?k5 ?kK ?kp ?kd ?ku ?_; (case kp => trivial)) | (refine' use_ctr (c_ell _ _ _ _ _ _ _ _) ?k1 ?k2 ?k3 ?k4 ?k5 ?kK ?kp ?kd ?ku ?_; (case kp => refine ⟨?_, ?_, ?_⟩ <;> assumption)) | (refine' use_ctr (c_ellF _ _ _ _ _ _ _ _) ?k1 ?k2 ?k3 ?k4 ?k5 ?kK ?kp ?kd ?ku ?_; (case kp => refine ⟨?_, ?_, ?_, ?_⟩ <;> assumption))); (case k1 => k_asm); (case k2 => k_asm); (case k3 => k_asm); (case k4 => k_asm); (case k5 => k_asm); (case kK => first | exact rfl | assumption); (case kd => ktr_room); (case ku => ktr_units); intro t9 h9 tk9 F9 N9; (try dsimp only); (try k_fold))); (try k_steps)) | skip)
    iterate 6 (all_goals first | (unfold Stopped; (first | (k_here; (with_reducible show wpAny _ _ (call (Value.ref _) _) _ _ _); k_dflt (first | (refine' use_ctr (c_strcoll _ _ _ _ _ _ _ _) ?k1 ?k2 ?k3 ?k4 ?k5 ?kK ?kp ?kd ?ku ?_; (case kp => trivial)) | (refine' use_ctr (c_ell _ _ _ _ _ _ _ _) ?k1 ?k2 ?k3 ?k4 ?k5 ?kK ?kp ?kd ?ku ?_; (case kp => refine ⟨?_, ?_, ?_⟩ <;> assumption)) | (refine' use_ctr (c_ellF _ _ _ _ _ _ _ _) ?k1 ?k2 ?k3 ?k4 ?k5 ?kK ?kp ?kd ?ku ?_; (case kp => refine ⟨?_, ?_, ?_, ?_⟩ <;> assumption))); (case k1 => k_asm); (case k2 => k_asm); (case k3 => k_asm); (case k4 => k_asm); (case k5 => k_asm); (case kK => first | exact rfl | assumption); (case kd => ktr_room); (case ku => ktr_units); intro t9 h9 tk9 F9 N9; (try dsimp only); (try k_fold))); (try k_steps)) | skip)
    all_goals first
      | (unfold KeptR; intro hkk; exfalso; first | (rcases kNe with e | e <;> simp [e] at * <;> done) | (rename _ ≠ _ => hne; exact hne (cmpZ_anti _ _)))
      | ((rename News _ _ _ _ => nE'); (refine kst_end (_, _) (by assumption) nE' (by kst_in) (by intro p hp; kst_mem) (by rfl) True.intro (by kst_all) (by kst_same) ?_)
         dsimp only; rw [List.length_append]; show _ = geK a (kPre.length + 1); unfold geK; rw [← kInv, ← kEq]
         first | (rw [if_pos (by assumption)]; done) | (rw [if_neg (by assumption)]; exact kInv) | (rw [if_neg (by assumption)]; done))
  case done =>
    clear lF' lN'
    intro kC kU kH kTk kFacts kInv kFr kNews
    try dsimp only [kstB] at kFr
    (try dsimp only at kNews)
    try k_fold
    k_steps
    iterate 6 (all_goals first | (unfold Stopped; (first | (k_here; (with_reducible show wpAny _ _ (call (Value.ref _) _) _ _ _); k_dflt (first | (refine' use_ctr (c_strcoll _ _ _ _ _ _ _ _) ?k1 ?k2 ?k3 ?k4 ?k5 ?kK ?kp ?kd ?ku ?_; (case kp => trivial)) | (refine' use_ctr (c_ell _ _ _ _ _ _ _ _) ?k1 ?k2 ?k3 ?k4 ?k5 ?kK ?kp ?kd ?ku ?_; (case kp => refine ⟨?_, ?_, ?_⟩ <;> assumption)) | (refine' use_ctr (c_ellF _ _ _ _ _ _ _ _) ?k1 ?k2 ?k3 ?k4 ?k5 ?kK ?kp ?kd ?ku ?_; (case kp => refine ⟨?_, ?_, ?_, ?_⟩ <;> assumption))); (case k1 => k_asm); (case k2 => k_asm); (case k3 => k_asm); (case k4 => k_asm); (case k5 => k_asm); (case kK => first | exact rfl | assumption); (case kd => ktr_room); (case ku => ktr_units); intro t9 h9 tk9 F9 N9; (try dsimp only); (try k_fold))); (try k_steps)) | skip)
    (unfold KeptR; intro hkk; dsimp only at hkk ⊢; refine kept_retI (by assumption) hret ?_ hkk)
    rw [kInv, rangeKs_len]
    congr 1
    omega
end
section
open PySem PySem.W PyProof.Rows PySem.Calls
set_option maxRecDepth 100000
local macro_rules | `(tactic| walk_at "exec For Name Call cons nil") => `(tactic| apply stopT)
local macro_rules | `(tactic| walk_at "pyIter ref") => `(tactic| apply stopT)
local macro_rules | `(tactic| walk_at "eval ListComp") => `(tactic| apply stopT)
set_option maxHeartbeats 8000000 in
theorem c_near (w : World) (s₀ : Shared) (mg mb : Str → Option Value) (a : Str) (i : Int) (ta tb : Tok) :
    CtrG 5 w s₀ mg mb 75 (fun _ => a.length ≤ 8 ∧ 0 < a.length ∧ 0 ≤ i ∧ i ≤ a.length) [.str a ta, .int i tb] (fun t => .int (firstK (nearE a i) a.length) t) := by
  unfold CtrG; k_fill
  intros; rename_i hret
  rename (a.length ≤ 8 ∧ 0 < a.length ∧ 0 ≤ i ∧ i ≤ a.length) => hp
  obtain ⟨ha8, ha0, hi0, hi8⟩ := hp
  refine wpAny_call ?_
  k_dflt (refine' code_defCE ?k1 ?k2 ?k3 ?k5 ?kA ?kF ?kK ?k6 ?k7 ?k8 ?k9 ?kB ?kD ?_ ?c2 ?c3 ?c4; (case kA => exact rfl); (case kF => exact rfl); (case kK => assumption); (case k1 => k_asm); (case k2 => k_asm); (case k3 => k_asm); (case k5 => k_asm); (case k6 => k_is); (case k7 => k_is); (case k8 => ktr_room); (case k9 => exact BindsTo.of_eq rfl); (case kB => exact rfl); (case kD => decide); (case c2 => exact rfl); (case c3 => exact rfl); (case c4 => exact rfl); k_whole; intro g' L' h' tk' cs' hg' F' N' X0' B' X' T'; (obtain ⟨oS, oT, hcs, eS, eT⟩ := CellsAre.two X0'); (subst hcs); (try dsimp only); (try k_lift B'); (try k_fold))
  k_with_none
  clear X0'
  replace eT : oT.data = .cell (some (.str a ta)) := eT
  replace eS : oS.data = .cell none := eS
  replace F' : Fr g' L' h' (fun y => if y = Str.ofString "place" then some (.int i tb) else none) := F'
  k_steps
  unfold Stopped
  refine wpAny_For (hs := fun _ => rfl) ?_
  k_steps
  unfold Stopped
  (rename Fr _ _ _ _ => lF'); (rename News _ _ _ _ => lN'); (rename IsRange _ _ _ _ _ _ _ _ => rgX)
  refine for_range_J (fun k m nw => m (Str.ofString "place") = some (.int i tb) ∧ ∃ oS oT, nw = [(L' + 1 + 1, oS), (L' + 1, oT)] ∧ oT.data = .cell (some (.str a ta)) ∧ (∃ v, oS.data = .cell v) ∧ ∀ j : Nat, j < k → nearE a i (1 + (j : Int)) = false) rfl rgX (small_one (by omega) (by omega) (by omega) (by omega)) (rangeSize_nat _ _) lF' lN' ⟨rfl, oS, oT, rfl, eT, ⟨_, eS⟩, fun j hj => absurd hj (Nat.not_lt_zero j)⟩ ?turn ?done
  case turn =>
    clear lF' lN' eT eS rgX
    rintro I k v m₁ nw oI h tk gens E' hk ⟨t, rfl⟩ ⟨hmp, oS, oT, rfl, eT, ⟨vS, eS⟩, hno⟩ _ hb F' N' off
    refine go_name ?_
    have e : m₁ = fun y => if y = Str.ofString "place" then some (.int i tb) else m₁ y := by
      funext y
      by_cases h1 : y = Str.ofString "place"
      · rw [if_pos h1, h1, hmp]
      · rw [if_neg h1]
    rw [e] at F'
    clear e
    have off1 : @Ne Nat (L' + 1 + 1) I := off (L' + 1 + 1, oS) (by simp)
    have off2 : @Ne Nat (L' + 1) I := off (L' + 1, oT) (by simp)
    clear off
    dsimp only at hb ⊢
    k_steps
    unfold Stopped
    refine lc_eval (by with_unfolding_all rfl) rfl (by decide) ?_ (fun _ => rfl)
    k_steps
    unfold Stopped
    (rename Fr _ _ _ _ => lF'); (rename News _ _ _ _ => lN'); (rename IsRange _ _ _ _ _ _ _ _ => rgX)
    have hlo : 0 ≤ (if i - (1 + (k : Int)) > 0 then i - (1 + (k : Int)) else 0) ∧ (if i - (1 + (k : Int)) > 0 then i - (1 + (k : Int)) else 0) ≤ 8 := by split <;> omega
    have hhi : -20 ≤ (if (a.length : Int) - (1 + (k : Int)) < i then (a.length : Int) - (1 + (k : Int)) else i) ∧ (if (a.length : Int) - (1 + (k : Int)) < i then (a.length : Int) - (1 + (k : Int)) else i) ≤ 8 ∧ (if (a.length : Int) - (1 + (k : Int)) < i then (a.length : Int) - (1 + (k : Int)) else i) ≤ i ∧ (if (a.length : Int) - (1 + (k : Int)) < i then (a.length : Int) - (1 + (k : Int)) else i) ≤ (a.length : Int) - (1 + (k : Int)) := by split <;> omega
    have hne : nearE a i (1 + (k : Int)) = ((rangeKs (if i - (1 + (k : Int)) > 0 then i - (1 + (k : Int)) else 0) ((if (a.length : Int) - (1 + (k : Int)) < i then (a.length : Int) - (1 + (k : Int)) else i) - (if i - (1 + (k : Int)) > 0 then i - (1 + (k : Int)) else 0)).toNat).filter (parts a (1 + (k : Int)))).isEmpty := rfl
    generalize (if i - (1 + (k : Int)) > 0 then i - (1 + (k : Int)) else 0) = lo at *
    generalize (if (a.length : Int) - (1 + (k : Int)) < i then (a.length : Int) - (1 + (k : Int)) else i) = hi at *
    obtain ⟨hlo0, hlo8⟩ := hlo
    obtain ⟨hhi0, hhi8, hhii, hhin⟩ := hhi
    refine iter_range_J (h₀ := g') (L := L') (fun j ys nw => nw = [] ∧ IntsAre ys ((rangeKs lo j).filter (parts a (1 + (k : Int))))) rfl rgX (small_one (by omega) (by omega) (by omega) (by omega)) (rangeSize_nat _ _) (Nat.le_trans (m := 30) (by omega) (by decide)) (by decide) rfl rfl lF' lN' ⟨rfl, .nil⟩ ?len ?cturn ?cdone
    case len => 
      rintro j ys nw ⟨_, h2⟩
      rw [h2.length]
      exact Nat.le_trans (List.length_filter_le _ _) (Nat.le_of_eq (rangeKs_len _ _))
    case cturn =>
      clear lF' lN' rgX
      rintro I2 j v ys nw oI2 oC C D m₂ h2 tk2 gens2 E2 hj ⟨t2, rfl⟩ ⟨rfl, hys⟩ hb2 hoC hm2 F2 N2 offs ne2
      simp only [List.nil_append] at N2 offs ⊢
      simp only [LCg.Off3, and_true] at offs
      refine wpAny_tests_one ?_
      have hjh : lo + (j : Int) < hi := by clear offs ne2; omega
      dsimp only at hb2 ⊢
      k_steps
      all_goals (rename_i hq)
      all_goals (rw [parts_item (by omega) (by omega) (by omega)] at hq)
      all_goals first
        | exact CEnd.intro [] hb2 F2 N2 (by simp only [List.nil_append]; kst_in) trivial ⟨rfl, filter_snoc _ _ _ _ _ _ _ rfl hys hq⟩
        | exact CEnd.intro [] hb2 F2 N2 (by simp only [List.nil_append]; kst_in) trivial ⟨rfl, filter_skip _ _ _ _ _ hys hq⟩
    case cdone =>
      clear lF' lN' rgX
      rintro D oC C m' ys nw h2 tk2 gens2 hb2 F9 N9 hoC hCD offs ⟨rfl, hys⟩
      clear F9 N9
      dsimp only
      intro h3 F2 N2
      simp only [List.nil_append] at N2 offs
      dsimp only at hb2 ⊢
      k_steps
      · dsimp only [FEnd]
        k_steps
        unfold KeptR; intro hkk; dsimp only at hkk ⊢; refine kept_retIG (by assumption) hret ?_ (fun q => hb2 (hb q)) hkk
        symm; refine firstK_eq hno ?_ (by omega)
        rw [hne, ← isEmpty_dec]; assumption
      · (rename Fr _ _ _ _ => fE); (rename News _ _ _ _ => nE)
        refine FEnd.next [(L' + 1 + 1, _), (L' + 1, oT)] (fun q => hb2 (hb q)) fE nE (fun p hp => List.mem_cons_of_mem _ (List.mem_cons_of_mem _ hp)) rfl ⟨if_pos rfl, _, _, rfl, eT, ⟨_, by assumption⟩, fun j hj => ?_⟩
        by_cases hjk : j < k
        · exact hno j hjk
        · obtain rfl : j = k := by omega
          rw [hne, ← isEmpty_dec]; assumption
  case done =>
    clear lF' lN' eT eS rgX
    rintro m' nw h tk gens _ _ _ _ ⟨_, oS, oT, _, _, _, hno⟩
    exfalso
    have z := hno (a.length - 1) (by omega)
    rw [show (1 + ((a.length - 1 : Nat) : Int)) = (a.length : Int) from by omega, nearE_last a hi0] at z
    cases z
end
section
open PySem PySem.W PyProof.Rows PySem.Calls
set_option maxRecDepth 100000
local macro_rules | `(tactic| walk_at "exec For Name Call cons nil") => `(tactic| apply stopT)
local macro_rules | `(tactic| walk_at "call ref") => `(tactic| apply stopT)
theorem map2 {x a b : Str} {v : Option Value} {va vb : Value} {m : Str → Option Value} (ha : m a = some va) (hb : m b = some vb) :
    (fun y => if y = x then v else m y) = fun y => if y = x then v else if y = a then some va else if y = b then some vb else m y := by
  funext y
  by_cases h1 : y = x
  · rw [if_pos h1, if_pos h1]
  · rw [if_neg h1, if_neg h1]
    by_cases h2 : y = a
    · rw [if_pos h2, h2, ha]
    · rw [if_neg h2]
      by_cases h3 : y = b
      · rw [if_pos h3, h3, hb]
      · rw [if_neg h3]
/-- does what is left fall into words like the last one -/
def fall (last : Str) (z : Int) : Nat → Str → Bool
  | 0, _ => false
  | k + 1, rest => if (rest.length : Int) < z then Txt.endswith last rest else if cmpZ (Txt.slice rest (some (-z)) none) last = 0 then fall last z k (Txt.slice rest none (some (-z))) else false
set_option maxHeartbeats 8000000 in
theorem c_falls (w : World) (s₀ : Shared) (mg mb : Str → Option Value) (a : Str) (z : Int) (ta tb : Tok) :
    CtrG 5 w s₀ mg mb 56 (fun _ => a.length ≤ 8 ∧ 0 < z ∧ z ≤ a.length ∧ NoDot a) [.str a ta, .int z tb] (fun _ => .bool (fall (Txt.slice a (some (-z)) none) z 9 a)) := by
  unfold CtrG; k_fill
  intros; rename_i hret
  rename Shared => sB
  rename (a.length ≤ 8 ∧ 0 < z ∧ z ≤ a.length ∧ NoDot a) => hp
  obtain ⟨ha8, hz0, hz8, had⟩ := hp
  refine wpAny_call ?_
  k_dflt (refine' code_defE ?k1 ?k2 ?k3 ?k5 ?kA ?kF ?kK ?k6 ?k7 ?k8 ?k9 ?kB ?_ ?c2 ?c3 ?c4 ?c5; (case kA => exact rfl); (case kF => exact rfl); (case kK => assumption); (case k1 => k_asm); (case k2 => k_asm); (case k3 => k_asm); (case k5 => k_asm); (case k6 => k_is); (case k7 => k_is); (case k8 => ktr_room); (case k9 => exact BindsTo.of_eq rfl); (case c5 => decide); (case kB => exact locs rfl); (case c2 => exact rfl); (case c3 => exact rfl); (case c4 => exact rfl); k_whole; intro g' L' h' hg' F' N' B' X' T'; (try dsimp only); (try k_lift B'); (try k_fold))
  k_with_none
  k_steps
  iterate 6 (all_goals first | (unfold Stopped; (first | (k_here; (with_reducible show wpAny _ _ (call (Value.ref _) _) _ _ _); k_dflt (first | (refine' use_ctr (c_strcoll _ _ _ _ _ _ _ _) ?k1 ?k2 ?k3 ?k4 ?k5 ?kK ?kp ?kd ?ku ?_; (case kp => trivial)) | (refine' use_ctr (c_ell _ _ _ _ _ _ _ _) ?k1 ?k2 ?k3 ?k4 ?k5 ?kK ?kp ?kd ?ku ?_; (case kp => refine ⟨?_, ?_, ?_⟩ <;> assumption)) | (refine' use_ctr (c_ellF _ _ _ _ _ _ _ _) ?k1 ?k2 ?k3 ?k4 ?k5 ?kK ?kp ?kd ?ku ?_; (case kp => refine ⟨?_, ?_, ?_, ?_⟩ <;> assumption))); (case k1 => k_asm); (case k2 => k_asm); (case k3 => k_asm); (case k4 => k_asm); (case k5 => k_asm); (case kK => first | exact rfl | assumption); (case kd => ktr_room); (case ku => ktr_units); intro t9 h9 tk9 F9 N9; (try dsimp only); (try k_fold))); (try k_steps)) | skip)
  unfold Stopped
  refine wpAny_For (hs := fun _ => rfl) ?_
  k_steps
  iterate 6 (all_goals first | (unfold Stopped; (first | (k_here; (with_reducible show wpAny _ _ (call (Value.ref _) _) _ _ _); k_dflt (first | (refine' use_ctr (c_strcoll _ _ _ _ _ _ _ _) ?k1 ?k2 ?k3 ?k4 ?k5 ?kK ?kp ?kd ?ku ?_; (case kp => trivial)) | (refine' use_ctr (c_ell _ _ _ _ _ _ _ _) ?k1 ?k2 ?k3 ?k4 ?k5 ?kK ?kp ?kd ?ku ?_; (case kp => refine ⟨?_, ?_, ?_⟩ <;> assumption)) | (refine' use_ctr (c_ellF _ _ _ _ _ _ _ _) ?k1 ?k2 ?k3 ?k4 ?k5 ?kK ?kp ?kd ?ku ?_; (case kp => refine ⟨?_, ?_, ?_, ?_⟩ <;> assumption))); (case k1 => k_asm); (case k2 => k_asm); (case k3 => k_asm); (case k4 => k_asm); (case k5 => k_asm); (case kK => first | exact rfl | assumption); (case kd => ktr_room); (case ku => ktr_units); intro t9 h9 tk9 F9 N9; (try dsimp only); (try k_fold))); (try k_steps)) | skip)
  refine wpAny_call ?_
  (rename Fr _ _ _ _ => lF'); (rename News _ _ _ _ => lN'); (rename Top _ _ _ _ _ _ => lT'); (rename Frag.In _ _ => lX')
  refine' code_gen lF' lX' lT' ?k6 ?k7 ?k8 ?k9 ?kB ?_ ?c2 ?c3 ?c4 ?c5
  case k6 => k_is
  case k7 => k_is
  case k8 => ktr_room
  case k9 => exact BindsTo.of_eq rfl
  case kB => exact locs rfl
  case c5 => decide
  case c2 => exact rfl
  case c3 => exact rfl
  case c4 => exact rfl
  intro C h₂ tk₂ ob hC hn₂ hs₂ hcls hdata hslots hfr
  dsimp only at hC hn₂ hs₂ hdata ⊢
  obtain ⟨cv, hcv, hrd⟩ := lT'.const kMax (.int 127) (by kernel_rfl)
  obtain ⟨tc, rfl⟩ : ∃ tc, cv = .int 127 tc := by
    have := hrd g'
    cases this
    exact ⟨_, rfl⟩
  generalize hGS : GenState.fresh _ = gs0
  have made := gen_made (prog := PySem.Challenge.rw_pk0040_01.row.prog) (w := w) hGS lF' lN' (by k_mem) lT'.g hcv (by omega) (by omega) ⟨rfl, rfl, rfl, rfl, rfl, rfl, rfl, rfl⟩ hC hn₂ rfl hs₂ hcls hdata hslots hfr
  obtain ⟨oC, gF, gN, gI, gOff, gaC, gCL, gK, gS⟩ := made
  clear hGS hn₂ hs₂ hdata
  refine wpAny_pyIter_gen gI ?_
  have gN' : News _ _ _ [(h₂.objs.size, ob), (C, oC), _] := fun p hp => gN p (by
    rcases List.mem_cons.mp hp with rfl | hp
    · exact List.mem_cons_self ..
    · rcases List.mem_cons.mp hp with rfl | hp
      · exact List.mem_cons_of_mem _ (List.mem_cons_self ..)
      · obtain rfl := List.mem_singleton.mp hp
        exact List.mem_cons_of_mem _ (List.mem_cons_of_mem _ (List.mem_cons_self ..)))
  refine for_gen (fun k m => ∃ rest tr tl, m (Str.ofString "rest") = some (.str rest tr) ∧ m (Str.ofString "last") = some (.str (Txt.slice a (some (-z)) none) tl) ∧ rest.length < k ∧ NoDot rest ∧ rest.length ≤ 8 ∧
      fall (Txt.slice a (some (-z)) none) z k rest = fall (Txt.slice a (some (-z)) none) z 9 a) (k₀ := 9) rfl lT'.nolimit ?room rfl rfl rfl gF gN' gI (by simp) (gS _ 18) gaC gCL hcls ?J0 (by omega) ?step
  case room => ktr_room
  case J0 => exact ⟨a, _, _, rfl, rfl, by omega, had, ha8, rfl⟩
  case step =>
    rintro k m₁ t h tk gens P ⟨rest, tr, tl, hm1, hm2, hlen, hnd, h8, hfall⟩ hb F9 N9
    have hb0 : AllBare sB.gens → AllBare gens := fun q => hb (bare_push (gS callerA 0).1 q)
    clear gF gN gN' gI gS lF' gOff gaC gCL gK hcv hrd hfr hslots hcls hC lN' hb
    rw [map2 hm1 hm2] at F9
    have f1 : rest.length ≤ 1000 := by omega
    have f2 : (Txt.slice a (some (-z)) none).length ≤ 1000 := le_slice (by omega)
    obtain ⟨k, rfl⟩ : ∃ i, k = i + 1 := ⟨k - 1, by omega⟩
    k_steps
    iterate 6 (all_goals first | (unfold Stopped; (first | (k_here; (with_reducible show wpAny _ _ (call (Value.ref _) _) _ _ _); k_dflt (first | (refine' use_ctr (c_strcoll _ _ _ _ _ _ _ _) ?k1 ?k2 ?k3 ?k4 ?k5 ?kK ?kp ?kd ?ku ?_; (case kp => trivial)) | (refine' use_ctr (c_ell _ _ _ _ _ _ _ _) ?k1 ?k2 ?k3 ?k4 ?k5 ?kK ?kp ?kd ?ku ?_; (case kp => refine ⟨?_, ?_, ?_⟩ <;> assumption)) | (refine' use_ctr (c_ellF _ _ _ _ _ _ _ _) ?k1 ?k2 ?k3 ?k4 ?k5 ?kK ?kp ?kd ?ku ?_; (case kp => refine ⟨?_, ?_, ?_, ?_⟩ <;> assumption))); (case k1 => k_asm); (case k2 => k_asm); (case k3 => k_asm); (case k4 => k_asm); (case k5 => k_asm); (case kK => first | exact rfl | assumption); (case kd => ktr_room); (case ku => ktr_units); intro t9 h9 tk9 F9 N9; (try dsimp only); (try k_fold))); (try k_steps)) | skip)
    iterate 6 (all_goals first | (unfold Stopped; (first | (k_here; (with_reducible show wpAny _ _ (call (Value.ref _) _) _ _ _); k_dflt (first | (refine' use_ctr (c_strcoll _ _ _ _ _ _ _ _) ?k1 ?k2 ?k3 ?k4 ?k5 ?kK ?kp ?kd ?ku ?_; (case kp => trivial)) | (refine' use_ctr (c_ell _ _ _ _ _ _ _ _) ?k1 ?k2 ?k3 ?k4 ?k5 ?kK ?kp ?kd ?ku ?_; (case kp => refine ⟨?_, ?_, ?_⟩ <;> assumption)) | (refine' use_ctr (c_ellF _ _ _ _ _ _ _ _) ?k1 ?k2 ?k3 ?k4 ?k5 ?kK ?kp ?kd ?ku ?_; (case kp => refine ⟨?_, ?_, ?_, ?_⟩ <;> assumption))); (case k1 => k_asm); (case k2 => k_asm); (case k3 => k_asm); (case k4 => k_asm); (case k5 => k_asm); (case kK => first | exact rfl | assumption); (case kd => ktr_room); (case ku => ktr_units); intro t9 h9 tk9 F9 N9; (try dsimp only); (try k_fold))); (try k_steps)) | skip)
    all_goals first
      | ((rename News _ _ _ _ => nE'); refine GTurn.next (by assumption) nE' k (by kst_in) ⟨_, _, _, rfl, rfl, ?_, hnd.slice _ _, ?_, ?_⟩ (by omega)
         · rw [← lst_len, sl_to_neg _ hz0 (by omega), List.length_take, lst_len]; omega
         · exact le_slice h8
         · rw [← hfall]; show _ = (if _ then _ else (if _ then _ else _)); rw [if_neg (by assumption), if_pos (by first | assumption | omega)])
      | (dsimp only [GTurn]; k_steps; (unfold KeptR; intro hkk; dsimp only at hkk ⊢; refine kept_retBG (by assumption) hret ?_ hb0 hkk)
         rw [← hfall]; show _ = (if _ then _ else (if _ then _ else _))
         first | (rw [if_pos (by assumption)]; done) | (rw [if_neg (by assumption), if_neg (by assumption)]; done))
end
section
open PySem PySem.W PyProof.Rows PySem.Calls
set_option maxRecDepth 100000
local macro_rules | `(tactic| walk_at "call ref") => `(tactic| apply stopT)
local macro_rules | `(tactic| walk_at "exec For Name Call cons nil") => `(tactic| apply stopT)
local macro_rules | `(tactic| walk_at "exec Assign cons IfExp") => `(tactic| apply stopT)
local macro_rules | `(tactic| walk_at "pyIter ref") => `(tactic| apply stopT)
theorem map4 {a b c d : Str} {va vb vc vd : Value} {m : Str → Option Value} (ha : m a = some va) (hb : m b = some vb) (hc : m c = some vc) (hd : m d = some vd) :
    m = fun y => if y = a then some va else if y = b then some vb else if y = c then some vc else if y = d then some vd else m y := by
  funext y
  by_cases h1 : y = a
  · rw [if_pos h1, h1, ha]
  · rw [if_neg h1]
    by_cases h2 : y = b
    · rw [if_pos h2, h2, hb]
    · rw [if_neg h2]
      by_cases h3 : y = c
      · rw [if_pos h3, h3, hc]
      · rw [if_neg h3]
        by_cases h4 : y = d
        · rw [if_pos h4, h4, hd]
        · rw [if_neg h4]
/-- what the loop of sizes knows -/
def SInv (a : Str) (i : Int) (ta tb : Tok) (f : Int → Bool) (k : Nat) (m : Str → Option Value) (nw : List (Addr × Obj)) : Prop :=
  nw = [] ∧ m (Str.ofString "text") = some (.str a ta) ∧ m (Str.ofString "place") = some (.int i tb) ∧ (∃ t, m (Str.ofString "ahead") = some (.str (Txt.slice a none (some i)) t)) ∧ (∃ t, m (Str.ofString "behind") = some (.str (Txt.slice a (some i) none) t)) ∧ ∀ j : Nat, j < k → f (1 + (j : Int)) = false
theorem SInv.more {a : Str} {i : Int} {ta tb : Tok} {f : Int → Bool} {k : Nat} {m m' : Str → Option Value} (h : SInv a i ta tb f k m []) (h1 : m' (Str.ofString "text") = m (Str.ofString "text")) (h2 : m' (Str.ofString "place") = m (Str.ofString "place")) (h3 : m' (Str.ofString "ahead") = m (Str.ofString "ahead")) (h4 : m' (Str.ofString "behind") = m (Str.ofString "behind")) (hf : f (1 + (k : Int)) = false) : SInv a i ta tb f (k + 1) m' [] := by
  obtain ⟨_, a1, a2, a3, a4, a5⟩ := h
  refine ⟨rfl, h1.trans a1, h2.trans a2, ?_, ?_, fun j hj => ?_⟩
  · obtain ⟨t, e⟩ := a3; exact ⟨t, h3.trans e⟩
  · obtain ⟨t, e⟩ := a4; exact ⟨t, h4.trans e⟩
  · by_cases hjk : j < k
    · exact a5 j hjk
    · obtain rfl : j = k := by omega
      exact hf
theorem told_pos {a : Str} {i k : Int} {b : Bool} (h : k ≤ i) (e : Txt.endswith (Txt.slice a none (some i)) (Txt.slice (Txt.slice a (some i) none) none (some k) ++ Txt.slice (Txt.slice a none (some i)) (some ((a.length : Int) - k)) none) = b) : toldE a i k = b := by
  unfold toldE wordE; rw [if_pos h]; exact e
theorem told_neg {a : Str} {i k : Int} {b : Bool} (h : ¬ k ≤ i) (e : Txt.endswith (Txt.slice (Txt.slice a (some i) none) none (some k) ++ Txt.slice (Txt.slice a none (some i)) (some ((a.length : Int) - k)) none) (Txt.slice a none (some i)) = b) : toldE a i k = b := by
  unfold toldE wordE; rw [if_neg h]; exact e
theorem contraB {b : Bool} (h1 : (b != false) = true) (h2 : (b == true) = false) : False := by cases b <;> simp at h1 h2
set_option maxHeartbeats 8000000 in
theorem c_byEnds (w : World) (s₀ : Shared) (mg mb : Str → Option Value) (a : Str) (i : Int) (ta tb : Tok) :
    CtrG 5 w s₀ mg mb 63 (fun _ => a.length ≤ 8 ∧ 0 < a.length ∧ NoDot a ∧ 0 ≤ i ∧ i ≤ a.length) [.str a ta, .int i tb] (fun t => .int (firstK (toldE a i) a.length) t) := by
  unfold CtrG; k_fill
  intros; rename_i hret
  rename (a.length ≤ 8 ∧ 0 < a.length ∧ NoDot a ∧ 0 ≤ i ∧ i ≤ a.length) => hp
  obtain ⟨ha8, ha0, had, hi0, hi8⟩ := hp
  refine wpAny_call ?_
  k_dflt (refine' code_defE ?k1 ?k2 ?k3 ?k5 ?kA ?kF ?kK ?k6 ?k7 ?k8 ?k9 ?kB ?_ ?c2 ?c3 ?c4 ?c5; (case kA => exact rfl); (case kF => exact rfl); (case kK => assumption); (case k1 => k_asm); (case k2 => k_asm); (case k3 => k_asm); (case k5 => k_asm); (case k6 => k_is); (case k7 => k_is); (case k8 => ktr_room); (case k9 => exact BindsTo.of_eq rfl); (case c5 => decide); (case kB => exact locs rfl); (case c2 => exact rfl); (case c3 => exact rfl); (case c4 => exact rfl); k_whole; intro g' L' h' hg' F' N' B' X' T'; (try dsimp only); (try k_lift B'); (try k_fold))
  k_with_none
  k_steps
  iterate 6 (all_goals first | (unfold Stopped; (first | (k_here; (with_reducible show wpAny _ _ (call (Value.ref _) _) _ _ _); k_dflt (first | (refine' use_ctr (c_strcoll _ _ _ _ _ _ _ _) ?k1 ?k2 ?k3 ?k4 ?k5 ?kK ?kp ?kd ?ku ?_; (case kp => trivial)) | (refine' use_ctr (c_ell _ _ _ _ _ _ _ _) ?k1 ?k2 ?k3 ?k4 ?k5 ?kK ?kp ?kd ?ku ?_; (case kp => refine ⟨?_, ?_, ?_⟩ <;> assumption)) | (refine' use_ctr (c_ellF _ _ _ _ _ _ _ _) ?k1 ?k2 ?k3 ?k4 ?k5 ?kK ?kp ?kd ?ku ?_; (case kp => refine ⟨?_, ?_, ?_, ?_⟩ <;> assumption))); (case k1 => k_asm); (case k2 => k_asm); (case k3 => k_asm); (case k4 => k_asm); (case k5 => k_asm); (case kK => first | exact rfl | assumption); (case kd => ktr_room); (case ku => ktr_units); intro t9 h9 tk9 F9 N9; (try dsimp only); (try k_fold))); (try k_steps)) | skip)
  unfold Stopped
  refine wpAny_For (hs := fun _ => rfl) ?_
  k_steps
  iterate 6 (all_goals first | (unfold Stopped; (first | (k_here; (with_reducible show wpAny _ _ (call (Value.ref _) _) _ _ _); k_dflt (first | (refine' use_ctr (c_strcoll _ _ _ _ _ _ _ _) ?k1 ?k2 ?k3 ?k4 ?k5 ?kK ?kp ?kd ?ku ?_; (case kp => trivial)) | (refine' use_ctr (c_ell _ _ _ _ _ _ _ _) ?k1 ?k2 ?k3 ?k4 ?k5 ?kK ?kp ?kd ?ku ?_; (case kp => refine ⟨?_, ?_, ?_⟩ <;> assumption)) | (refine' use_ctr (c_ellF _ _ _ _ _ _ _ _) ?k1 ?k2 ?k3 ?k4 ?k5 ?kK ?kp ?kd ?ku ?_; (case kp => refine ⟨?_, ?_, ?_, ?_⟩ <;> assumption))); (case k1 => k_asm); (case k2 => k_asm); (case k3 => k_asm); (case k4 => k_asm); (case k5 => k_asm); (case kK => first | exact rfl | assumption); (case kd => ktr_room); (case ku => ktr_units); intro t9 h9 tk9 F9 N9; (try dsimp only); (try k_fold))); (try k_steps)) | skip)
  unfold Stopped
  (rename Fr _ _ _ _ => lF'); (rename News _ _ _ _ => lN'); (rename IsRange _ _ _ _ _ _ _ _ => rgX)
  refine for_range_J (SInv a i ta tb (toldE a i)) rfl rgX (small_one (by omega) (by omega) (by omega) (by omega)) (rangeSize_nat _ _) lF' News.nil ⟨rfl, rfl, rfl, ⟨_, rfl⟩, ⟨_, rfl⟩, fun j hj => absurd hj (Nat.not_lt_zero j)⟩ ?turn ?done
  case turn =>
    clear lF' lN' rgX
    rintro I k v m₁ nw oI h tk gens E' hk ⟨t, rfl⟩ hinv _ hb F' N' _
    have hinv' := hinv
    obtain ⟨rfl, m1, m2, ⟨t3, m3⟩, ⟨t4, m4⟩, hno⟩ := hinv
    refine go_name ?_
    rw [map4 m1 m2 m3 m4] at F'
    have hto : toldE a i (1 + (k : Int)) = if 1 + (k : Int) ≤ i then Txt.endswith (Txt.slice a none (some i)) (wordE a i (1 + (k : Int))) else Txt.endswith (wordE a i (1 + (k : Int))) (Txt.slice a none (some i)) := rfl
    have f1 : (Txt.slice a none (some i)).length ≤ 1000 := le_slice (by omega)
    have f2 : (wordE a i (1 + (k : Int))).length ≤ 1000 := le_app (le_slice (le_slice (by omega))) (le_slice (le_slice (by omega)))
    have f3 : NoDot (Txt.slice a none (some i)) := had.slice _ _
    have f4 : NoDot (wordE a i (1 + (k : Int))) := ((had.slice _ _).slice _ _).app ((had.slice _ _).slice _ _)
    have f5 : (Txt.slice a (some i) none).length ≤ 1000 := le_slice (by omega)
    unfold wordE at hto f2 f4
    generalize Txt.slice a none (some i) = ah at F' m3 hto f1 f2 f3 f4
    generalize Txt.slice a (some i) none = bh at F' m4 hto f2 f4 f5
    dsimp only at hb ⊢
    k_steps
    iterate 6 (all_goals first | (unfold Stopped; (first | (k_here; (with_reducible show wpAny _ _ (call (Value.ref _) _) _ _ _); k_dflt (first | (refine' use_ctr (c_strcoll _ _ _ _ _ _ _ _) ?k1 ?k2 ?k3 ?k4 ?k5 ?kK ?kp ?kd ?ku ?_; (case kp => trivial)) | (refine' use_ctr (c_ell _ _ _ _ _ _ _ _) ?k1 ?k2 ?k3 ?k4 ?k5 ?kK ?kp ?kd ?ku ?_; (case kp => refine ⟨?_, ?_, ?_⟩ <;> assumption)) | (refine' use_ctr (c_ellF _ _ _ _ _ _ _ _) ?k1 ?k2 ?k3 ?k4 ?k5 ?kK ?kp ?kd ?ku ?_; (case kp => refine ⟨?_, ?_, ?_, ?_⟩ <;> assumption))); (case k1 => k_asm); (case k2 => k_asm); (case k3 => k_asm); (case k4 => k_asm); (case k5 => k_asm); (case kK => first | exact rfl | assumption); (case kd => ktr_room); (case ku => ktr_units); intro t9 h9 tk9 F9 N9; (try dsimp only); (try k_fold))); (try k_steps)) | skip)
    unfold Stopped
    generalize Txt.slice bh none (some (1 + (k : Int))) ++ Txt.slice ah (some ((a.length : Int) - (1 + (k : Int)))) none = wd at *
    refine wpAny_Assign_Name (wpAny_IfExp ?_)
    k_steps
    iterate 6 (all_goals first | (unfold Stopped; (first | (k_here; (with_reducible show wpAny _ _ (call (Value.ref _) _) _ _ _); k_dflt (first | (refine' use_ctr (c_strcoll _ _ _ _ _ _ _ _) ?k1 ?k2 ?k3 ?k4 ?k5 ?kK ?kp ?kd ?ku ?_; (case kp => trivial)) | (refine' use_ctr (c_ell _ _ _ _ _ _ _ _) ?k1 ?k2 ?k3 ?k4 ?k5 ?kK ?kp ?kd ?ku ?_; (case kp => refine ⟨?_, ?_, ?_⟩ <;> assumption)) | (refine' use_ctr (c_ellF _ _ _ _ _ _ _ _) ?k1 ?k2 ?k3 ?k4 ?k5 ?kK ?kp ?kd ?ku ?_; (case kp => refine ⟨?_, ?_, ?_, ?_⟩ <;> assumption))); (case k1 => k_asm); (case k2 => k_asm); (case k3 => k_asm); (case k4 => k_asm); (case k5 => k_asm); (case kK => first | exact rfl | assumption); (case kd => ktr_room); (case ku => ktr_units); intro t9 h9 tk9 F9 N9; (try dsimp only); (try k_fold))); (try k_steps)) | skip)
    iterate 6 (all_goals first | (unfold Stopped; (first | (k_here; (with_reducible show wpAny _ _ (call (Value.ref _) _) _ _ _); k_dflt (first | (refine' use_ctr (c_strcoll _ _ _ _ _ _ _ _) ?k1 ?k2 ?k3 ?k4 ?k5 ?kK ?kp ?kd ?ku ?_; (case kp => trivial)) | (refine' use_ctr (c_ell _ _ _ _ _ _ _ _) ?k1 ?k2 ?k3 ?k4 ?k5 ?kK ?kp ?kd ?ku ?_; (case kp => refine ⟨?_, ?_, ?_⟩ <;> assumption)) | (refine' use_ctr (c_ellF _ _ _ _ _ _ _ _) ?k1 ?k2 ?k3 ?k4 ?k5 ?kK ?kp ?kd ?ku ?_; (case kp => refine ⟨?_, ?_, ?_, ?_⟩ <;> assumption))); (case k1 => k_asm); (case k2 => k_asm); (case k3 => k_asm); (case k4 => k_asm); (case k5 => k_asm); (case kK => first | exact rfl | assumption); (case kd => ktr_room); (case ku => ktr_units); intro t9 h9 tk9 F9 N9; (try dsimp only); (try k_fold))); (try k_steps)) | skip)
    all_goals first
      | exact (contraB (by assumption) (by assumption)).elim
      | (dsimp only [FEnd]; k_steps; unfold KeptR; intro hkk; dsimp only at hkk ⊢; refine kept_retIG (by assumption) hret ?_ hb hkk
         symm; refine firstK_eq hno ?_ (by omega)
         rw [hto]; first | (rw [if_pos (by assumption)]; exact bT (by assumption)) | (rw [if_neg (by assumption)]; exact bT (by assumption)))
      | ((rename Fr _ _ _ _ => fE); (rename News _ _ _ _ => nE)
         refine FEnd.next [] hb fE nE (fun p hp => hp) rfl (SInv.more hinv' m1.symm m2.symm m3.symm m4.symm ?_)
         rw [hto]; first | (rw [if_pos (by assumption)]; exact bF (by assumption)) | (rw [if_neg (by assumption)]; exact bF (by assumption)))
  case done =>
    clear lF' lN' rgX
    rintro m' nw h tk gens _ _ _ _ ⟨_, _, _, _, _, hno⟩
    exfalso
    have z := hno (a.length - 1) (by omega)
    rw [show (1 + ((a.length - 1 : Nat) : Int)) = (a.length : Int) from by omega, toldE_last a hi0 hi8] at z
    cases z
end
section
open PySem PySem.W PyProof.Rows PySem.Calls
set_option maxRecDepth 100000
local macro_rules | `(tactic| walk_at "exec For") => `(tactic| apply stopT)
local macro_rules | `(tactic| walk_at "exec For Name Subscript cons nil") => `(tactic| apply stopT)
local macro_rules | `(tactic| walk_at "pyIter ref") => `(tactic| apply stopT)
def numK (l : List Int) : Int := l.foldl (fun a f => a * 4 + f) 0
def padE (ns : List Int) : List Int := List.take 8 (ns ++ (List.replicate 8 [0]).flatten)
def numE (ns : List Int) : Int := numK (padE ns)
theorem numK_snoc (l : List Int) (x : Int) : numK (l ++ [x]) = numK l * 4 + x := by unfold numK; rw [List.foldl_append]; rfl
theorem numK_bd : ∀ (k : Nat) (l : List Int), l.length ≤ k → (∀ x ∈ l, 0 ≤ x ∧ x ≤ 3) → 0 ≤ numK l ∧ numK l < 4 ^ k := by
  intro k
  induction k with
  | zero =>
    intro l hl _
    obtain rfl : l = [] := List.length_eq_zero_iff.mp (Nat.le_zero.mp hl)
    exact ⟨Int.le_refl 0, by decide⟩
  | succ k ih =>
    intro l hl hx
    rcases List.eq_nil_or_concat l with rfl | ⟨l', x, rfl⟩
    · exact ⟨Int.le_refl 0, Int.pow_pos (by decide)⟩
    · rw [List.concat_eq_append] at hl hx ⊢
      rw [List.length_append] at hl
      have h1 := ih l' (by simpa using hl) (fun y hy => hx y (List.mem_append_left _ hy))
      have h2 := hx x (List.mem_append_right _ (by simp))
      rw [numK_snoc, Int.pow_succ]
      omega
theorem padE_len (ns : List Int) : (padE ns).length = 8 := by unfold padE; rw [List.length_take, List.length_append]; simp
theorem padE_bd {ns : List Int} (h : ∀ x ∈ ns, 0 ≤ x ∧ x ≤ 3) : ∀ x ∈ padE ns, 0 ≤ x ∧ x ≤ 3 := by
  intro x hx
  have hx := List.mem_of_mem_take hx
  rcases List.mem_append.mp hx with hx | hx
  · exact h x hx
  · have : x = 0 := by simpa using hx
    subst this; exact ⟨Int.le_refl 0, by decide⟩
set_option maxHeartbeats 8000000 in
theorem c_number (w : World) (s₀ : Shared) (mg mb : Str → Option Value) (l : Addr) (its : List Value) (ns : List Int) :
    CtrG 5 w s₀ mg mb 42 (fun h => h.IsList l its.toArray ∧ IntsAre its ns ∧ ns.length ≤ 8 ∧ ∀ x ∈ ns, 0 ≤ x ∧ x ≤ 3) [.ref l] (fun t => .int (numE ns) t) := by
  unfold CtrG; k_fill
  intros; rename_i hret
  rename (_ ∧ IntsAre its ns ∧ ns.length ≤ 8 ∧ _) => hp
  obtain ⟨hl, hI, hn8, hbd⟩ := hp
  have hi8 : its.length ≤ 8 := by rw [hI.length]; exact hn8
  refine wpAny_call ?_
  k_dflt (refine' code_defE ?k1 ?k2 ?k3 ?k5 ?kA ?kF ?kK ?k6 ?k7 ?k8 ?k9 ?kB ?_ ?c2 ?c3 ?c4 ?c5; (case kA => exact rfl); (case kF => exact rfl); (case kK => assumption); (case k1 => k_asm); (case k2 => k_asm); (case k3 => k_asm); (case k5 => k_asm); (case k6 => k_is); (case k7 => k_is); (case k8 => ktr_room); (case k9 => exact BindsTo.of_eq rfl); (case c5 => decide); (case kB => exact locs rfl); (case c2 => exact rfl); (case c3 => exact rfl); (case c4 => exact rfl); k_whole; intro g' L' h' hg' F' N' B' X' T'; (try dsimp only); (try k_lift B'); (try k_fold))
  have hL : g'.IsList l its.toArray := hg' ▸ hl
  k_with_none
  k_steps
  unfold Stopped
  refine wpAny_For (hs := fun _ => rfl) ?_
  k_steps
  unfold Stopped
  (rename Fr _ _ _ _ => lF'); (rename News _ _ _ _ => lN'); (rename IntsAre _ (List.take 8 _) => lI)
  rename_i wsX _ _ _ _ _ _
  replace lI : IntsAre _ (padE ns) := lI
  have hlen := lI.length
  rw [padE_len] at hlen
  have lN2 : News _ _ _ [_] := fun p hp => lN' p (by obtain rfl := List.mem_singleton.mp hp; exact List.mem_cons_self ..)
  refine for_list_J (fun k m nw => nw = [_] ∧ ∃ t, m (Str.ofString "number") = some (.int (numK ((padE ns).take k)) t)) rfl (fun i mm nn h => by rw [h.1]; exact List.mem_singleton.mpr rfl) lF' lN2 ⟨rfl, _, rfl⟩ ?turn ?done
  case turn =>
    clear lF' lN' lN2
    rintro I k v m₁ nw oI h tk gens E' hk hv ⟨rfl, t1, hm⟩ hlI hb F' N' off
    obtain ⟨n, t, rfl, hn⟩ := lI.at k v hv
    refine go_name ?_
    have hb1 := numK_bd 8 ((padE ns).take k) (by rw [List.length_take, padE_len]; omega) (fun x hx => padE_bd hbd x (List.mem_of_mem_take hx))
    have hb2 := padE_bd hbd n (List.mem_of_getElem? hn)
    have hsn : numK ((padE ns).take (k + 1)) = numK ((padE ns).take k) * 4 + n := by rw [List.take_add_one, hn]; exact numK_snoc _ _
    generalize numK ((padE ns).take k) = acc at hm hb1 hsn
    obtain ⟨hb11, hb12⟩ := hb1
    obtain ⟨hb21, hb22⟩ := hb2
    have hb13 : acc < 65536 := hb12
    clear hb12
    have e : m₁ = fun y => if y = Str.ofString "number" then some (.int acc t1) else m₁ y := by
      funext y
      by_cases h1 : y = Str.ofString "number"
      · rw [if_pos h1, h1, hm]
      · rw [if_neg h1]
    rw [e] at F'
    clear e
    dsimp only at hb ⊢
    k_steps
    (rename Fr _ _ _ _ => fE); (rename News _ _ _ _ => nE)
    exact FEnd.next [_] hb fE nE (fun p hp => hp) rfl ⟨rfl, _, by rw [hsn]; rfl⟩
  case done =>
    clear lF' lN' lN2
    rintro m' nw h tk gens hb F' N' _ ⟨rfl, t1, hm⟩
    rw [hlen, ← padE_len ns, List.take_length] at hm
    have e : m' = fun y => if y = Str.ofString "number" then some (.int (numE ns) t1) else m' y := by
      funext y
      by_cases h1 : y = Str.ofString "number"
      · rw [if_pos h1, h1, hm]; rfl
      · rw [if_neg h1]
    rw [e] at F'
    dsimp only at hb ⊢
    k_steps
    unfold KeptR; intro hkk; dsimp only at hkk ⊢; exact kept_retIG (by assumption) hret rfl hb hkk
end
section
open PySem PySem.W PyProof.Rows PySem.Calls
set_option maxRecDepth 100000
local macro_rules | `(tactic| walk_at "call ref") => `(tactic| apply stopT)
local macro_rules | `(tactic| walk_at "exec For Name Call cons nil") => `(tactic| apply stopT)
local macro_rules | `(tactic| walk_at "exec Assign cons IfExp") => `(tactic| apply stopT)
local macro_rules | `(tactic| walk_at "pyIter ref") => `(tactic| apply stopT)
set_option maxHeartbeats 8000000 in
theorem c_byFronts (w : World) (s₀ : Shared) (mg mb : Str → Option Value) (a : Str) (i : Int) (ta tb : Tok) :
    CtrG 5 w s₀ mg mb 70 (fun _ => a.length ≤ 8 ∧ NoDot a ∧ 0 < i ∧ i < a.length) [.str a ta, .int i tb] (fun t => .int (firstK (toldF a i) a.length) t) := by
  unfold CtrG; k_fill
  intros; rename_i hret
  rename (a.length ≤ 8 ∧ NoDot a ∧ 0 < i ∧ i < a.length) => hp
  obtain ⟨ha8, had, hi0, hi8⟩ := hp
  refine wpAny_call ?_
  k_dflt (refine' code_defE ?k1 ?k2 ?k3 ?k5 ?kA ?kF ?kK ?k6 ?k7 ?k8 ?k9 ?kB ?_ ?c2 ?c3 ?c4 ?c5; (case kA => exact rfl); (case kF => exact rfl); (case kK => assumption); (case k1 => k_asm); (case k2 => k_asm); (case k3 => k_asm); (case k5 => k_asm); (case k6 => k_is); (case k7 => k_is); (case k8 => ktr_room); (case k9 => exact BindsTo.of_eq rfl); (case c5 => decide); (case kB => exact locs rfl); (case c2 => exact rfl); (case c3 => exact rfl); (case c4 => exact rfl); k_whole; intro g' L' h' hg' F' N' B' X' T'; (try dsimp only); (try k_lift B'); (try k_fold))
  k_with_none
  k_steps
  iterate 6 (all_goals first | (unfold Stopped; (first | (k_here; (with_reducible show wpAny _ _ (call (Value.ref _) _) _ _ _); k_dflt (first | (refine' use_ctr (c_strcoll _ _ _ _ _ _ _ _) ?k1 ?k2 ?k3 ?k4 ?k5 ?kK ?kp ?kd ?ku ?_; (case kp => trivial)) | (refine' use_ctr (c_ell _ _ _ _ _ _ _ _) ?k1 ?k2 ?k3 ?k4 ?k5 ?kK ?kp ?kd ?ku ?_; (case kp => refine ⟨?_, ?_, ?_⟩ <;> assumption)) | (refine' use_ctr (c_ellF _ _ _ _ _ _ _ _) ?k1 ?k2 ?k3 ?k4 ?k5 ?kK ?kp ?kd ?ku ?_; (case kp => refine ⟨?_, ?_, ?_, ?_⟩ <;> assumption))); (case k1 => k_asm); (case k2 => k_asm); (case k3 => k_asm); (case k4 => k_asm); (case k5 => k_asm); (case kK => first | exact rfl | assumption); (case kd => ktr_room); (case ku => ktr_units); intro t9 h9 tk9 F9 N9; (try dsimp only); (try k_fold))); (try k_steps)) | skip)
  unfold Stopped
  refine wpAny_For (hs := fun _ => rfl) ?_
  k_steps
  iterate 6 (all_goals first | (unfold Stopped; (first | (k_here; (with_reducible show wpAny _ _ (call (Value.ref _) _) _ _ _); k_dflt (first | (refine' use_ctr (c_strcoll _ _ _ _ _ _ _ _) ?k1 ?k2 ?k3 ?k4 ?k5 ?kK ?kp ?kd ?ku ?_; (case kp => trivial)) | (refine' use_ctr (c_ell _ _ _ _ _ _ _ _) ?k1 ?k2 ?k3 ?k4 ?k5 ?kK ?kp ?kd ?ku ?_; (case kp => refine ⟨?_, ?_, ?_⟩ <;> assumption)) | (refine' use_ctr (c_ellF _ _ _ _ _ _ _ _) ?k1 ?k2 ?k3 ?k4 ?k5 ?kK ?kp ?kd ?ku ?_; (case kp => refine ⟨?_, ?_, ?_, ?_⟩ <;> assumption))); (case k1 => k_asm); (case k2 => k_asm); (case k3 => k_asm); (case k4 => k_asm); (case k5 => k_asm); (case kK => first | exact rfl | assumption); (case kd => ktr_room); (case ku => ktr_units); intro t9 h9 tk9 F9 N9; (try dsimp only); (try k_fold))); (try k_steps)) | skip)
  unfold Stopped
  (rename Fr _ _ _ _ => lF'); (rename News _ _ _ _ => lN'); (rename IsRange _ _ _ _ _ _ _ _ => rgX)
  refine for_range_J (SInv a i ta tb (toldF a i)) rfl rgX (small_one (by omega) (by omega) (by omega) (by omega)) (rangeSize_nat _ _) lF' News.nil ⟨rfl, rfl, rfl, ⟨_, rfl⟩, ⟨_, rfl⟩, fun j hj => absurd hj (Nat.not_lt_zero j)⟩ ?turn ?done
  case turn =>
    clear lF' lN' rgX
    rintro I k v m₁ nw oI h tk gens E' hk ⟨t, rfl⟩ hinv _ hb F' N' _
    have hinv' := hinv
    obtain ⟨rfl, m1, m2, ⟨t3, m3⟩, ⟨t4, m4⟩, hno⟩ := hinv
    refine go_name ?_
    rw [map4 m1 m2 m3 m4] at F'
    have hto : toldF a i (1 + (k : Int)) = if 1 + (k : Int) ≤ (Txt.slice a (some i) none).length then Txt.startswith (Txt.slice a (some i) none) (wordF a i (1 + (k : Int))) else Txt.startswith (wordF a i (1 + (k : Int))) (Txt.slice a (some i) none) := rfl
    have f1 : (Txt.slice a (some i) none).length ≤ 1000 := le_slice (by omega)
    have f2 : (wordF a i (1 + (k : Int))).length ≤ 1000 := le_app (le_slice (le_slice (by omega))) (le_slice (le_slice (by omega)))
    have f3 : NoDot (Txt.slice a (some i) none) := had.slice _ _
    have f4 : NoDot (wordF a i (1 + (k : Int))) := ((had.slice _ _).slice _ _).app ((had.slice _ _).slice _ _)
    have f5 : (Txt.slice a none (some i)).length ≤ 1000 := le_slice (by omega)
    have f6 : 0 < (wordF a i (1 + (k : Int))).length := wordF_pos a hi0 (by omega) (by omega)
    have f7 : 0 < (Txt.slice a (some i) none).length := by rw [behind_len a (by omega)]; omega
    unfold wordF at hto f2 f4 f6
    generalize Txt.slice a none (some i) = ah at F' m3 hto f2 f4 f5 f6
    generalize Txt.slice a (some i) none = bh at F' m4 hto f1 f2 f3 f4 f6 f7
    dsimp only at hb ⊢
    k_steps
    iterate 6 (all_goals first | (unfold Stopped; (first | (k_here; (with_reducible show wpAny _ _ (call (Value.ref _) _) _ _ _); k_dflt (first | (refine' use_ctr (c_strcoll _ _ _ _ _ _ _ _) ?k1 ?k2 ?k3 ?k4 ?k5 ?kK ?kp ?kd ?ku ?_; (case kp => trivial)) | (refine' use_ctr (c_ell _ _ _ _ _ _ _ _) ?k1 ?k2 ?k3 ?k4 ?k5 ?kK ?kp ?kd ?ku ?_; (case kp => refine ⟨?_, ?_, ?_⟩ <;> assumption)) | (refine' use_ctr (c_ellF _ _ _ _ _ _ _ _) ?k1 ?k2 ?k3 ?k4 ?k5 ?kK ?kp ?kd ?ku ?_; (case kp => refine ⟨?_, ?_, ?_, ?_⟩ <;> assumption))); (case k1 => k_asm); (case k2 => k_asm); (case k3 => k_asm); (case k4 => k_asm); (case k5 => k_asm); (case kK => first | exact rfl | assumption); (case kd => ktr_room); (case ku => ktr_units); intro t9 h9 tk9 F9 N9; (try dsimp only); (try k_fold))); (try k_steps)) | skip)
    unfold Stopped
    generalize Txt.slice bh none (some (if 1 + (k : Int) - i > 0 then 1 + (k : Int) - i else 0)) ++ Txt.slice ah (some (if i - (1 + (k : Int)) > 0 then i - (1 + (k : Int)) else 0)) none = wd at *
    refine wpAny_Assign_Name (wpAny_IfExp ?_)
    k_steps
    iterate 6 (all_goals first | (unfold Stopped; (first | (k_here; (with_reducible show wpAny _ _ (call (Value.ref _) _) _ _ _); k_dflt (first | (refine' use_ctr (c_strcoll _ _ _ _ _ _ _ _) ?k1 ?k2 ?k3 ?k4 ?k5 ?kK ?kp ?kd ?ku ?_; (case kp => trivial)) | (refine' use_ctr (c_ell _ _ _ _ _ _ _ _) ?k1 ?k2 ?k3 ?k4 ?k5 ?kK ?kp ?kd ?ku ?_; (case kp => refine ⟨?_, ?_, ?_⟩ <;> assumption)) | (refine' use_ctr (c_ellF _ _ _ _ _ _ _ _) ?k1 ?k2 ?k3 ?k4 ?k5 ?kK ?kp ?kd ?ku ?_; (case kp => refine ⟨?_, ?_, ?_, ?_⟩ <;> assumption))); (case k1 => k_asm); (case k2 => k_asm); (case k3 => k_asm); (case k4 => k_asm); (case k5 => k_asm); (case kK => first | exact rfl | assumption); (case kd => ktr_room); (case ku => ktr_units); intro t9 h9 tk9 F9 N9; (try dsimp only); (try k_fold))); (try k_steps)) | skip)
    iterate 6 (all_goals first | (unfold Stopped; (first | (k_here; (with_reducible show wpAny _ _ (call (Value.ref _) _) _ _ _); k_dflt (first | (refine' use_ctr (c_strcoll _ _ _ _ _ _ _ _) ?k1 ?k2 ?k3 ?k4 ?k5 ?kK ?kp ?kd ?ku ?_; (case kp => trivial)) | (refine' use_ctr (c_ell _ _ _ _ _ _ _ _) ?k1 ?k2 ?k3 ?k4 ?k5 ?kK ?kp ?kd ?ku ?_; (case kp => refine ⟨?_, ?_, ?_⟩ <;> assumption)) | (refine' use_ctr (c_ellF _ _ _ _ _ _ _ _) ?k1 ?k2 ?k3 ?k4 ?k5 ?kK ?kp ?kd ?ku ?_; (case kp => refine ⟨?_, ?_, ?_, ?_⟩ <;> assumption))); (case k1 => k_asm); (case k2 => k_asm); (case k3 => k_asm); (case k4 => k_asm); (case k5 => k_asm); (case kK => first | exact rfl | assumption); (case kd => ktr_room); (case ku => ktr_units); intro t9 h9 tk9 F9 N9; (try dsimp only); (try k_fold))); (try k_steps)) | skip)
    all_goals first
      | exact (contraB (by assumption) (by assumption)).elim
      | (dsimp only [FEnd]; k_steps; unfold KeptR; intro hkk; dsimp only at hkk ⊢; refine kept_retIG (by assumption) hret ?_ hb hkk
         symm; refine firstK_eq hno ?_ (by omega)
         rw [hto]; first | (rw [if_pos (by assumption)]; exact bT (by assumption)) | (rw [if_neg (by assumption)]; exact bT (by assumption)))
      | ((rename Fr _ _ _ _ => fE); (rename News _ _ _ _ => nE)
         refine FEnd.next [] hb fE nE (fun p hp => hp) rfl (SInv.more hinv' m1.symm m2.symm m3.symm m4.symm ?_)
         rw [hto]; first | (rw [if_pos (by assumption)]; exact bF (by assumption)) | (rw [if_neg (by assumption)]; exact bF (by assumption)))
  case done =>
    clear lF' lN' rgX
    rintro m' nw h tk gens _ _ _ _ ⟨_, _, _, _, _, hno⟩
    exfalso
    have z := hno (a.length - 1) (by omega)
    rw [show (1 + ((a.length - 1 : Nat) : Int)) = (a.length : Int) from by omega, toldF_last a hi0 hi8] at z
    cases z
end
section
open PySem PySem.W PyProof.Rows PySem.Calls
set_option maxRecDepth 100000
/-- the first k figures to the base 4 -/
def valK : Nat → List Int → Int
  | 0, _ => 0
  | _ + 1, [] => 0
  | k + 1, d :: r => d * 4 ^ k + valK k r
theorem valK_nil (k : Nat) : valK k [] = 0 := by cases k <;> rfl
theorem pow4_pos (k : Nat) : (0 : Int) < 4 ^ k := Int.pow_pos (by decide)
theorem valK_bd : ∀ (k : Nat) (l : List Int), (∀ x ∈ l, 1 ≤ x ∧ x ≤ 3) → 0 ≤ valK k l ∧ valK k l < 4 ^ k
  | 0, l, _ => by cases l <;> exact ⟨Int.le_refl 0, (by decide : (0 : Int) < 4 ^ 0)⟩
  | k + 1, [], _ => ⟨Int.le_refl 0, pow4_pos _⟩
  | k + 1, d :: r, h => by
    have ih := valK_bd k r (fun x hx => h x (List.mem_cons_of_mem _ hx))
    have hd := h d (List.mem_cons_self ..)
    have hp := pow4_pos k
    show 0 ≤ d * 4 ^ k + valK k r ∧ d * 4 ^ k + valK k r < 4 ^ (k + 1)
    rw [Int.pow_succ]
    have h1 : 1 * 4 ^ k ≤ d * 4 ^ k := Int.mul_le_mul_of_nonneg_right hd.1 (Int.le_of_lt hp)
    have h3 : d * 4 ^ k ≤ 3 * 4 ^ k := Int.mul_le_mul_of_nonneg_right hd.2 (Int.le_of_lt hp)
    omega
theorem valK_lt : ∀ (k : Nat) (us vs : List Int), us.length ≤ k → vs.length ≤ k → (∀ x ∈ us, 1 ≤ x ∧ x ≤ 3) → (∀ x ∈ vs, 1 ≤ x ∧ x ≤ 3) → us < vs → valK k us < valK k vs
  | k, us, [], _, _, _, _, h => absurd h (List.not_lt_nil _)
  | 0, us, v :: vs, _, hl, _, _, _ => absurd hl (Nat.not_succ_le_zero _)
  | k + 1, [], v :: vs, _, _, _, hv, _ => by
    have hd := hv v (List.mem_cons_self ..)
    have hp := pow4_pos k
    have hb := valK_bd k vs (fun x hx => hv x (List.mem_cons_of_mem _ hx))
    show 0 < v * 4 ^ k + valK k vs
    have h1 : 1 * 4 ^ k ≤ v * 4 ^ k := Int.mul_le_mul_of_nonneg_right hd.1 (Int.le_of_lt hp)
    omega
  | k + 1, u :: us, v :: vs, hlu, hlv, hu, hv, h => by
    have hbu := valK_bd k us (fun x hx => hu x (List.mem_cons_of_mem _ hx))
    have hbv := valK_bd k vs (fun x hx => hv x (List.mem_cons_of_mem _ hx))
    have hp := pow4_pos k
    show u * 4 ^ k + valK k us < v * 4 ^ k + valK k vs
    rw [List.cons_lt_cons_iff] at h
    rcases h with h | ⟨rfl, h⟩
    · have h1 : (u + 1) * 4 ^ k ≤ v * 4 ^ k := Int.mul_le_mul_of_nonneg_right (by omega) (Int.le_of_lt hp)
      rw [Int.add_mul] at h1
      omega
    · have ih := valK_lt k us vs (Nat.le_of_succ_le_succ hlu) (Nat.le_of_succ_le_succ hlv) (fun x hx => hu x (List.mem_cons_of_mem _ hx)) (fun x hx => hv x (List.mem_cons_of_mem _ hx)) h
      omega
theorem numK_cons (d : Int) : ∀ (l : List Int) , numK (d :: l) = d * 4 ^ l.length + numK l := by
  have gen : ∀ (l : List Int) (a : Int), l.foldl (fun a f => a * 4 + f) a = a * 4 ^ l.length + l.foldl (fun a f => a * 4 + f) 0 := by
    intro l
    induction l with
    | nil => intro a; simp
    | cons x l ih =>
      intro a
      rw [List.foldl_cons, List.foldl_cons, ih (a * 4 + x), ih (0 * 4 + x), List.length_cons, Int.pow_succ, Int.add_mul, Int.add_mul]
      have e : a * 4 * 4 ^ l.length = a * (4 ^ l.length * 4) := by rw [Int.mul_assoc, Int.mul_comm 4]
      rw [e]
      simp only [Int.zero_mul, Int.zero_add]
      omega
  intro l
  unfold numK
  rw [List.foldl_cons, gen l (0 * 4 + d)]
  simp
theorem numK_zeros (j : Nat) : numK (List.replicate j 0) = 0 := by
  induction j with
  | zero => rfl
  | succ j ih => rw [List.replicate_succ, numK_cons, ih]; simp
theorem numK_pad : ∀ (ns : List Int) (j : Nat), numK (ns ++ List.replicate j 0) = valK (ns.length + j) ns
  | [], j => by rw [List.nil_append, numK_zeros, valK_nil]
  | d :: r, j => by
    rw [List.cons_append, numK_cons, numK_pad r j, List.length_append, List.length_replicate, List.length_cons, show r.length + 1 + j = (r.length + j) + 1 by omega]
    rfl
theorem padE_eq {ns : List Int} (h : ns.length ≤ 8) : padE ns = ns ++ List.replicate (8 - ns.length) 0 := by
  unfold padE
  have e : (List.replicate 8 [(0 : Int)]).flatten = List.replicate 8 0 := by decide
  rw [e, List.take_append, List.take_of_length_le h, List.take_replicate]
  congr 2
  omega
theorem numE_val {ns : List Int} (h : ns.length ≤ 8) : numE ns = valK 8 ns := by
  unfold numE
  rw [padE_eq h, numK_pad]
  congr 1
  omega
theorem lex_map {α : Type} {g : α → Nat} {d : α → Int} : ∀ (l1 l2 : List α), (∀ a ∈ l1, ∀ b ∈ l2, (g a < g b ↔ d a < d b) ∧ (g a = g b ↔ d a = d b)) → (l1.map g < l2.map g ↔ l1.map d < l2.map d)
  | _, [], _ => by simp
  | [], b :: l2, _ => by simp
  | a :: l1, b :: l2, h => by
    have ih := lex_map l1 l2 fun x hx y hy => h x (List.mem_cons_of_mem _ hx) y (List.mem_cons_of_mem _ hy)
    have h0 := h a (List.mem_cons_self ..) b (List.mem_cons_self ..)
    rw [List.map_cons, List.map_cons, List.map_cons, List.map_cons, List.cons_lt_cons_iff, List.cons_lt_cons_iff, ih, h0.1, h0.2]
/-- minus one, nought or one -/
def sgI (x : Int) : Int := if x < 0 then -1 else if x = 0 then 0 else 1
theorem due_sg (x : Int) : x.fdiv (if (if x < 0 then -x else x) > 1 then (if x < 0 then -x else x) else 1) = sgI x := by
  unfold sgI
  by_cases h1 : x < 0
  · rw [if_pos h1, if_pos h1]
    split
    · rw [Int.fdiv_eq_ediv_of_nonneg _ (by omega), Int.ediv_neg, Int.ediv_self (by omega)]
    · obtain rfl : x = -1 := by omega
      decide
  · rw [if_neg h1, if_neg h1]
    by_cases h0 : x = 0
    · subst h0; decide
    · rw [if_neg h0]
      split
      · rw [Int.fdiv_eq_ediv_of_nonneg _ (by omega), Int.ediv_self (by omega)]
      · obtain rfl : x = 1 := by omega
        decide
theorem sg3_mono {x y z : Nat} (h1 : x < y) (h2 : y < z) {a b : Int} (ha : 0 ≤ a ∧ a < 3) (hb : 0 ≤ b ∧ b < 3) : (sg3 x y z a < sg3 x y z b ↔ a < b) ∧ (sg3 x y z a = sg3 x y z b ↔ a = b) := by
  unfold sg3
  obtain rfl | rfl | rfl : a = 0 ∨ a = 1 ∨ a = 2 := by omega
  · obtain rfl | rfl | rfl : b = 0 ∨ b = 1 ∨ b = 2 := by omega
    all_goals simp; try omega
  · obtain rfl | rfl | rfl : b = 0 ∨ b = 1 ∨ b = 2 := by omega
    all_goals simp; try omega
  · obtain rfl | rfl | rfl : b = 0 ∨ b = 1 ∨ b = 2 := by omega
    all_goals simp; try omega
theorem cmp_parts {us vs : List Int} (hu : us.length ≤ 8) (hv : vs.length ≤ 8) {a b : Str} {x y z : Nat} (h1 : x < y) (h2 : y < z)
    (ha : lst a = us.map fun c => sg3 x y z (c.fmod 3)) (hb : lst b = vs.map fun c => sg3 x y z (c.fmod 3)) :
    cmpZ a b = sgI (numE (us.map fun c => 1 + c.fmod 3) - numE (vs.map fun c => 1 + c.fmod 3)) := by
  have dig : ∀ (ws : List Int), ∀ x ∈ ws.map (fun c : Int => 1 + c.fmod 3), 1 ≤ x ∧ x ≤ 3 := fun ws x hx => by
    obtain ⟨c, _, rfl⟩ := List.mem_map.mp hx
    have := fm3 c
    omega
  have cmp : ∀ us vs : List Int, (us.map (fun c => sg3 x y z (c.fmod 3)) < vs.map (fun c => sg3 x y z (c.fmod 3)) ↔ us.map (fun c : Int => 1 + c.fmod 3) < vs.map (fun c : Int => 1 + c.fmod 3)) := fun us vs =>
    lex_map us vs fun p _ q _ => by
      have := sg3_mono (x := x) (y := y) (z := z) h1 h2 (fm3 p) (fm3 q)
      refine ⟨this.1.trans (by omega), this.2.trans (by omega)⟩
  have lu : (us.map fun c : Int => 1 + c.fmod 3).length ≤ 8 := by rw [List.length_map]; exact hu
  have lv : (vs.map fun c : Int => 1 + c.fmod 3).length ≤ 8 := by rw [List.length_map]; exact hv
  rw [numE_val lu, numE_val lv]
  rcases lt_tri (lst a) (lst b) with h | h | h
  · rw [cmpZ_lt h]
    rw [ha, hb, cmp] at h
    have := valK_lt 8 _ _ lu lv (dig _) (dig _) h
    unfold sgI
    rw [if_pos (by omega)]
  · rw [cmpZ_eq h]
    have e' : us.map (fun c : Int => 1 + c.fmod 3) = vs.map fun c : Int => 1 + c.fmod 3 := by
      have n1 : ¬ us.map (fun c : Int => 1 + c.fmod 3) < vs.map fun c : Int => 1 + c.fmod 3 := fun q => by
        rw [← cmp, ← ha, ← hb, h] at q; exact List.lt_irrefl _ q
      have n2 : ¬ vs.map (fun c : Int => 1 + c.fmod 3) < us.map fun c : Int => 1 + c.fmod 3 := fun q => by
        rw [← cmp, ← ha, ← hb, h] at q; exact List.lt_irrefl _ q
      exact List.le_antisymm n2 n1
    rw [e']
    unfold sgI
    rw [if_neg (by omega), if_pos (by omega)]
  · rw [cmpZ_gt h]
    rw [ha, hb, cmp] at h
    have := valK_lt 8 _ _ lv lu (dig _) (dig _) h
    unfold sgI
    rw [if_neg (by omega), if_neg (by omega)]
end
section
open PySem PySem.W PyProof.Rows PySem.Calls
set_option maxRecDepth 100000
/-- the repetition of size z at the place m -/
def near (A : List Nat) (m z : Nat) : Prop := ∀ k, m ≤ k + z → k < m → k + z < A.length → A.getD k 0 = A.getD (k + z) 0
def per (A : List Nat) (z : Nat) : Prop := ∀ k, k + z < A.length → A.getD k 0 = A.getD (k + z) 0
theorem per.near {A : List Nat} {z : Nat} (h : per A z) (m : Nat) : near A m z := fun k _ _ q => h k q
theorem drop_cons {A : List Nat} {i : Nat} (h : i < A.length) : A.drop i = A.getD i 0 :: A.drop (i + 1) := by
  rw [List.drop_eq_getElem_cons h, List.getD_eq_getElem?_getD, List.getElem?_eq_getElem h]
  rfl
theorem lt_common {A : List Nat} : ∀ (d i j : Nat), i + d ≤ A.length → j + d ≤ A.length → (∀ t, t < d → A.getD (i + t) 0 = A.getD (j + t) 0) → (A.drop i < A.drop j ↔ A.drop (i + d) < A.drop (j + d))
  | 0, i, j, _, _, _ => Iff.rfl
  | d + 1, i, j, hi, hj, h => by
    rw [drop_cons (show i < A.length by omega), drop_cons (show j < A.length by omega), List.cons_lt_cons_iff]
    have h0 := h 0 (Nat.succ_pos _)
    rw [Nat.add_zero, Nat.add_zero] at h0
    rw [h0]
    have ih := lt_common (A := A) d (i + 1) (j + 1) (by omega) (by omega) fun t ht => by
      have := h (t + 1) (by omega)
      rw [show i + 1 + t = i + (t + 1) by omega, show j + 1 + t = j + (t + 1) by omega]
      exact this
    rw [show i + (d + 1) = i + 1 + d by omega, show j + (d + 1) = j + 1 + d by omega, ← ih]
    constructor
    · rintro (q | ⟨_, q⟩)
      · exact absurd q (Nat.lt_irrefl _)
      · exact q
    · exact fun q => .inr ⟨rfl, q⟩
/-- two texts, the signs of the one in the other's turned order -/
def Anti (A B : List Nat) : Prop := A.length = B.length ∧ ∀ i j, i < A.length → j < A.length → (A.getD i 0 < A.getD j 0 ↔ B.getD j 0 < B.getD i 0)
theorem Anti.symm {A B : List Nat} (h : Anti A B) : Anti B A := ⟨h.1.symm, fun i j hi hj => (h.2 j i (h.1 ▸ hj) (h.1 ▸ hi)).symm⟩
theorem Anti.eq {A B : List Nat} (h : Anti A B) {i j : Nat} (hi : i < A.length) (hj : j < A.length) (e : A.getD i 0 = A.getD j 0) : B.getD i 0 = B.getD j 0 := by
  have h1 := h.2 i j hi hj
  have h2 := h.2 j i hj hi
  omega
theorem Anti.near {A B : List Nat} (h : Anti A B) {m z : Nat} (hn : near A m z) : near B m z := fun k h1 h2 h3 =>
  h.eq (by rw [h.1]; omega) (by rw [h.1]; exact h3) (hn k h1 h2 (by rw [h.1]; exact h3))
theorem Anti.per {A B : List Nat} (h : Anti A B) {z : Nat} (hn : per A z) : per B z := fun k h3 =>
  h.eq (by rw [h.1]; omega) (by rw [h.1]; exact h3) (hn k (by rw [h.1]; exact h3))
theorem pre_of {A B : List Nat} (h : Anti A B) : ∀ (d i j : Nat), A.length - i = d → i ≤ A.length → j ≤ A.length → ¬ A.drop j < A.drop i → ¬ B.drop j < B.drop i → ∀ k, i + k < A.length → A.getD (i + k) 0 = A.getD (j + k) 0
  | 0, i, j, hd, hi, hj, _, _ => fun k hk => by omega
  | d + 1, i, j, hd, hi, hj, h1, h2 => by
    have hi' : i < A.length := by omega
    have hj' : j < A.length := by
      rcases Nat.lt_or_ge j A.length with q | q
      · exact q
      · exfalso
        apply h1
        rw [List.drop_of_length_le q, drop_cons hi']
        exact List.nil_lt_cons _ _
    have hiB : i < B.length := h.1 ▸ hi'
    have hjB : j < B.length := h.1 ▸ hj'
    rw [drop_cons hi', drop_cons hj', List.cons_lt_cons_iff] at h1
    rw [drop_cons hiB, drop_cons hjB, List.cons_lt_cons_iff] at h2
    have e : A.getD i 0 = A.getD j 0 := by
      rcases Nat.lt_trichotomy (A.getD i 0) (A.getD j 0) with q | q | q
      · exact absurd (.inl ((h.2 i j hi' hj').mp q)) h2
      · exact q
      · exact absurd (.inl q) h1
    have e' := h.eq hi' hj' e
    have ih := pre_of h d (i + 1) (j + 1) (by omega) (by omega) (by omega) (fun q => h1 (.inr ⟨e.symm, q⟩)) (fun q => h2 (.inr ⟨e'.symm, q⟩))
    intro k hk
    cases k with
    | zero => exact e
    | succ k =>
      have := ih k (by omega)
      rw [show i + (k + 1) = i + 1 + k by omega, show j + (k + 1) = j + 1 + k by omega]
      exact this
/-- the critical factorization: at the later one of the two greatest ends every repetition is a period -/
theorem critical {A B : List Nat} (h : Anti A B) {m m₂ z : Nat} (hm : m < A.length) (hm₂ : m₂ ≤ m) (M1 : ∀ j, j ≤ A.length → ¬ A.drop m < A.drop j) (M2 : ∀ j, j ≤ A.length → ¬ B.drop m₂ < B.drop j) (hz : 1 ≤ z) (hn : near A m z) :
    m < z ∧ per A z := by
  have hmz : m < z := by
    rcases Nat.lt_or_ge m z with q | q
    · exact q
    · exfalso
      rcases Nat.lt_or_ge (A.length - m) z with hc | hc
      · have e := lt_common (A := A) (A.length - m) m (m - z) (by omega) (by omega) fun t ht => by
          have := hn (m - z + t) (by omega) (by omega) (by omega)
          rw [this, show m - z + t + z = m + t by omega]
        refine M1 (m - z) (by omega) (e.mpr ?_)
        rw [List.drop_of_length_le (by omega), drop_cons (show m - z + (A.length - m) < A.length by omega)]
        exact List.nil_lt_cons _ _
      · have e := lt_common (A := A) z m (m - z) (by omega) (by omega) fun t ht => by
          have := hn (m - z + t) (by omega) (by omega) (by omega)
          rw [this, show m - z + t + z = m + t by omega]
        rw [show m - z + z = m by omega] at e
        have n1 : ¬ A.drop (m + z) < A.drop m := fun q' => M1 (m - z) (by omega) (e.mpr q')
        have n2 := M1 (m + z) (by omega)
        rcases lt_tri (A.drop m) (A.drop (m + z)) with q' | q' | q'
        · exact n2 q'
        · have := congrArg List.length q'
          rw [List.length_drop, List.length_drop] at this
          omega
        · exact n1 q'
  refine ⟨hmz, ?_⟩
  rcases Nat.lt_or_ge (A.length - m) z with hc | hc
  · exact fun k hk => hn k (by omega) (by omega) hk
  · have hb := h.near hn
    have e := lt_common (A := B) (m - m₂) m₂ (m₂ + z) (by rw [← h.1]; omega) (by rw [← h.1]; omega) fun t ht => by
      have := hb (m₂ + t) (by omega) (by omega) (by rw [← h.1]; omega)
      rw [this, show m₂ + t + z = m₂ + z + t by omega]
    rw [show m₂ + (m - m₂) = m by omega, show m₂ + z + (m - m₂) = m + z by omega] at e
    have pre := pre_of h (A.length - (m + z)) (m + z) m rfl (by omega) (by omega) (M1 (m + z) (by omega)) (fun q => M2 (m₂ + z) (by omega) (e.mpr q))
    intro k hk
    rcases Nat.lt_or_ge k m with q | q
    · exact hn k (by omega) q hk
    · have := pre (k - m) (by omega)
      rw [show m + z + (k - m) = k + z by omega, show m + (k - m) = k by omega] at this
      exact this.symm
end
section
open PySem PySem.W PyProof.Rows PySem.Calls
set_option maxRecDepth 100000
theorem getD_some {A : List Nat} {i : Nat} (h : i < A.length) : A[i]? = some (A.getD i 0) := by
  rw [List.getD_eq_getElem?_getD, List.getElem?_eq_getElem h]; rfl
theorem getD_iff {A : List Nat} {i j : Nat} (hi : i < A.length) (hj : j < A.length) : A.getD i 0 = A.getD j 0 ↔ A[i]? = A[j]? := by
  rw [getD_some hi, getD_some hj]
  simp
theorem near_iff {A : List Nat} {m z : Nat} : near A m z ↔ ∀ k, m ≤ k + z → k < m → k + z < A.length → A[k]? = A[k + z]? :=
  ⟨fun h k h1 h2 h3 => (getD_iff (by omega) h3).mp (h k h1 h2 h3), fun h k h1 h2 h3 => (getD_iff (by omega) h3).mpr (h k h1 h2 h3)⟩
theorem per_iff {A : List Nat} {z : Nat} : per A z ↔ ∀ k, k + z < A.length → A[k]? = A[k + z]? :=
  ⟨fun h k h3 => (getD_iff (by omega) h3).mp (h k h3), fun h k h3 => (getD_iff (by omega) h3).mpr (h k h3)⟩
theorem suf_iff {X Y : List Nat} : X <:+ Y ↔ X.length ≤ Y.length ∧ ∀ i, i < X.length → X[i]? = Y[Y.length - X.length + i]? := by
  rw [List.suffix_iff_eq_drop]
  constructor
  · intro e
    have hl := congrArg List.length e
    rw [List.length_drop] at hl
    refine ⟨by omega, fun i hi => ?_⟩
    rw [← List.getElem?_drop, ← e]
  · rintro ⟨hl, h⟩
    refine List.ext_getElem? fun i => ?_
    rcases Nat.lt_or_ge i X.length with q | q
    · rw [h i q, List.getElem?_drop]
    · rw [List.getElem?_eq_none q, List.getElem?_eq_none (by rw [List.length_drop]; omega)]
theorem pre_iff {X Y : List Nat} : X <+: Y ↔ X.length ≤ Y.length ∧ ∀ i, i < X.length → X[i]? = Y[i]? := by
  rw [List.prefix_iff_eq_take]
  constructor
  · intro e
    have hl := congrArg List.length e
    rw [List.length_take] at hl
    refine ⟨by omega, fun i hi => ?_⟩
    have q := congrArg (fun l : List Nat => l[i]?) e
    rw [List.getElem?_take_of_lt hi] at q
    exact q
  · rintro ⟨hl, h⟩
    refine List.ext_getElem? fun i => ?_
    rcases Nat.lt_or_ge i X.length with q | q
    · rw [h i q, List.getElem?_take_of_lt q]
    · rw [List.getElem?_eq_none q, List.getElem?_eq_none (by rw [List.length_take]; omega)]
section
variable {A : List Nat} {P K : Nat}
theorem wE_len (hP : P ≤ A.length) (hK : K ≤ A.length) : ((A.drop P).take K ++ (A.take P).drop (A.length - K)).length = K := by
  rw [List.length_append, List.length_take, List.length_drop, List.length_drop, List.length_take, Nat.min_eq_left hP]
  rcases Nat.le_total K (A.length - P) with h | h
  · rw [Nat.min_eq_left h]; omega
  · rw [Nat.min_eq_right h]; omega
theorem wE_at (hP : P ≤ A.length) (hK : K ≤ A.length) {i : Nat} (hi : i < K) : ((A.drop P).take K ++ (A.take P).drop (A.length - K))[i]? = if P + i < A.length then A[P + i]? else A[P + i - K]? := by
  have hl : ((A.drop P).take K).length = min K (A.length - P) := by rw [List.length_take, List.length_drop]
  split
  · rename_i q
    rw [List.getElem?_append_left (by rw [hl]; exact Nat.lt_min.mpr ⟨hi, by omega⟩), List.getElem?_take_of_lt hi, List.getElem?_drop]
  · rename_i q
    have q2 : A.length - P ≤ i := by omega
    rw [Nat.min_eq_right (Nat.le_trans q2 (Nat.le_of_lt hi))] at hl
    rw [List.getElem?_append_right (by rw [hl]; exact q2), hl, List.getElem?_drop, List.getElem?_take_of_lt (by omega)]
    congr 1
    omega
theorem wF_hl (hK : K ≤ A.length) : ((A.drop P).take (K - P)).length = K - P := by
  rw [List.length_take, List.length_drop, Nat.min_eq_left (Nat.sub_le_sub_right hK P)]
theorem wF_len (hP : P ≤ A.length) (hK : K ≤ A.length) : ((A.drop P).take (K - P) ++ (A.take P).drop (P - K)).length = K := by
  rw [List.length_append, wF_hl hK, List.length_drop, List.length_take, Nat.min_eq_left hP]; omega
theorem wF_at (hP : P ≤ A.length) (hK : K ≤ A.length) {i : Nat} (hi : i < K) : ((A.drop P).take (K - P) ++ (A.take P).drop (P - K))[i]? = if P + i < K then A[P + i]? else A[P + i - K]? := by
  have hl := wF_hl (P := P) hK
  split
  · rename_i q
    rw [List.getElem?_append_left (by rw [hl]; omega), List.getElem?_take_of_lt (by omega), List.getElem?_drop]
  · rename_i q
    rw [List.getElem?_append_right (by rw [hl]; omega), hl, List.getElem?_drop, List.getElem?_take_of_lt (by omega)]
    congr 1
    omega
end
theorem iff_bool {b : Bool} {P : Prop} (h : b = true ↔ P) (c : Bool) (h' : c = true ↔ P) : b = c := by
  cases b <;> cases c <;> simp_all
theorem toldE_near (a : Str) {p k : Int} (hp : 0 ≤ p) (hpn : p ≤ a.length) (hk : 0 ≤ k) (hkn : k ≤ a.length) : toldE a p k = true ↔ near (lst a) p.toNat k.toNat := by
  have hw := lst_wordE a hp hk hkn
  obtain ⟨P, rfl⟩ : ∃ P : Nat, p = P := ⟨p.toNat, by omega⟩
  obtain ⟨K, rfl⟩ : ∃ K : Nat, k = K := ⟨k.toNat, by omega⟩
  have hP : P ≤ (lst a).length := by rw [lst_len]; omega
  have hK : K ≤ (lst a).length := by rw [lst_len]; omega
  rw [Int.toNat_natCast, Int.toNat_natCast, ← lst_len] at hw
  have ht : (List.take P (lst a)).length = P := by rw [List.length_take]; omega
  rw [near_iff, Int.toNat_natCast, Int.toNat_natCast]
  unfold toldE
  split
  · rename_i hle
    have hle : K ≤ P := by omega
    rw [ends_iff, hw, sl_to _ (by omega), Int.toNat_natCast, suf_iff, wE_len hP hK, ht]
    constructor
    · rintro ⟨_, h⟩ k' h1 h2 h3
      have := h (k' + K - P) (by omega)
      rw [wE_at hP hK (by omega), if_pos (by omega), List.getElem?_take_of_lt (by omega), show P - K + (k' + K - P) = k' by omega, show P + (k' + K - P) = k' + K by omega] at this
      exact this.symm
    · intro h
      refine ⟨hle, fun i hi => ?_⟩
      rw [wE_at hP hK hi, List.getElem?_take_of_lt (by omega)]
      split
      · have := h (P - K + i) (by omega) (by omega) (by omega)
        rw [this]; congr 1; omega
      · congr 1; omega
  · rename_i hle
    have hle : P < K := by omega
    rw [ends_iff, hw, sl_to _ (by omega), Int.toNat_natCast, suf_iff, wE_len hP hK, ht]
    constructor
    · rintro ⟨_, h⟩ k' h1 h2 h3
      have := h k' h2
      rw [wE_at hP hK (by omega), if_pos (by omega), List.getElem?_take_of_lt (by omega), show P + (K - P + k') = k' + K by omega] at this
      exact this
    · intro h
      refine ⟨by omega, fun i hi => ?_⟩
      rw [wE_at hP hK (by omega), List.getElem?_take_of_lt (by omega)]
      split
      · have := h i (by omega) hi (by omega)
        rw [this]; congr 1; omega
      · congr 1; omega
theorem toldF_near (a : Str) {p k : Int} (hp : 0 ≤ p) (hpn : p ≤ a.length) (hk : 0 ≤ k) (hkn : k ≤ a.length) : toldF a p k = true ↔ near (lst a) p.toNat k.toNat := by
  have hw := lst_wordF a (p := p) (k := k) hp
  have hbl := behind_len a hp
  obtain ⟨P, rfl⟩ : ∃ P : Nat, p = P := ⟨p.toNat, by omega⟩
  obtain ⟨K, rfl⟩ : ∃ K : Nat, k = K := ⟨k.toNat, by omega⟩
  have hP : P ≤ (lst a).length := by rw [lst_len]; omega
  have hK : K ≤ (lst a).length := by rw [lst_len]; omega
  rw [show ((K : Int) - (P : Int)).toNat = K - P by omega, show ((P : Int) - (K : Int)).toNat = P - K by omega, Int.toNat_natCast] at hw
  have ht : (List.drop P (lst a)).length = (lst a).length - P := List.length_drop ..
  have hla := lst_len a
  rw [near_iff, Int.toNat_natCast, Int.toNat_natCast]
  unfold toldF
  rw [hbl, Int.toNat_natCast]
  split
  · rename_i hle
    have hle : K ≤ (lst a).length - P := by omega
    rw [starts_iff, hw, sl_from _ (by omega), Int.toNat_natCast, pre_iff, wF_len hP hK, ht]
    constructor
    · rintro ⟨_, h⟩ k' h1 h2 h3
      have := h (k' + K - P) (by omega)
      rw [wF_at hP hK (by omega), if_neg (by omega), List.getElem?_drop, show P + (k' + K - P) = k' + K by omega, show k' + K - K = k' by omega] at this
      exact this
    · intro h
      refine ⟨hle, fun i hi => ?_⟩
      rw [wF_at hP hK hi, List.getElem?_drop]
      split
      · rfl
      · have := h (P + i - K) (by omega) (by omega) (by omega)
        rw [this]; congr 1; omega
  · rename_i hle
    have hle : (lst a).length - P < K := by omega
    rw [starts_iff, hw, sl_from _ (by omega), Int.toNat_natCast, pre_iff, wF_len hP hK, ht]
    constructor
    · rintro ⟨_, h⟩ k' h1 h2 h3
      have := h (k' + K - P) (by omega)
      rw [wF_at hP hK (by omega), if_neg (by omega), List.getElem?_drop, show P + (k' + K - P) = k' + K by omega, show k' + K - K = k' by omega] at this
      exact this.symm
    · intro h
      refine ⟨by omega, fun i hi => ?_⟩
      rw [wF_at hP hK (by omega), List.getElem?_drop]
      split
      · rfl
      · have := h (P + i - K) (by omega) (by omega) (by omega)
        rw [this]; congr 1; omega
theorem mem_rangeKs_iff {a : Int} {n : Nat} {x : Int} : x ∈ rangeKs a n ↔ a ≤ x ∧ x < a + (n : Int) := by
  unfold rangeKs
  rw [List.mem_map]
  constructor
  · rintro ⟨j, hj, rfl⟩
    have := List.mem_range.mp hj
    omega
  · rintro ⟨h1, h2⟩
    exact ⟨(x - a).toNat, List.mem_range.mpr (by omega), by omega⟩
theorem lo_iff (P K : Nat) : 0 ≤ (if (P : Int) - (K : Int) > 0 then (P : Int) - (K : Int) else 0) ∧ ∀ k : Nat, (if (P : Int) - (K : Int) > 0 then (P : Int) - (K : Int) else 0) ≤ (k : Int) ↔ P ≤ k + K := by
  split
  · exact ⟨by omega, fun k => by omega⟩
  · exact ⟨by omega, fun k => by omega⟩
theorem hi_iff (n P K k : Nat) : (k : Int) < (if (n : Int) - (K : Int) < (P : Int) then (n : Int) - (K : Int) else (P : Int)) ↔ k + K < n ∧ k < P := by
  split <;> omega
theorem in_between {l h x : Int} (h1 : l ≤ x) : x < l + ((h - l).toNat : Int) ↔ x < h := by omega
theorem nearE_near (a : Str) {p k : Int} (hp : 0 ≤ p) (hk : 0 ≤ k) : nearE a p k = true ↔ near (lst a) p.toNat k.toNat := by
  obtain ⟨P, rfl⟩ : ∃ P : Nat, p = P := ⟨p.toNat, (Int.toNat_of_nonneg hp).symm⟩
  obtain ⟨K, rfl⟩ : ∃ K : Nat, k = K := ⟨k.toNat, (Int.toNat_of_nonneg hk).symm⟩
  have hla := lst_len a
  rw [near_iff, Int.toNat_natCast, Int.toNat_natCast, hla]
  unfold nearE
  obtain ⟨l0, lo⟩ := lo_iff P K
  have hi := hi_iff a.length P K
  rw [List.isEmpty_iff, List.filter_eq_nil_iff]
  generalize (if (P : Int) - (K : Int) > 0 then (P : Int) - (K : Int) else 0) = l at *
  generalize (if (a.length : Int) - (K : Int) < (P : Int) then (a.length : Int) - (K : Int) else (P : Int)) = h at *
  have e : ∀ k' : Nat, ((k' : Int) + (K : Int)).toNat = k' + K := fun k' => by rw [← Int.natCast_add, Int.toNat_natCast]
  constructor
  · intro hq k' h1 h2 h3
    have l1 := (lo k').mpr h1
    have := hq (k' : Int) (mem_rangeKs_iff.mpr ⟨l1, (in_between l1).mpr ((hi k').mpr ⟨h3, h2⟩)⟩)
    unfold parts at this
    rw [decide_eq_true_eq, Int.toNat_natCast, e] at this
    exact Decidable.not_not.mp this
  · intro hq x hx
    obtain ⟨h1, h2⟩ := mem_rangeKs_iff.mp hx
    obtain ⟨k', rfl⟩ : ∃ k' : Nat, x = k' := ⟨x.toNat, (Int.toNat_of_nonneg (Int.le_trans l0 h1)).symm⟩
    have h3 := (hi k').mp ((in_between h1).mp h2)
    have := hq k' ((lo k').mp h1) h3.2 h3.1
    unfold parts
    rw [decide_eq_true_eq, Int.toNat_natCast, e]
    exact not_not_intro this
end
section
open PySem PySem.W PyProof.Rows PySem.Calls
set_option maxRecDepth 100000
/-- one step of the comparison from the end: what stands before, with the last part behind -/
theorem per_step {R w : List Nat} {k : Nat} (hw : w.length = k) (hk : 0 < k) (hl : k ≤ R.length) :
    (∀ i, i < R.length → (R ++ w)[i]? = (R ++ w)[i + k]?) ↔ (R.drop (R.length - k) = w ∧ ∀ i, i < R.length - k → (R.take (R.length - k) ++ w)[i]? = (R.take (R.length - k) ++ w)[i + k]?) := by
  constructor
  · intro h
    have e : R.drop (R.length - k) = w := by
      refine List.ext_getElem? fun i => ?_
      rw [List.getElem?_drop]
      rcases Nat.lt_or_ge i k with q | q
      · have := h (R.length - k + i) (by omega)
        rw [List.getElem?_append_left (by omega), List.getElem?_append_right (by omega)] at this
        rw [this]; congr 1; omega
      · rw [List.getElem?_eq_none (by omega), List.getElem?_eq_none (by omega)]
    refine ⟨e, ?_⟩
    have e2 : R.take (R.length - k) ++ w = R := by
      have := List.take_append_drop (R.length - k) R
      rw [e] at this
      exact this
    rw [e2]
    intro i hi
    have := h i (by omega)
    rw [List.getElem?_append_left (by omega), List.getElem?_append_left (by omega)] at this
    exact this
  · rintro ⟨e, h⟩
    have e2 : R.take (R.length - k) ++ w = R := by
      have := List.take_append_drop (R.length - k) R
      rw [e] at this
      exact this
    rw [e2] at h
    intro i hi
    rcases Nat.lt_or_ge i (R.length - k) with q | q
    · have := h i q
      rw [List.getElem?_append_left (by omega), List.getElem?_append_left (by omega)]
      exact this
    · rw [List.getElem?_append_left (by omega), List.getElem?_append_right (by omega), ← e, List.getElem?_drop]
      congr 1; omega
theorem fall_iff {last : Str} {k : Nat} (hw : last.length = k) (hk : 0 < k) : ∀ (f : Nat) (rest : Str), rest.length < f →
    (fall last (k : Int) f rest = true ↔ ∀ i, i < rest.length → (lst rest ++ lst last)[i]? = (lst rest ++ lst last)[i + k]?)
  | 0, rest, h => absurd h (Nat.not_lt_zero _)
  | f + 1, rest, h => by
    have hlw : (lst last).length = k := by rw [lst_len]; exact hw
    have hlr := lst_len rest
    unfold fall
    split
    · rename_i hlt
      have hlt : rest.length < k := by omega
      rw [ends_iff, suf_iff, hlr, hlw]
      constructor
      · rintro ⟨_, q⟩ i hi
        rw [List.getElem?_append_left (by omega), List.getElem?_append_right (by omega), q i hi]
        congr 1; omega
      · intro q
        refine ⟨by omega, fun i hi => ?_⟩
        have := q i hi
        rw [List.getElem?_append_left (by omega), List.getElem?_append_right (by omega)] at this
        rw [this]; congr 1; omega
    · rename_i hge
      have hge : k ≤ rest.length := by omega
      have st := per_step (R := lst rest) hlw hk (by omega)
      rw [hlr] at st
      have el := sl_from_neg rest (k := (k : Int)) (by omega) (by omega)
      rw [Int.toNat_natCast] at el
      have et := sl_to_neg rest (k := (k : Int)) (by omega) (by omega)
      rw [Int.toNat_natCast] at et
      have hsl : (Txt.slice rest none (some (-(k : Int)))).length = rest.length - k := by rw [← lst_len, et, List.length_take]; omega
      have ih := fall_iff hw hk f (Txt.slice rest none (some (-(k : Int)))) (by omega)
      rw [hsl, et] at ih
      rw [st]
      split
      · rename_i hc
        have e := cmpZ_nil hc
        rw [ih, ← e, el]
        simp
      · rename_i hc
        constructor
        · intro q; cases q
        · rintro ⟨q, _⟩
          exact absurd (cmpZ_eq (el.trans q)) hc
/-- k is a period of the text -/
def perB (t : Str) (k : Int) : Bool := Txt.slice t (some k) none == Txt.slice t none (some ((t.length : Int) - k))
theorem perB_iff {t : Str} {k : Int} (h1 : 1 ≤ k) (hn : k ≤ t.length) : perB t k = true ↔ per (lst t) k.toNat := by
  have hlt := lst_len t
  unfold perB
  rw [beq_iff_eq, per_iff]
  constructor
  · intro e i hi
    have q := congrArg (fun x => (lst x)[i]?) e
    simp only [sl_from t (show 0 ≤ k by omega), sl_to t (show 0 ≤ (t.length : Int) - k by omega)] at q
    rw [List.getElem?_drop, List.getElem?_take_of_lt (by omega)] at q
    rw [← q]; congr 1; omega
  · intro h
    refine lst_inj ?_
    rw [sl_from _ (by omega), sl_to _ (by omega)]
    refine List.ext_getElem? fun i => ?_
    rw [List.getElem?_drop]
    rcases Nat.lt_or_ge i (t.length - k.toNat) with q | q
    · rw [List.getElem?_take_of_lt (by omega), h i (by omega)]
      congr 1; omega
    · rw [List.getElem?_eq_none (by omega), List.getElem?_eq_none (by rw [List.length_take]; omega)]
theorem fall_per {t : Str} {k : Int} (h1 : 1 ≤ k) (hn : k ≤ t.length) (h8 : t.length ≤ 8) : fall (Txt.slice t (some (-k)) none) k 9 t = perB t k := by
  refine iff_bool ?_ _ (perB_iff h1 hn)
  obtain ⟨K, rfl⟩ : ∃ K : Nat, k = K := ⟨k.toNat, by omega⟩
  have hlt := lst_len t
  have el := sl_from_neg t (k := (K : Int)) (by omega) (by omega)
  rw [Int.toNat_natCast] at el
  have hsl : (Txt.slice t (some (-(K : Int))) none).length = K := by rw [← lst_len, el, List.length_drop]; omega
  rw [fall_iff hsl (by omega) 9 t (by omega), per_iff, el, Int.toNat_natCast]
  constructor
  · intro h i hi
    have := h i (by omega)
    rw [List.getElem?_append_left (by omega), List.getElem?_append_left (by omega)] at this
    exact this
  · intro h i hi
    rw [List.getElem?_append_left (by omega)]
    rcases Nat.lt_or_ge (i + K) t.length with q | q
    · rw [List.getElem?_append_left (by omega)]
      exact h i (by omega)
    · rw [List.getElem?_append_right (by omega), List.getElem?_drop]
      congr 1; omega
theorem filter_fall {t : Str} (h8 : t.length ≤ 8) (n : Nat) (hn : n ≤ t.length) : (rangeKs 1 n).filter (fun k => fall (Txt.slice t (some (-k)) none) k 9 t) = (rangeKs 1 n).filter (perB t) := by
  refine List.filter_congr fun k hk => ?_
  have := mem_rangeKs hk
  exact fall_per (by omega) (by omega) h8
end
section
open PySem PySem.W PyProof.Rows PySem.Calls
set_option maxRecDepth 100000
theorem rangeKs_at {a : Int} {n j : Nat} (h : j < n) : (rangeKs a n)[j]? = some (a + (j : Int)) := by
  unfold rangeKs
  rw [List.getElem?_map, List.getElem?_range h]; rfl
theorem find_congr {α : Type} {f g : α → Bool} : ∀ {l : List α}, (∀ x ∈ l, f x = g x) → l.find? f = l.find? g
  | [], _ => rfl
  | a :: l, h => by
    rw [List.find?_cons, List.find?_cons, h a (List.mem_cons_self ..), find_congr fun x hx => h x (List.mem_cons_of_mem _ hx)]
theorem firstK_congr {f g : Int → Bool} {n : Nat} (h : ∀ j, j < n → f (1 + (j : Int)) = g (1 + (j : Int))) : firstK f n = firstK g n := by
  unfold firstK
  rw [find_congr fun j hj => h j (List.mem_range.mp hj)]
/-- at every place the three ways agree -/
theorem place_law {a : Str} {p : Int} (hp : 0 ≤ p) (hpn : p ≤ a.length) : firstK (toldE a p) a.length = firstK (nearE a p) a.length ∧ firstK (toldF a p) a.length = firstK (nearE a p) a.length :=
  ⟨firstK_congr fun j hj => iff_bool (toldE_near a hp hpn (by omega) (by omega)) _ (nearE_near a hp (by omega)), firstK_congr fun j hj => iff_bool (toldF_near a hp hpn (by omega) (by omega)) _ (nearE_near a hp (by omega))⟩
theorem anti_made {sg : Str} (hs : Signs sg) (cs : List Int) : Anti (lst (wholeOf sg cs)) (lst (turnedOf sg cs)) := by
  obtain ⟨x, y, z, e, h1, h2, _⟩ := hs.three
  rw [whole_lst e, turned_lst e]
  refine ⟨by rw [List.length_map, List.length_map], fun i j hi hj => ?_⟩
  rw [List.length_map] at hi hj
  rw [List.getD_eq_getElem?_getD, List.getD_eq_getElem?_getD, List.getD_eq_getElem?_getD, List.getD_eq_getElem?_getD, List.getElem?_map, List.getElem?_map, List.getElem?_map, List.getElem?_map, List.getElem?_eq_getElem hi, List.getElem?_eq_getElem hj]
  have b1 := fm3 cs[i]
  have b2 := fm3 cs[j]
  show sg3 x y z _ < sg3 x y z _ ↔ sg3 x y z _ < sg3 x y z _
  rw [(sg3_mono h1 h2 b1 b2).1, (sg3_mono h1 h2 (by omega) (by omega)).1]
  omega
theorem Anti.take {A B : List Nat} (h : Anti A B) (n : Nat) : Anti (A.take n) (B.take n) := by
  refine ⟨by rw [List.length_take, List.length_take, h.1], fun i j hi hj => ?_⟩
  rw [List.length_take] at hi hj
  rw [List.getD_eq_getElem?_getD, List.getD_eq_getElem?_getD, List.getD_eq_getElem?_getD, List.getD_eq_getElem?_getD, List.getElem?_take_of_lt (by omega), List.getElem?_take_of_lt (by omega), List.getElem?_take_of_lt (by omega), List.getElem?_take_of_lt (by omega),
    ← List.getD_eq_getElem?_getD, ← List.getD_eq_getElem?_getD, ← List.getD_eq_getElem?_getD, ← List.getD_eq_getElem?_getD]
  exact h.2 i j (by omega) (by omega)
theorem ge_max {a : Str} (_ha : 0 < a.length) {j : Nat} (hj : j ≤ (lst a).length) : ¬ (lst a).drop (geK a (a.length - 1)).toNat < (lst a).drop j := by
  have hl := lst_len a
  rcases Nat.lt_or_ge j a.length with q | q
  · exact geK_max a (a.length - 1) j (by omega)
  · rw [List.drop_of_length_le (show (lst a).length ≤ j by omega)]
    exact List.not_lt_nil _
theorem size_crit {t tt : Str} (h : Anti (lst t) (lst tt)) (ht : 0 < t.length) {M : Int} (hM : (M = geK t (t.length - 1) ∧ geK tt (tt.length - 1) ≤ M) ∨ (M = geK tt (tt.length - 1) ∧ geK t (t.length - 1) ≤ M)) {z : Nat} (hz : 1 ≤ z) (hn : near (lst t) M.toNat z) :
    M.toNat < z ∧ per (lst t) z := by
  have hl := lst_len t
  have hl2 := lst_len tt
  have e := h.1
  have b1 := geK_bd t (t.length - 1)
  have b2 := geK_bd tt (tt.length - 1)
  rcases hM with ⟨rfl, hle⟩ | ⟨rfl, hle⟩
  · exact critical h (m₂ := (geK tt (tt.length - 1)).toNat) (by omega) (by omega) (fun j hj => ge_max ht hj) (fun j hj => ge_max (by omega) (by omega)) hz hn
  · have := critical h.symm (m₂ := (geK t (t.length - 1)).toNat) (by omega) (by omega) (fun j hj => ge_max (by omega) (by omega)) (fun j hj => ge_max ht (by omega)) hz (h.near hn)
    exact ⟨this.1, h.symm.per this.2⟩
theorem size_law {t tt : Str} (h : Anti (lst t) (lst tt)) (ht : 0 < t.length) :
    ∃ p rest, (rangeKs 1 t.length).filter (perB t) = p :: rest ∧ ∀ M : Int, ((M = geK t (t.length - 1) ∧ geK tt (tt.length - 1) ≤ M) ∨ (M = geK tt (tt.length - 1) ∧ geK t (t.length - 1) ≤ M)) → 0 ≤ M ∧ M < p ∧ M < t.length ∧ firstK (toldE t M) t.length = p := by
  have hl := lst_len t
  have hl2 := lst_len tt
  have e := h.1
  have b1 := geK_bd t (t.length - 1)
  have b2 := geK_bd tt (tt.length - 1)
  cases hps : (rangeKs 1 t.length).filter (perB t) with
  | nil =>
    exfalso
    rw [List.filter_eq_nil_iff] at hps
    refine hps (t.length : Int) ?_ ((perB_iff (by omega) (by omega)).mpr fun k hk => by omega)
    refine List.mem_of_getElem? (i := t.length - 1) ?_
    rw [rangeKs_at (by omega)]
    congr 1; omega
  | cons p rest =>
    refine ⟨p, rest, rfl, fun M hM => ?_⟩
    obtain ⟨l₁, l₂, el, hno, hp, _⟩ := List.filter_eq_cons_iff.mp hps
    have hll : l₁.length < t.length := by
      have := congrArg List.length el
      rw [rangeKs_len, List.length_append, List.length_cons] at this
      omega
    have hpe : p = 1 + (l₁.length : Int) := by
      have := rangeKs_at (a := 1) hll
      rw [el, List.getElem?_append_right (Nat.le_refl _), Nat.sub_self] at this
      exact Option.some.inj this
    have hbefore : ∀ j, j < l₁.length → ¬ perB t (1 + (j : Int)) = true := fun j hj => by
      refine hno _ ?_
      have := rangeKs_at (a := 1) (n := t.length) (j := j) (by omega)
      rw [el, List.getElem?_append_left hj] at this
      exact List.mem_of_getElem? this
    have hM0 : 0 ≤ M ∧ M < t.length := by rcases hM with ⟨rfl, _⟩ | ⟨rfl, _⟩ <;> omega
    have pp := (perB_iff (t := t) (k := p) (by omega) (by omega)).mp hp
    have c := size_crit h ht hM (z := p.toNat) (by omega) (pp.near _)
    refine ⟨hM0.1, by omega, hM0.2, ?_⟩
    rw [hpe]
    refine firstK_eq (fun j hj => ?_) ?_ hll
    · cases hq : toldE t M (1 + (j : Int)) with
      | false => rfl
      | true =>
        exfalso
        have nn := (toldE_near t hM0.1 (by omega) (by omega) (by omega)).mp hq
        have cc := size_crit h ht hM (z := (1 + (j : Int)).toNat) (by omega) nn
        exact hbefore j hj ((perB_iff (by omega) (by omega)).mpr cc.2)
    · refine (toldE_near t hM0.1 (by omega) (by omega) (by omega)).mpr ?_
      rw [← hpe]
      exact pp.near _
end
section
open PySem PySem.W PyProof.Rows PySem.Calls
set_option maxRecDepth 100000
theorem cells6 {cm : Str → Option Value} {n1 n2 n3 n4 n5 n6 : Str} {c1 c2 c3 c4 c5 c6 : Addr} {cells : List (Addr × Obj)} (x : CellsAre cm [(n1, c1), (n2, c2), (n3, c3), (n4, c4), (n5, c5), (n6, c6)] cells) :
    ∃ o1 o2 o3 o4 o5 o6, cells = [(c1, o1), (c2, o2), (c3, o3), (c4, o4), (c5, o5), (c6, o6)] ∧ o1.data = .cell (cm n1) ∧ o2.data = .cell (cm n2) ∧ o3.data = .cell (cm n3) ∧ o4.data = .cell (cm n4) ∧ o5.data = .cell (cm n5) ∧ o6.data = .cell (cm n6) := by
  cases x with | cons h1 x =>
  cases x with | cons h2 x =>
  cases x with | cons h3 x =>
  cases x with | cons h4 x =>
  cases x with | cons h5 x =>
  obtain ⟨o6, rfl, h6⟩ := x.one
  exact ⟨_, _, _, _, _, _, rfl, h1, h2, h3, h4, h5, h6⟩
def Aft (P : Shared → Prop) (f : Flow) (s' : Shared) : Prop := f = .next ∧ P s'
theorem Aft.go {P : Shared → Prop} {s' : Shared} (h : P s') : Aft P .next s' := ⟨rfl, h⟩
/-- one statement, told apart -/
theorem seq_stmt {M : Model} {A : Around} {env : Env} {st : Stmt} {rest : List Stmt} {Q : Flow → Shared → Prop} {E : Value → Shared → Prop} {s : Shared} (P : Shared → Prop)
    (h1 : ∀ E', wpAny M A (exec st env) (Aft P) E' s) (h2 : ∀ s', P s' → wpAny M A (execs rest env) Q E s') : wpAny M A (execs (st :: rest) env) Q E s := by
  refine wpAny_execs_cons (wpAny_mono (h1 E) (fun f s' h => ?_) fun _ _ e => e)
  obtain ⟨rfl, hp⟩ := h
  exact h2 s' hp
local macro_rules | `(tactic| walk_at "call type:enumerate") => `(tactic| apply stopT)
local macro_rules | `(tactic| walk_at "eval Tuple") => `(tactic| (refine Tuple_ ?_))
local macro_rules | `(tactic| walk_at "eval Call") => `(tactic| ((with_reducible show wpAny _ _ (eval (Expr.Call (Expr.Name (Str.ofString "_law_number") _) _ _ _) _) _ _ _); refine Call_ ?_))
local macro_rules | `(tactic| walk_at "eval Call") => `(tactic| ((with_reducible show wpAny _ _ (eval (Expr.Call (Expr.Name (Str.ofString "_law_falls_even") _) _ _ _) _) _ _ _); refine Call_ ?_))
local macro_rules | `(tactic| walk_at "call ref") => `(tactic| apply stopT)
local macro_rules | `(tactic| walk_at "exec Assign cons ListComp") => `(tactic| apply stopT)
local macro_rules | `(tactic| walk_at "exec For Tuple Name cons nil") => `(tactic| apply stopT)
local macro_rules | `(tactic| walk_at "eval ListComp") => `(tactic| apply stopT)
local macro_rules | `(tactic| walk_at "pyIter ref") => `(tactic| apply stopT)
theorem filterF_snoc {f : Int → Bool} {lo : Int} {j : Nat} {ys : List Value} {v : Value} {t : Tok} (hv : v = .int (lo + (j : Int)) t) (h : IntsAre ys ((rangeKs lo j).filter f)) (hp : f (lo + (j : Int)) = true) : IntsAre (ys ++ [v]) ((rangeKs lo (j + 1)).filter f) := by
  subst hv
  rw [rangeKs_succ, List.filter_append, List.filter_cons_of_pos hp]
  exact h.append (.cons _ _ .nil)
theorem filterF_skip {f : Int → Bool} {lo : Int} {j : Nat} {ys : List Value} (h : IntsAre ys ((rangeKs lo j).filter f)) (hp : f (lo + (j : Int)) = false) : IntsAre ys ((rangeKs lo (j + 1)).filter f) := by
  rw [rangeKs_succ, List.filter_append, List.filter_cons_of_neg (by rw [hp]; decide), List.filter_nil, List.append_nil]
  exact h
theorem none_in2 {prog : Program} {w : World} {A : Around} {E : Value → Shared → Prop} {s : Shared} {l : Addr} {a b : Int} {ta tb : Tok} {Q : Value → Shared → Prop} (hl : s.heap.IsList l #[.int a ta, .int b tb]) (h : Q (.bool false) s) :
    wpAny (model prog w) A (compareOp .In .none (.ref l)) Q E s := by
  refine PySem.SeqAt.in_listAt (fun _ => false) hl (fun y hy => ?_) (by simpa using h)
  have hy : y ∈ [Value.int a ta, Value.int b tb] := by simpa using hy
  rcases List.mem_cons.mp hy with rfl | hy
  · exact PySem.SeqAt.EqAt.int_none _ _
  · obtain rfl := List.mem_singleton.mp hy
    exact PySem.SeqAt.EqAt.int_none _ _
/-- the law's frame between two statements -/
def LSt (s₁ : Shared) (L : Addr) (c1 c2 c3 c4 : Option Value) (m : Str → Option Value) (nw : List (Addr × Obj)) (s' : Shared) : Prop :=
  ∃ h tk gens o1 o2 o3 o4 o5 o6 c5 c6, s' = { s₁ with heap := h, toks := tk, gens := gens } ∧ (AllBare s₁.gens → AllBare gens) ∧ Fr s₁.heap L h m ∧
    News s₁.heap L h ((L + 1 + 1 + 1 + 1 + 1 + 1, o6) :: (L + 1 + 1 + 1 + 1 + 1, o5) :: (L + 1 + 1 + 1 + 1, o4) :: (L + 1 + 1 + 1, o3) :: (L + 1 + 1, o2) :: (L + 1, o1) :: nw) ∧
    o1.data = .cell c1 ∧ o2.data = .cell c2 ∧ o3.data = .cell c3 ∧ o4.data = .cell c4 ∧ o5.data = .cell c5 ∧ o6.data = .cell c6
theorem fm6 (x : Int) : 0 ≤ x.fmod (10 ^ Int.toNat 6) ∧ x.fmod (10 ^ Int.toNat 6) < 1000000 := by
  have e : (10 : Int) ^ Int.toNat 6 = 1000000 := by decide
  rw [e, Int.fmod_eq_emod_of_nonneg _ (by decide)]
  omega
def Cells8 (cs : List Int) : Prop := cs.length = 8 ∧ ∀ c ∈ cs, 0 ≤ c ∧ c < 1000000
def OffC (L D : Addr) : Prop := (@Ne Nat (L + 1 + 1 + 1 + 1 + 1 + 1) D) ∧ (@Ne Nat (L + 1 + 1 + 1 + 1 + 1) D) ∧ (@Ne Nat (L + 1 + 1 + 1 + 1) D) ∧ (@Ne Nat (L + 1 + 1 + 1) D) ∧ (@Ne Nat (L + 1 + 1) D) ∧ (@Ne Nat (L + 1) D)
theorem OffC.of {L D : Addr} {o1 o2 o3 o4 o5 o6 : Obj} {l : List (Addr × Obj)} {P : Addr → Prop} (h : ∀ p ∈ (L + 1 + 1 + 1 + 1 + 1 + 1, o6) :: (L + 1 + 1 + 1 + 1 + 1, o5) :: (L + 1 + 1 + 1 + 1, o4) :: (L + 1 + 1 + 1, o3) :: (L + 1 + 1, o2) :: (L + 1, o1) :: l, P p.1 ∧ p.1 ≠ D) : OffC L D :=
  ⟨(h (L + 1 + 1 + 1 + 1 + 1 + 1, o6) (by simp)).2, (h (L + 1 + 1 + 1 + 1 + 1, o5) (by simp)).2, (h (L + 1 + 1 + 1 + 1, o4) (by simp)).2, (h (L + 1 + 1 + 1, o3) (by simp)).2, (h (L + 1 + 1, o2) (by simp)).2, (h (L + 1, o1) (by simp)).2⟩
theorem map1 {a : Str} {va : Value} {m : Str → Option Value} (ha : m a = some va) : m = fun y => if y = a then some va else m y := by
  funext y
  by_cases h1 : y = a
  · rw [if_pos h1, h1, ha]
  · rw [if_neg h1]
theorem map4m {a b c d : Str} {va vb vc vd : Value} {m : Str → Option Value} (ha : m a = some va) (hb : m b = some vb) (hc : m c = some vc) (hd : m d = some vd) :
    m = fun y => if y = a then some va else if y = b then some vb else if y = c then some vc else if y = d then some vd else m y := by
  funext y
  by_cases h1 : y = a
  · rw [if_pos h1, h1, ha]
  · rw [if_neg h1]
    by_cases h2 : y = b
    · rw [if_pos h2, h2, hb]
    · rw [if_neg h2]
      by_cases h3 : y = c
      · rw [if_pos h3, h3, hc]
      · rw [if_neg h3]
        by_cases h4 : y = d
        · rw [if_pos h4, h4, hd]
        · rw [if_neg h4]
theorem map2m {a b : Str} {va vb : Value} {m : Str → Option Value} (ha : m a = some va) (hb : m b = some vb) : m = fun y => if y = a then some va else if y = b then some vb else m y := by
  funext y
  by_cases h1 : y = a
  · rw [if_pos h1, h1, ha]
  · rw [if_neg h1]
    by_cases h2 : y = b
    · rw [if_pos h2, h2, hb]
    · rw [if_neg h2]
theorem map3m {a b c : Str} {va vb vc : Value} {m : Str → Option Value} (ha : m a = some va) (hb : m b = some vb) (hc : m c = some vc) : m = fun y => if y = a then some va else if y = b then some vb else if y = c then some vc else m y := by
  funext y
  by_cases h1 : y = a
  · rw [if_pos h1, h1, ha]
  · rw [if_neg h1]
    by_cases h2 : y = b
    · rw [if_pos h2, h2, hb]
    · rw [if_neg h2]
      by_cases h3 : y = c
      · rw [if_pos h3, h3, hc]
      · rw [if_neg h3]
theorem mem7 {α : Type} {a b c d e f x : α} {l : List α} : x ∈ a :: b :: c :: d :: e :: f :: x :: l :=
  List.mem_cons_of_mem _ (List.mem_cons_of_mem _ (List.mem_cons_of_mem _ (List.mem_cons_of_mem _ (List.mem_cons_of_mem _ (List.mem_cons_of_mem _ (List.mem_cons_self ..))))))
theorem mid3 {α : Type} {a b c p : α} {l nw : List α} (h : p ∈ a :: b :: c :: (l ++ nw)) : p ∈ a :: b :: c :: (nw ++ l) := by
  simp only [List.mem_cons, List.mem_append] at h ⊢
  rcases h with h | h | h | h | h <;> simp [h]
theorem sub6 {α : Type} {T d i c e p : α} {l nw : List α} (h : p ∈ i :: c :: e :: ((T :: nw) ++ l)) : p ∈ T :: d :: i :: c :: e :: (l ++ nw) := by
  simp only [List.mem_cons, List.mem_append, List.cons_append] at h ⊢
  rcases h with h | h | h | h | h | h <;> simp [h]
theorem mid2 {α : Type} {a b p : α} {l nw : List α} (h : p ∈ a :: b :: (l ++ nw)) : p ∈ a :: b :: (nw ++ l) := by
  simp only [List.mem_cons, List.mem_append] at h ⊢
  rcases h with h | h | h | h <;> simp [h]
theorem sub7 {α : Type} {C D x1 x2 x3 x4 x5 x6 d p : α} {nw : List α} (h : p ∈ C :: ([x6, x5, x4, x3, x2, x1] ++ (D :: d :: nw))) : p ∈ C :: D :: x6 :: x5 :: x4 :: x3 :: x2 :: x1 :: d :: nw := by
  simp only [List.mem_cons, List.mem_append, List.cons_append, List.nil_append] at h ⊢
  rcases h with h | h | h | h | h | h | h | h | h | h <;> simp [h]
theorem mid3r {α : Type} {a b c p : α} {l nw tn rr : List α} (e : rr = tn ++ nw) (h : p ∈ a :: b :: c :: (l ++ rr)) : p ∈ a :: b :: c :: (nw ++ (l ++ tn)) := by
  subst e
  simp only [List.mem_cons, List.mem_append] at h ⊢
  rcases h with h | h | h | h | h | h <;> simp [h]
theorem mid2r {α : Type} {a b p : α} {l nw tn rr : List α} (e : rr = tn ++ nw) (h : p ∈ a :: b :: (l ++ rr)) : p ∈ a :: b :: (nw ++ (l ++ tn)) := by
  subst e
  simp only [List.mem_cons, List.mem_append] at h ⊢
  rcases h with h | h | h | h | h <;> simp [h]
theorem sub6r {α : Type} {T d i c e p : α} {l nw tn rr : List α} (er : rr = tn ++ nw) (h : p ∈ i :: c :: e :: ((T :: nw) ++ (l ++ tn))) : p ∈ T :: d :: i :: c :: e :: (l ++ rr) := by
  subst er
  simp only [List.mem_cons, List.mem_append, List.cons_append] at h ⊢
  rcases h with h | h | h | h | h | h | h <;> simp [h]
theorem sub7r {α : Type} {C D x1 x2 x3 x4 x5 x6 d d' p : α} {nw tn rr : List α} (er : rr = tn ++ nw) (h : p ∈ C :: ([x6, x5, x4, x3, x2, x1] ++ (D :: d :: d' :: (tn ++ nw)))) : p ∈ C :: D :: x6 :: x5 :: x4 :: x3 :: x2 :: x1 :: d :: d' :: rr := by
  subst er
  simp only [List.mem_cons, List.mem_append, List.cons_append, List.nil_append] at h ⊢
  rcases h with h | h | h | h | h | h | h | h | h | h | h | h <;> simp [h]
theorem sub5 {α : Type} {a b c d e f x y p : α} (h : p ∈ [a, b, c, d, e, f, x]) : p ∈ [x, a, b, c, d, e, f, y] := by
  simp only [List.mem_cons, List.not_mem_nil, or_false] at h ⊢
  rcases h with h | h | h | h | h | h | h <;> simp [h]
/-- what the two texts and the figures are -/
def Made (W T : Str) (fs : List Int) : Prop := ∃ sg cs, Signs sg ∧ Cells8 cs ∧ W = wholeOf sg cs ∧ T = turnedOf sg cs ∧ fs = cs.map fun c => 1 + c.fmod 3
theorem Made.w8 {W T : Str} {fs : List Int} (h : Made W T fs) : W.length = 8 := by obtain ⟨sg, cs, h1, h2, rfl, rfl, rfl⟩ := h; rw [whole_len h1]; exact h2.1
theorem Made.t8 {W T : Str} {fs : List Int} (h : Made W T fs) : T.length = 8 := by obtain ⟨sg, cs, h1, h2, rfl, rfl, rfl⟩ := h; rw [turned_len h1]; exact h2.1
theorem Made.f8 {W T : Str} {fs : List Int} (h : Made W T fs) : fs.length = 8 := by obtain ⟨sg, cs, h1, h2, rfl, rfl, rfl⟩ := h; rw [List.length_map]; exact h2.1
theorem Made.fb {W T : Str} {fs : List Int} (h : Made W T fs) : ∀ x ∈ fs, 0 ≤ x ∧ x ≤ 3 := by
  obtain ⟨sg, cs, h1, h2, rfl, rfl, rfl⟩ := h
  intro x hx
  obtain ⟨c, _, rfl⟩ := List.mem_map.mp hx
  have := fm3 c
  omega
theorem Made.dot {W T : Str} {fs : List Int} (h : Made W T fs) : NoDot W := by obtain ⟨sg, cs, h1, h2, rfl, rfl, rfl⟩ := h; exact whole_nodot h1 cs
theorem Made.cmp {W T : Str} {fs : List Int} (h : Made W T fs) {i j : Nat} (_hi : i < 8) (_hj : j < 8) : cmpZ (Txt.slice W none (some (1 + (i : Int)))) (Txt.slice W (some (0 + (j : Int))) none) = sgI (numE (fs.take (i + 1)) - numE (fs.drop j)) := by
  obtain ⟨sg, cs, h1, h2, rfl, rfl, rfl⟩ := h
  obtain ⟨x, y, z, e, hx, hy, _⟩ := h1.three
  have := cmp_parts (us := cs.take (i + 1)) (vs := cs.drop j) (by rw [List.length_take, h2.1]; omega) (by rw [List.length_drop, h2.1]; omega) (a := Txt.slice (wholeOf sg cs) none (some (1 + (i : Int)))) (b := Txt.slice (wholeOf sg cs) (some (0 + (j : Int))) none) hx hy
    (by rw [sl_to _ (by omega), whole_lst e, show (1 + (i : Int)).toNat = i + 1 by omega, List.map_take]) (by rw [sl_from _ (by omega), whole_lst e, show (0 + (j : Int)).toNat = j by omega, List.map_drop])
  rw [this, List.map_take, List.map_drop]
theorem Made.anti {W T : Str} {fs : List Int} (h : Made W T fs) {i : Nat} : Anti (lst (Txt.slice W none (some (1 + (i : Int))))) (lst (Txt.slice T none (some (1 + (i : Int))))) := by
  obtain ⟨sg, cs, h1, h2, rfl, rfl, rfl⟩ := h
  rw [sl_to _ (by omega), sl_to _ (by omega)]
  exact (anti_made h1 cs).take _
theorem numE_bd {ns : List Int} (h : ∀ x ∈ ns, 0 ≤ x ∧ x ≤ 3) : 0 ≤ numE ns ∧ numE ns < 65536 := numK_bd 8 (padE ns) (Nat.le_of_eq (padE_len ns)) (padE_bd h)
/-- one pair of the law's: a text, a number -/
def tupOf (x : Str) (t : Tok) (n : Int) (u : Tok) (T : Addr) (o : Obj) : Prop := ∃ k, o = { cls := .type "tuple", data := .seq #[.str x t, .int n u] k }
/-- the first j pairs of beginnings and their numbers -/
def Fronts (whole : Str) (fs : List Int) (j : Nat) (zs : List Value) (nw : List (Addr × Obj)) : Prop :=
  zs.length = j ∧ ∀ i, i < j → ∃ T t u o, zs[i]? = some (.ref T) ∧ (T, o) ∈ nw ∧ tupOf (Txt.slice whole none (some (1 + (i : Int)))) t (numE (fs.take (i + 1))) u T o
theorem Fronts.nil {whole : Str} {fs : List Int} : Fronts whole fs 0 [] [] := ⟨rfl, fun i hi => absurd hi (Nat.not_lt_zero i)⟩
theorem Fronts.len {whole : Str} {fs : List Int} {j : Nat} {zs : List Value} {nw : List (Addr × Obj)} (h : Fronts whole fs j zs nw) : zs.length = j := h.1
theorem Fronts.snoc {whole : Str} {fs : List Int} {j : Nat} {zs : List Value} {nw : List (Addr × Obj)} (h : Fronts whole fs j zs nw) {T : Addr} {o : Obj} {t u : Tok} (ho : tupOf (Txt.slice whole none (some (1 + (j : Int)))) t (numE (fs.take (j + 1))) u T o) :
    Fronts whole fs (j + 1) (zs ++ [.ref T]) ((T, o) :: nw) := by
  refine ⟨by rw [List.length_append, h.1]; rfl, fun i hi => ?_⟩
  by_cases hij : i < j
  · obtain ⟨T', t', u', o', e, hm, ho'⟩ := h.2 i hij
    exact ⟨T', t', u', o', by rw [List.getElem?_append_left (by rw [h.1]; exact hij)]; exact e, List.mem_cons_of_mem _ hm, ho'⟩
  · obtain rfl : i = j := by omega
    exact ⟨T, t, u, o, by rw [List.getElem?_append_right (Nat.le_of_eq h.1), h.1, Nat.sub_self]; rfl, List.mem_cons_self .., ho⟩
/-- the first j pairs of ends and their numbers -/
def Behinds (whole : Str) (fs : List Int) (j : Nat) (zs : List Value) (nw : List (Addr × Obj)) : Prop :=
  zs.length = j ∧ ∀ i, i < j → ∃ T t u o, zs[i]? = some (.ref T) ∧ (T, o) ∈ nw ∧ tupOf (Txt.slice whole (some (0 + (i : Int))) none) t (numE (fs.drop i)) u T o
theorem Behinds.nil {whole : Str} {fs : List Int} : Behinds whole fs 0 [] [] := ⟨rfl, fun i hi => absurd hi (Nat.not_lt_zero i)⟩
theorem Behinds.len {whole : Str} {fs : List Int} {j : Nat} {zs : List Value} {nw : List (Addr × Obj)} (h : Behinds whole fs j zs nw) : zs.length = j := h.1
theorem Behinds.snoc {whole : Str} {fs : List Int} {j : Nat} {zs : List Value} {nw : List (Addr × Obj)} (h : Behinds whole fs j zs nw) {T : Addr} {o : Obj} {t u : Tok} (ho : tupOf (Txt.slice whole (some (0 + (j : Int))) none) t (numE (fs.drop j)) u T o) :
    Behinds whole fs (j + 1) (zs ++ [.ref T]) ((T, o) :: nw) := by
  refine ⟨by rw [List.length_append, h.1]; rfl, fun i hi => ?_⟩
  by_cases hij : i < j
  · obtain ⟨T', t', u', o', e, hm, ho'⟩ := h.2 i hij
    exact ⟨T', t', u', o', by rw [List.getElem?_append_left (by rw [h.1]; exact hij)]; exact e, List.mem_cons_of_mem _ hm, ho'⟩
  · obtain rfl : i = j := by omega
    exact ⟨T, t, u, o, by rw [List.getElem?_append_right (Nat.le_of_eq h.1), h.1, Nat.sub_self]; rfl, List.mem_cons_self .., ho⟩
set_option maxHeartbeats 0 in
theorem law_holds : PySem.Challenge.rw_pk0040_01.Holds := hd (by
  k_fill
  intro w s₀ s₁ mg mb G Y fa o pm cd doc dV kV ho hd hcd hD hmg hg args vals as hpre hlay hrd hwl hlo
  have KX := kIn_of Y
  refine Ground.open G ?_
  intro T B D TE TW
  refine guard_noD D (by decide +kernel) ?_
  clear D
  obtain ⟨_, _, he, B0⟩ := based_of_top T rfl hmg ho hd
  have he' : cd = _ := he
  subst he'
  clear he hmg
  wrow_args hpre hlay hrd hwl hlo
  first | refine callC_kw (enter_call ?_) | refine enter_call ?_
  w_top on
  have K0 := below_caller (Top.heap T)
  have he := Dflts.none hD rfl
  subst he
  have he := Dflts.noKw hD
  subst he
  refine call_cellsN (by decide) ho (fd_plain hd) (Top.nolimit T) hcd rfl (kinds_of (by kinds_ok)) (by decide) fun h₁ tk₁ cells F N0 X0 => ?_
  dsimp only
  obtain ⟨o6, o5, o4, o3, o2, o1, hcs, d6, d5, d4, d3, d2, d1⟩ := cells6 X0
  subst hcs
  clear X0 hd hD hcd ho B G TE TW
  (rename Heap.IsList _ _ _ => hL); (rename IntsAre _ _ => hI)
  rename ReadsAll _ _ _ _ => z1; clear z1
  replace F : Fr s₁.heap s₁.heap.objs.size h₁ (fun _ => none) := F
  replace d6 : o6.data = .cell none := d6
  replace d5 : o5.data = .cell none := d5
  replace d4 : o4.data = .cell none := d4
  replace d3 : o3.data = .cell none := d3
  replace d2 : o2.data = .cell none := d2
  replace d1 : o1.data = .cell (some (.ref _)) := d1
  rename_i w7 w6 ns hs hlay0 hLz hr1 hl2 w4 w3 l its w0 w1 r0 hr hcond hcond2
  clear hs hlay0 hLz hr1 hl2 w1 r0 hr hcond2
  replace hcond : ns.length ≤ 63 := by omega
  replace K0 : Below callerA s₁.heap [] s₁.heap := K0
  have htop : Top hd.view_39 (looseW hd.view_39 []) (ExcName.means s₀.heap) mg mb s₁.heap := T
  generalize hLL : s₁.heap.objs.size = L at *
  refine seq_stmt (fun s' => ∃ cs m D ys, OffC L D ∧ Cells8 cs ∧ IntsAre ys cs ∧ m (Str.ofString "cells") = some (.ref D) ∧ LSt s₁ L (some (.ref l)) none none none m [(D, LCg.lst ys)] s') (fun E' => ?st1) ?rest
  case st1 =>
    refine lc_assign (by with_unfolding_all rfl) (by with_unfolding_all rfl) rfl (by decide) ?_ (fun _ => rfl)
    k_steps
    unfold Stopped
    (rename Fr _ _ _ _ => lF'); (rename News _ _ _ _ => lN')
    dsimp only at lN'
    refine call_enum_J (items := [_, _, _, _, _, _, _, _]) (fun i ys => ∃ cs : List Int, IntsAre ys cs ∧ cs.length = i ∧ ∀ c ∈ cs, 0 ≤ c ∧ c < 1000000) rfl (List.mem_cons_self ..) (Nat.le_of_ble_eq_true rfl) (by decide) rfl rfl rfl (by decide +kernel) lF' lN' ⟨[], .nil, rfl, by simp⟩ ?len ?turn ?done
    case len =>
      rintro i ys ⟨cs, h1, h2, _⟩
      rw [h1.length, h2]; exact Nat.le_refl _
    case turn =>
      clear lF' lN'
      rintro e it i v₁ v₂ ys oe oit C oC D m₂ h tk gens E2 hi hv ⟨t, rfl⟩ ⟨cs, hcs, hcl, hcb⟩ hb hoC hm1 hm2 F2 N2
      obtain ⟨b, tb, rfl, hbn⟩ : ∃ (b : Int) (tb : Tok), v₂ = .int b tb ∧ (b = 0 ∨ b = 1) := by
        have : v₂ ∈ _ := List.mem_of_getElem? hv
        simp only [List.mem_cons, List.not_mem_nil, or_false] at this
        rcases this with rfl | rfl | rfl | rfl | rfl | rfl | rfl | rfl <;> exact ⟨_, _, rfl, by simp⟩
      dsimp only at hb ⊢
      have hpick := hI.pick (some (i : Int)) (some 60) (some 8)
      k_steps
      (rename Fr _ _ _ _ => fE); (rename News _ _ _ _ => nE)
      refine PEnd.intro hb fE nE (fun p hp => List.mem_cons_of_mem _ hp) ⟨cs ++ [_], hcs.append (.cons _ _ .nil), by rw [List.length_append, hcl]; rfl, fun c hc => ?_⟩
      rcases List.mem_append.mp hc with hc | hc
      · exact hcb c hc
      · obtain rfl := List.mem_singleton.mp hc
        exact fm6 _
    case done =>
      clear lF' lN'
      rintro D C oC m' ys nw h tk gens hb F2 N2 hC hCD off ⟨rfl, cs, hcs, hcl, hcb⟩
      simp only [List.nil_append] at N2 off
      dsimp only at hb ⊢
      k_steps
      (rename Fr _ _ _ _ => fE); (rename News _ _ _ _ => nE)
      refine AsgPost.intro ([(L + 1 + 1 + 1 + 1 + 1 + 1, o6), (L + 1 + 1 + 1 + 1 + 1, o5), (L + 1 + 1 + 1 + 1, o4), (L + 1 + 1 + 1, o3), (L + 1 + 1, o2), (L + 1, o1)] ++ [(D, LCg.lst ys)]) hb fE nE (fun p hp => ?_) (fun p hp => ?_) fun h' tk' gens' hb' F' N' =>
        Aft.go ⟨cs, _, D, ys, OffC.of (P := fun a => a ≠ C) (fun p hp => off p (List.mem_cons_of_mem _ hp)), ⟨hcl, hcb⟩, hcs, if_pos rfl, h', tk', gens', o1, o2, o3, o4, o5, o6, _, _, rfl, hb', F', N', d1, d2, d3, d4, d5, d6⟩
      · rcases List.mem_cons.mp hp with rfl | hp
        · exact List.mem_cons_self ..
        · rcases List.mem_append.mp hp with hp | hp
          · exact List.mem_cons_of_mem _ (List.mem_cons_of_mem _ (List.mem_cons_of_mem _ hp))
          · obtain rfl := List.mem_singleton.mp hp
            exact List.mem_cons_of_mem _ (List.mem_cons_self ..)
      · rcases List.mem_append.mp hp with hp | hp
        · exact (off p (List.mem_cons_of_mem _ hp)).1
        · obtain rfl := List.mem_singleton.mp hp
          exact Ne.symm hCD
  case rest =>
    clear N0 F d1 d2 d3 d4 d5 d6
    rintro s' ⟨cs, m, D, ys, offD, hcs8, hys, hm, h, tk, gens, o1, o2, o3, o4, o5, o6, c5, c6, rfl, hb, F, N, d1, d2, d3, d4, d5, d6⟩
    refine seq_stmt (fun s' => ∃ m D ys sg t, OffC L D ∧ Signs sg ∧ IntsAre ys cs ∧ m (Str.ofString "cells") = some (.ref D) ∧ LSt s₁ L (some (.ref l)) (some (.str sg t)) none none m [(D, LCg.lst ys)] s') (fun E' => ?st2) ?rest
    case st2 =>
      rw [map1 hm] at F
      have offD' := offD
      unfold OffC at offD'
      k_steps
      all_goals ((rename Fr _ _ _ _ => fE); (rename News _ _ _ _ => nE); (rename _ = Data.cell (some (Value.str _ _)) => dE))
      all_goals (refine Aft.go ⟨_, D, ys, _, _, offD, ?_, hys, if_pos rfl, _, _, gens, o1, _, o3, o4, o5, o6, _, _, rfl, hb, fE, (fun p hp => nE p (List.mem_cons_of_mem _ hp)), d1, dE, d3, d4, d5, d6⟩)
      all_goals first | exact .inl rfl | exact .inr (.inl rfl) | exact .inr (.inr (.inl rfl)) | exact .inr (.inr (.inr rfl))
    case rest =>
      clear hm F N d1 d2 d3 d4 d5 d6 offD hys hb
      rintro s' ⟨m, D, ys, sg, tsg, offD, hsg, hys, hm, h, tk, gens, o1, o2, o3, o4, o5, o6, c5, c6, rfl, hb, F, N, d1, d2, d3, d4, d5, d6⟩
      refine seq_stmt (fun s' => ∃ m D ys tw, OffC L D ∧ IntsAre ys cs ∧ m (Str.ofString "cells") = some (.ref D) ∧ LSt s₁ L (some (.ref l)) (some (.str sg tsg)) (some (.str (wholeOf sg cs) tw)) none m [(D, LCg.lst ys)] s') (fun E' => ?st3) ?rest
      case st3 =>
        rw [map1 hm] at F
        have offD' := offD
        unfold OffC at offD'
        k_steps
        unfold Stopped
        refine lc_eval (by with_unfolding_all rfl) rfl (by decide) ?_ (fun _ => rfl)
        k_steps
        unfold Stopped
        (rename Fr _ _ _ _ => lF'); (rename News _ _ _ _ => lN')
        have hsl := hsg.len
        have hyl : ys.length = 8 := by rw [hys.length]; exact hcs8.1
        refine iter_list_J (its := ys) (k := ys.length) (h₀ := s₁.heap) (L := L) (fun j zs nw => nw = [] ∧ StrsAre zs ((cs.take j).map fun c => sgn sg (c.fmod 3))) rfl mem7 (Nat.le_trans (m := 8) (by omega) (by decide)) (by decide) rfl rfl lF' lN' ⟨rfl, .nil⟩ ?len ?cturn ?cdone
        case len =>
          rintro j zs nw ⟨_, h2⟩
          rw [h2.length, List.length_map]; exact List.length_take_le _ _
        case cturn =>
          clear lF' lN'
          rintro I2 j v zs nw oI2 oC C D2 m₂ h2 tk2 gens2 E2 hj hv ⟨rfl, hzs⟩ hb2 hoC hm2 F2 N2 offs ne2
          obtain ⟨x, tx, rfl, hx⟩ := hys.at j v hv
          simp only [List.nil_append] at N2 offs ⊢
          simp only [LCg.Off3, and_true] at offs
          refine wpAny_tests_nil ?_
          rw [if_pos rfl]
          dsimp only at hb2 ⊢
          obtain ⟨hf0, hf3⟩ := fm3 x
          k_steps
          (rename Fr _ _ _ _ => fE); (rename News _ _ _ _ => nE)
          refine CEnd.intro [] hb2 fE nE (fun p hp => hp) trivial ⟨rfl, ?_⟩
          rw [List.take_add_one, hx, List.map_append]
          exact hzs.append' (.cons _ _ .nil)
        case cdone =>
          clear lF' lN'
          rintro D2 oC C m' zs nw h2 tk2 gens2 hb2 F9 N9 hoC hCD offs ⟨rfl, hzs⟩
          clear F9 N9
          dsimp only
          intro h3 F2 N2
          simp only [List.nil_append] at N2 offs
          dsimp only at hb2 ⊢
          rw [hyl, List.take_of_length_le (Nat.le_of_eq hcs8.1)] at hzs
          k_steps
          show wpAny _ _ (call (.builtin "str.join") [.str (Str.ofString "") _, .ref D2]) _ _ _
          refine join_madeW (l := cs) (g := fun c => sgn sg (c.fmod 3)) 1 ⟨_, (N2 _ (List.mem_cons_self ..)).1, rfl, _, rfl⟩ (by simpa using hzs.carried) (fun c _ => Nat.le_of_eq (len_item _ _)) (by rw [hcs8.1]; decide) (by decide +kernel) fun t' k => ?_
          have offD2 := OffC.of (P := fun a => a ≠ oC) offs
          unfold OffC at offD2
          dsimp only
          k_steps
          (rename Fr _ _ _ _ => fE); (rename News _ _ _ _ => nE); (rename _ = Data.cell (some (Value.str _ _)) => dE)
          exact Aft.go ⟨_, D, ys, _, offD, hys, if_pos rfl, _, _, gens2, o1, o2, _, o4, o5, o6, _, _, rfl, (fun q => hb2 (hb q)), fE, (fun p hp => nE p (List.mem_cons_of_mem _ hp)), d1, d2, dE, d4, d5, d6⟩
      case rest =>
        clear hm F N d1 d2 d3 d4 d5 d6 offD hys hb
        rintro s' ⟨m, D, ys, tw, offD, hys, hm, h, tk, gens, o1, o2, o3, o4, o5, o6, c5, c6, rfl, hb, F, N, d1, d2, d3, d4, d5, d6⟩
        refine seq_stmt (fun s' => ∃ m D ys tt, OffC L D ∧ IntsAre ys cs ∧ m (Str.ofString "cells") = some (.ref D) ∧ m (Str.ofString "turned") = some (.str (turnedOf sg cs) tt) ∧ LSt s₁ L (some (.ref l)) (some (.str sg tsg)) (some (.str (wholeOf sg cs) tw)) none m [(D, LCg.lst ys)] s') (fun E' => ?st4) ?rest
        case st4 =>
          rw [map1 hm] at F
          have offD' := offD
          unfold OffC at offD'
          k_steps
          unfold Stopped
          refine lc_eval (by with_unfolding_all rfl) rfl (by decide) ?_ (fun _ => rfl)
          k_steps
          unfold Stopped
          (rename Fr _ _ _ _ => lF'); (rename News _ _ _ _ => lN')
          have hsl := hsg.len
          have hyl : ys.length = 8 := by rw [hys.length]; exact hcs8.1
          refine iter_list_J (its := ys) (k := ys.length) (h₀ := s₁.heap) (L := L) (fun j zs nw => nw = [] ∧ StrsAre zs ((cs.take j).map fun c => sgn sg (2 - c.fmod 3))) rfl mem7 (Nat.le_trans (m := 8) (by omega) (by decide)) (by decide) rfl rfl lF' lN' ⟨rfl, .nil⟩ ?len ?cturn ?cdone
          case len =>
            rintro j zs nw ⟨_, h2⟩
            rw [h2.length, List.length_map]; exact List.length_take_le _ _
          case cturn =>
            clear lF' lN'
            rintro I2 j v zs nw oI2 oC C D2 m₂ h2 tk2 gens2 E2 hj hv ⟨rfl, hzs⟩ hb2 hoC hm2 F2 N2 offs ne2
            obtain ⟨x, tx, rfl, hx⟩ := hys.at j v hv
            simp only [List.nil_append] at N2 offs ⊢
            simp only [LCg.Off3, and_true] at offs
            refine wpAny_tests_nil ?_
            rw [if_pos rfl]
            dsimp only at hb2 ⊢
            obtain ⟨hf0, hf3⟩ := fm3 x
            k_steps
            (rename Fr _ _ _ _ => fE); (rename News _ _ _ _ => nE)
            refine CEnd.intro [] hb2 fE nE (fun p hp => hp) trivial ⟨rfl, ?_⟩
            rw [List.take_add_one, hx, List.map_append]
            exact hzs.append' (.cons _ _ .nil)
          case cdone =>
            clear lF' lN'
            rintro D2 oC C m' zs nw h2 tk2 gens2 hb2 F9 N9 hoC hCD offs ⟨rfl, hzs⟩
            clear F9 N9
            dsimp only
            intro h3 F2 N2
            simp only [List.nil_append] at N2 offs
            dsimp only at hb2 ⊢
            rw [hyl, List.take_of_length_le (Nat.le_of_eq hcs8.1)] at hzs
            k_steps
            show wpAny _ _ (call (.builtin "str.join") [.str (Str.ofString "") _, .ref D2]) _ _ _
            refine join_madeW (l := cs) (g := fun c => sgn sg (2 - c.fmod 3)) 1 ⟨_, (N2 _ (List.mem_cons_self ..)).1, rfl, _, rfl⟩ (by simpa using hzs.carried) (fun c _ => Nat.le_of_eq (len_item _ _)) (by rw [hcs8.1]; decide) (by decide +kernel) fun t' k => ?_
            have offD2 := OffC.of (P := fun a => a ≠ oC) offs
            unfold OffC at offD2
            dsimp only
            k_steps
            (rename Fr _ _ _ _ => fE); (rename News _ _ _ _ => nE)
            exact Aft.go ⟨_, D, ys, _, offD, hys, rfl, rfl, _, _, gens2, o1, o2, o3, o4, o5, o6, _, _, rfl, (fun q => hb2 (hb q)), fE, (fun p hp => nE p (List.mem_cons_of_mem _ hp)), d1, d2, d3, d4, d5, d6⟩
        case rest =>
          clear hm F N d1 d2 d3 d4 d5 d6 offD hys hb
          rintro s' ⟨m, D, ys, tt, offD, hys, hm, hmt, h, tk, gens, o1, o2, o3, o4, o5, o6, c5, c6, rfl, hb, F, N, d1, d2, d3, d4, d5, d6⟩
          refine seq_stmt (fun s' => ∃ m D ys, OffC L D ∧ IntsAre ys (cs.map fun c => 1 + c.fmod 3) ∧ m (Str.ofString "turned") = some (.str (turnedOf sg cs) tt) ∧ LSt s₁ L (some (.ref l)) (some (.str sg tsg)) (some (.str (wholeOf sg cs) tw)) (some (.ref D)) m [(D, LCg.lst ys)] s') (fun E' => ?st5) ?rest
          case st5 =>
            rw [map1 hm] at F
            have offD' := offD
            unfold OffC at offD'
            k_steps
            unfold Stopped
            walk_at "exec Assign"
            k_steps
            unfold Stopped
            refine lc_eval (by with_unfolding_all rfl) rfl (by decide) ?_ (fun _ => rfl)
            k_steps
            unfold Stopped
            (rename Fr _ _ _ _ => lF'); (rename News _ _ _ _ => lN')
            have hyl : ys.length = 8 := by rw [hys.length]; exact hcs8.1
            refine iter_list_J (its := ys) (k := ys.length) (h₀ := s₁.heap) (L := L) (fun j zs nw => nw = [] ∧ IntsAre zs ((cs.take j).map fun c => 1 + c.fmod 3)) rfl mem7 (Nat.le_trans (m := 8) (by omega) (by decide)) (by decide) rfl rfl lF' lN' ⟨rfl, .nil⟩ ?len ?cturn ?cdone
            case len =>
              rintro j zs nw ⟨_, h2⟩
              rw [h2.length, List.length_map]; exact List.length_take_le _ _
            case cturn =>
              clear lF' lN'
              rintro I2 j v zs nw oI2 oC C D2 m₂ h2 tk2 gens2 E2 hj hv ⟨rfl, hzs⟩ hb2 hoC hm2 F2 N2 offs ne2
              obtain ⟨x, tx, rfl, hx⟩ := hys.at j v hv
              simp only [List.nil_append] at N2 offs ⊢
              simp only [LCg.Off3, and_true] at offs
              refine wpAny_tests_nil ?_
              rw [if_pos rfl]
              dsimp only at hb2 ⊢
              obtain ⟨hf0, hf3⟩ := fm3 x
              k_steps
              (rename Fr _ _ _ _ => fE); (rename News _ _ _ _ => nE)
              refine CEnd.intro [] hb2 fE nE (fun p hp => hp) trivial ⟨rfl, ?_⟩
              rw [List.take_add_one, hx, List.map_append]
              exact hzs.append (.cons _ _ .nil)
            case cdone =>
              clear lF' lN'
              rintro D2 C oC m' zs nw h2 tk2 gens2 hb2 F9 N9 hoC hCD offs ⟨rfl, hzs⟩
              clear F9 N9
              dsimp only
              intro h3 F2 N2
              simp only [List.nil_append] at N2 offs
              rw [hyl, List.take_of_length_le (Nat.le_of_eq hcs8.1)] at hzs
              have offD2 := OffC.of (P := fun a => a ≠ C) offs
              have offD2' := offD2
              unfold OffC at offD2'
              dsimp only at hb2 ⊢
              k_steps
              (rename Fr _ _ _ _ => fE); (rename News _ _ _ _ => nE); (rename _ = Data.cell (some (Value.ref D2)) => dE)
              refine Aft.go ⟨_, D2, zs, offD2, hzs, ?_, _, _, gens2, o1, o2, o3, _, o5, o6, _, _, rfl, (fun q => hb2 (hb q)), fE, (fun p hp => nE p (sub5 hp)), d1, d2, d3, dE, d5, d6⟩
              exact hmt
          case rest =>
            clear hm F N d1 d2 d3 d4 d5 d6 offD hys hb hmt
            rintro s' ⟨m, D, ys, offD, hys, hmt, h, tk, gens, o1, o2, o3, o4, o5, o6, c5, c6, rfl, hb, F, N, d1, d2, d3, d4, d5, d6⟩
            have hmade : Made (wholeOf sg cs) (turnedOf sg cs) (cs.map fun c => 1 + c.fmod 3) := ⟨sg, cs, hsg, hcs8, rfl, rfl, rfl⟩
            clear hcs8 hsg
            generalize wholeOf sg cs = W at *
            generalize turnedOf sg cs = Tn at *
            generalize (cs.map fun c => 1 + c.fmod 3) = fs at *
            generalize Value.str sg tsg = vsg at *
            clear cs sg
            have hw8 := hmade.w8
            have ht8 := hmade.t8
            have hf8 := hmade.f8
            have hfb := hmade.fb
            have hwd := hmade.dot
            refine seq_stmt (fun s' => ∃ m D3 fr tn, m (Str.ofString "turned") = some (.str Tn tt) ∧ m (Str.ofString "fronts") = some (.ref D3) ∧ Fronts W fs 8 fr tn ∧
              LSt s₁ L (some (.ref l)) (some vsg) (some (.str W tw)) (some (.ref D)) m ((D3, LCg.lst fr) :: (D, LCg.lst ys) :: tn) s') (fun E' => ?st6) ?rest
            case st6 =>
              have offD' := offD
              unfold OffC at offD'
              refine lc_assign (by with_unfolding_all rfl) (by with_unfolding_all rfl) rfl (by decide) ?_ (fun _ => rfl)
              k_steps
              unfold Stopped
              (rename Fr _ _ _ _ => lF'); (rename News _ _ _ _ => lN'); (rename IsRange _ _ _ _ _ _ _ _ => rgX)
              refine iter_range_J (h₀ := s₁.heap) (L := L) (n := 8) (fun j zs nw => Fronts W fs j zs nw) rfl rgX (by decide) (by decide) (by decide) (by decide) rfl rfl lF' lN' Fronts.nil ?len ?cturn ?cdone
              case len => exact fun i zs nw h => Nat.le_of_eq h.len
              case cturn =>
                clear lF' lN' rgX
                rintro I2 j v zs nw oI2 oC C D2 m₂ h2 tk2 gens2 E2 hj ⟨t2, rfl⟩ hfr hb2 hoC hm2 F2 N2 offs ne2
                refine wpAny_tests_nil ?_
                rw [if_pos rfl]
                have N3 : News _ _ _ (_ :: _ :: _ :: (_ ++ nw)) := fun p hp => N2 p (mid3 hp)
                simp only [List.cons_append, List.nil_append] at N3
                have offs' := LCg.Off3.of (fun p hp => offs.mem p (List.mem_append_left _ hp)) (l := nw)
                clear N2 offs
                dsimp only at hb2 ⊢
                k_steps
                unfold Stopped
                (rename Fr _ _ _ _ => cF); (rename News _ _ _ _ => cN); (rename IntsAre _ (List.take _ fs) => cI)
                refine' use_ctrG (c_number _ _ _ _ _ _ _) K0 cF KX cN htop rfl ⟨⟨_, (cN _ (List.mem_cons_self ..)).1, rfl, _, rfl⟩, cI, ?kl_1, fun x hx => hfb x (List.mem_of_mem_take hx)⟩ ?kd_1 ?ku_1 ?kR_1
                case kl_1 => rw [List.length_take]; omega
                case kd_1 => ktr_room
                case ku_1 => ktr_units
                intro t9 h9 tk9 gens9 hb9 F9 N9
                clear cF cN
                dsimp only at hb9 ⊢
                k_steps
                (rename Fr _ _ _ _ => fE); (rename News _ _ _ _ => nE)
                rename _ ∧ _ => lT
                refine CEnd.intro (_ :: nw) (fun q => hb9 (hb2 q)) fE nE (fun p hp => sub6 hp) ⟨⟨?_, ?_, ?_⟩, offs'⟩ (hfr.snoc (T := _) ⟨_, by rw [show (1 + (j : Int)).toNat = j + 1 from by omega]⟩)
                · exact Ne.symm (Nat.ne_of_lt lT.2.1)
                · exact Ne.symm (Nat.ne_of_lt lT.2.2.1)
                · exact Ne.symm (Nat.ne_of_lt lT.2.2.2.1)
              case cdone =>
                clear lF' lN' rgX
                rintro D2 C oC m' zs nw h2 tk2 gens2 hb2 F2 N2 hoC hCD offs hfr
                have N3 : News _ _ _ (_ :: _ :: (_ ++ nw)) := fun p hp => N2 p (mid2 hp)
                simp only [List.cons_append, List.nil_append] at N3
                clear N2
                dsimp only at hb2 ⊢
                k_steps
                (rename Fr _ _ _ _ => fE); (rename News _ _ _ _ => nE)
                refine AsgPost.intro ([(L + 1 + 1 + 1 + 1 + 1 + 1, o6), (L + 1 + 1 + 1 + 1 + 1, o5), (L + 1 + 1 + 1 + 1, o4), (L + 1 + 1 + 1, o3), (L + 1 + 1, o2), (L + 1, o1)] ++ ((D2, LCg.lst zs) :: (D, LCg.lst ys) :: nw)) hb2 fE nE (fun p hp => sub7 hp) (fun p hp => ?_) fun h' tk' gens' hb' F' N' =>
                  Aft.go ⟨_, D2, zs, nw, (by exact hmt), (by exact if_pos rfl), hfr, h', tk', gens', o1, o2, o3, o4, o5, o6, _, _, rfl, (fun q => hb' (hb q)), F', N', d1, d2, d3, d4, d5, d6⟩
                rcases List.mem_append.mp hp with hp | hp
                · exact (offs p (List.mem_append_right _ (List.mem_append_left _ hp : p ∈ [_, _, _, _, _, _] ++ [_]))).1
                · rcases List.mem_cons.mp hp with rfl | hp
                  · exact Ne.symm hCD
                  · rcases List.mem_cons.mp hp with rfl | hp
                    · exact (offs _ (List.mem_append_right _ (by simp))).1
                    · exact (offs p (List.mem_append_left _ hp)).1
            case rest =>
              clear F N d1 d2 d3 d4 d5 d6 hb hmt
              rintro s' ⟨m, D3, fr, tn, hmt, hmf, hfr, h, tk, gens, o1, o2, o3, o4, o5, o6, c5, c6, rfl, hb, F, N, d1, d2, d3, d4, d5, d6⟩
              refine seq_stmt (fun s' => ∃ m D3 fr tn D4 br tb, m (Str.ofString "turned") = some (.str Tn tt) ∧ m (Str.ofString "fronts") = some (.ref D3) ∧ m (Str.ofString "behinds") = some (.ref D4) ∧ Fronts W fs 8 fr tn ∧ Behinds W fs 8 br tb ∧
                LSt s₁ L (some (.ref l)) (some vsg) (some (.str W tw)) (some (.ref D)) m ((D4, LCg.lst br) :: (D3, LCg.lst fr) :: (D, LCg.lst ys) :: (tn ++ tb)) s') (fun E' => ?st7) ?rest
              case st7 =>
                have offD' := offD
                unfold OffC at offD'
                refine lc_assign (by with_unfolding_all rfl) (by with_unfolding_all rfl) rfl (by decide) ?_ (fun _ => rfl)
                k_steps
                unfold Stopped
                (rename Fr _ _ _ _ => lF'); (rename News _ _ _ _ => lN'); (rename IsRange _ _ _ _ _ _ _ _ => rgX)
                refine iter_range_J (h₀ := s₁.heap) (L := L) (n := 8) (fun j zs nw => Behinds W fs j zs nw) rfl rgX (by decide) (by decide) (by decide) (by decide) rfl rfl lF' lN' Behinds.nil ?len ?cturn ?cdone
                case len => exact fun i zs nw h => Nat.le_of_eq h.len
                case cturn =>
                  clear lF' lN' rgX
                  rintro I2 j v zs nw oI2 oC C D2 m₂ h2 tk2 gens2 E2 hj ⟨t2, rfl⟩ hbr hb2 hoC hm2 F2 N2 offs ne2
                  refine wpAny_tests_nil ?_
                  rw [if_pos rfl]
                  obtain ⟨rr, hrr⟩ : ∃ rr, rr = tn ++ nw := ⟨_, rfl⟩
                  have N3 : News _ _ _ (_ :: _ :: _ :: ([_, _, _, _, _, _, _, _] ++ rr)) := fun p hp => N2 p (mid3r hrr hp)
                  simp only [List.cons_append, List.nil_append] at N3
                  have offs' := LCg.Off3.of (fun p hp => offs.mem p (List.mem_append_left _ hp)) (l := nw)
                  clear N2 offs
                  dsimp only at hb2 ⊢
                  k_steps
                  unfold Stopped
                  (rename Fr _ _ _ _ => cF); (rename News _ _ _ _ => cN); (rename IntsAre _ (List.drop _ fs) => cI)
                  refine' use_ctrG (c_number _ _ _ _ _ _ _) K0 cF KX cN htop rfl ⟨⟨_, (cN _ (List.mem_cons_self ..)).1, rfl, _, rfl⟩, cI, ?kl_2, fun x hx => hfb x (List.mem_of_mem_drop hx)⟩ ?kd_2 ?ku_2 ?kR_2
                  case kl_2 => rw [List.length_drop]; omega
                  case kd_2 => ktr_room
                  case ku_2 => ktr_units
                  intro t9 h9 tk9 gens9 hb9 F9 N9
                  clear cF cN
                  dsimp only at hb9 ⊢
                  k_steps
                  (rename Fr _ _ _ _ => fE); (rename News _ _ _ _ => nE)
                  rename _ ∧ _ => lT
                  refine CEnd.intro (_ :: nw) (fun q => hb9 (hb2 q)) fE nE (fun p hp => sub6r (l := [_, _, _, _, _, _, _, _]) hrr hp) ⟨⟨?_, ?_, ?_⟩, offs'⟩ (hbr.snoc (T := _) ⟨_, by rw [show (0 + (j : Int)).toNat = j from by omega]⟩)
                  · exact Ne.symm (Nat.ne_of_lt lT.2.1)
                  · exact Ne.symm (Nat.ne_of_lt lT.2.2.1)
                  · exact Ne.symm (Nat.ne_of_lt lT.2.2.2.1)
                case cdone =>
                  clear lF' lN' rgX
                  rintro D2 C oC m' zs nw h2 tk2 gens2 hb2 F2 N2 hoC hCD offs hbr
                  obtain ⟨rr, hrr⟩ : ∃ rr, rr = tn ++ nw := ⟨_, rfl⟩
                  have N3 : News _ _ _ (_ :: _ :: ([_, _, _, _, _, _, _, _] ++ rr)) := fun p hp => N2 p (mid2r hrr hp)
                  simp only [List.cons_append, List.nil_append] at N3
                  clear N2
                  dsimp only at hb2 ⊢
                  k_steps
                  (rename Fr _ _ _ _ => fE); (rename News _ _ _ _ => nE)
                  refine AsgPost.intro ([(L + 1 + 1 + 1 + 1 + 1 + 1, o6), (L + 1 + 1 + 1 + 1 + 1, o5), (L + 1 + 1 + 1 + 1, o4), (L + 1 + 1 + 1, o3), (L + 1 + 1, o2), (L + 1, o1)] ++ ((D2, LCg.lst zs) :: (D3, LCg.lst fr) :: (D, LCg.lst ys) :: (tn ++ nw))) hb2 fE nE (fun p hp => sub7r hrr hp) (fun p hp => ?_) fun h' tk' gens' hb' F' N' =>
                    Aft.go ⟨_, D3, fr, tn, D2, zs, nw, (by exact hmt), (by exact hmf), (by exact if_pos rfl), hfr, hbr, h', tk', gens', o1, o2, o3, o4, o5, o6, _, _, rfl, (fun q => hb' (hb q)), F', N', d1, d2, d3, d4, d5, d6⟩
                  rcases List.mem_append.mp hp with hp | hp
                  · exact (offs p (List.mem_append_right _ (List.mem_append_left _ hp : p ∈ [_, _, _, _, _, _] ++ _))).1
                  · rcases List.mem_cons.mp hp with rfl | hp
                    · exact Ne.symm hCD
                    · rcases List.mem_cons.mp hp with rfl | hp
                      · exact (offs _ (List.mem_append_right _ (by simp))).1
                      · rcases List.mem_cons.mp hp with rfl | hp
                        · exact (offs _ (List.mem_append_right _ (by simp))).1
                        · rcases List.mem_append.mp hp with hp | hp
                          · exact (offs p (List.mem_append_right _ (by simp [hp]))).1
                          · exact (offs p (List.mem_append_left _ hp)).1
              case rest =>
                clear F N d1 d2 d3 d4 d5 d6 hb hmt hmf hfr
                rintro s' ⟨m, D3, fr, tn, D4, br, tb, hmt, hmf, hmb, hfr, hbr, h, tk, gens, o1, o2, o3, o4, o5, o6, c5, c6, rfl, hb, F, N, d1, d2, d3, d4, d5, d6⟩
                refine seq_stmt (fun s' => ∃ m, m (Str.ofString "turned") = some (.str Tn tt) ∧ LSt s₁ L (some (.ref l)) (some vsg) (some (.str W tw)) (some (.ref D)) m [] s') (fun E' => ?st8) ?rest
                case st8 =>
                  have hfl : fr.length = 8 := hfr.1
                  have hbl : br.length = 8 := hbr.1
                  rw [map3m hmt hmf hmb] at F
                  refine wpAny_For (hs := fun _ => rfl) ?_
                  k_steps
                  unfold Stopped
                  (rename Fr _ _ _ _ => lF'); (rename News _ _ _ _ => lN')
                  refine for_list_J (its := fr) (k := fr.length) (fun i m nw => nw = (L + 1 + 1 + 1 + 1 + 1 + 1, o6) :: (L + 1 + 1 + 1 + 1 + 1, o5) :: (L + 1 + 1 + 1 + 1, o4) :: (L + 1 + 1 + 1, o3) :: (L + 1 + 1, o2) :: (L + 1, o1) :: (D4, LCg.lst br) :: (D3, LCg.lst fr) :: (D, LCg.lst ys) :: (tn ++ tb) ∧ m (Str.ofString "turned") = some (.str Tn tt) ∧ m (Str.ofString "behinds") = some (.ref D4)) rfl
                    (fun i mm nn h => by rw [h.1]; exact List.mem_cons_of_mem _ mem7) lF' lN' ⟨rfl, rfl, rfl⟩ ?turn ?done
                  case turn =>
                    clear lF' lN'
                    rintro I i v m₁ nw oI h tk gens2 E2 hi hv ⟨rfl, hmt1, hmb1⟩ hlI hb2 F N off
                    obtain ⟨T, t, u, o, hfi, hmem, kT, rfl⟩ := hfr.2 i (by omega)
                    obtain rfl : Value.ref T = v := by rw [hfi] at hv; exact Option.some.inj hv
                    refine go_pair N hlI ?_
                    have N2 : News _ _ _ ((I, oI) :: (T, _) :: _) := fun p hp => by
                      rcases List.mem_cons.mp hp with rfl | hp
                      · exact N _ (List.mem_cons_self ..)
                      · rcases List.mem_cons.mp hp with rfl | hp
                        · exact N _ (List.mem_cons_of_mem _ (List.mem_cons_of_mem _ (List.mem_cons_of_mem _ (List.mem_cons_of_mem _ (List.mem_cons_of_mem _ (List.mem_cons_of_mem _ (List.mem_cons_of_mem _ (List.mem_cons_of_mem _ (List.mem_cons_of_mem _ (List.mem_cons_of_mem _ (List.mem_append_left _ hmem)))))))))))
                        · exact N p (List.mem_cons_of_mem _ hp)
                    rw [map2m hmt1 hmb1] at F
                    clear N off
                    dsimp only at hb2 ⊢
                    k_steps
                    unfold Stopped
                    have key := fun (j : Nat) (hj : j < 8) => hmade.cmp (i := i) (j := j) (by omega) hj
                    have slo : (Txt.slice W none (some (1 + (i : Int)))).length ≤ 8 := le_slice (by omega)
                    have hhb := numE_bd (ns := List.take (i + 1) fs) fun x hx => hfb x (List.mem_of_mem_take hx)
                    generalize numE (List.take (i + 1) fs) = here at *
                    generalize Txt.slice W none (some (1 + (i : Int))) = one at *
                    refine wpAny_For (hs := fun _ => rfl) ?_
                    k_steps
                    unfold Stopped
                    (rename Fr _ _ _ _ => lF'); (rename News _ _ _ _ => lN')
                    refine for_list_J (its := br) (k := br.length) (fun j m nw => nw = (I, oI) :: (T, _) :: (L + 1 + 1 + 1 + 1 + 1 + 1, o6) :: (L + 1 + 1 + 1 + 1 + 1, o5) :: (L + 1 + 1 + 1 + 1, o4) :: (L + 1 + 1 + 1, o3) :: (L + 1 + 1, o2) :: (L + 1, o1) :: (D4, LCg.lst br) :: (D3, LCg.lst fr) :: (D, LCg.lst ys) :: (tn ++ tb) ∧ m (Str.ofString "turned") = some (.str Tn tt) ∧ m (Str.ofString "behinds") = some (.ref D4) ∧ m (Str.ofString "one") = some (.str one t) ∧ m (Str.ofString "here") = some (.int here u)) rfl
                      (fun i mm nn h => by rw [h.1]; exact List.mem_cons_of_mem _ (List.mem_cons_of_mem _ mem7)) lF' lN' ⟨rfl, rfl, rfl, rfl, rfl⟩ ?turn2 ?done2
                    case turn2 =>
                      clear lF' lN'
                      rintro I2 j v2 m₂ nw2 oI2 h2 tk2 gens3 E3 hj hv2 ⟨rfl, hmt2, hmb2, hm1, hm2⟩ hlI2 hb3 F N off2
                      obtain ⟨T2, t2, u2, o2', hfj, hmem2, kT2, rfl⟩ := hbr.2 j (by omega)
                      obtain rfl : Value.ref T2 = v2 := by rw [hfj] at hv2; exact Option.some.inj hv2
                      refine go_pair N hlI2 ?_
                      have N3 : News _ _ _ ((I2, oI2) :: (T2, _) :: _) := fun p hp => by
                        rcases List.mem_cons.mp hp with rfl | hp
                        · exact N _ (List.mem_cons_self ..)
                        · rcases List.mem_cons.mp hp with rfl | hp
                          · exact N _ (List.mem_cons_of_mem _ (List.mem_cons_of_mem _ (List.mem_cons_of_mem _ (List.mem_cons_of_mem _ (List.mem_cons_of_mem _ (List.mem_cons_of_mem _ (List.mem_cons_of_mem _ (List.mem_cons_of_mem _ (List.mem_cons_of_mem _ (List.mem_cons_of_mem _ (List.mem_cons_of_mem _ (List.mem_cons_of_mem _ (List.mem_append_right _ hmem2)))))))))))))
                          · exact N p (List.mem_cons_of_mem _ hp)
                      rw [map4m hmt2 hmb2 hm1 hm2] at F
                      have kj := key j (by omega)
                      have slt : (Txt.slice W (some (0 + (j : Int))) none).length ≤ 8 := le_slice (by omega)
                      have htb := numE_bd (ns := List.drop j fs) fun x hx => hfb x (List.mem_of_mem_drop hx)
                      generalize numE (List.drop j fs) = there at *
                      generalize Txt.slice W (some (0 + (j : Int))) none = two at *
                      clear N off2 key
                      dsimp only at hb3 ⊢
                      k_steps
                      unfold Stopped
                      (rename Fr _ _ _ _ => cF); (rename News _ _ _ _ => cN)
                      refine' use_ctr (c_strcoll _ _ _ _ _ _ _ _) K0 cF KX cN htop rfl trivial ?kd_3 ?ku_3 ?kR_3
                      case kd_3 => ktr_room
                      case ku_3 => ktr_units
                      intro t9 h9 tk9 F9 N9
                      clear cF cN
                      dsimp only
                      k_steps
                      unfold Stopped
                      (rename Fr _ _ _ _ => cF); (rename News _ _ _ _ => cN)
                      refine' use_ctr (c_strcoll _ _ _ _ _ _ _ _) K0 cF KX cN htop rfl trivial ?kd_4 ?ku_4 ?kR_4
                      case kd_4 => ktr_room
                      case ku_4 => ktr_units
                      intro t9 h9 tk9 F9 N9
                      clear cF cN
                      dsimp only
                      k_steps
                      · (rename Fr _ _ _ _ => fE); (rename News _ _ _ _ => nE)
                        refine FEnd.next _ hb3 fE nE (fun p hp => ?_) rfl ⟨rfl, rfl, rfl, rfl, rfl⟩
                        rcases List.mem_cons.mp hp with rfl | hp
                        · exact List.mem_cons_of_mem _ (List.mem_cons_of_mem _ (List.mem_cons_self ..))
                        · exact List.mem_cons_of_mem _ (List.mem_cons_of_mem _ (List.mem_cons_of_mem _ (List.mem_cons_of_mem _ hp)))
                      · exfalso
                        rename ¬ _ => hq
                        apply hq
                        rw [due_sg, ← kj, cmpZ_anti one two]
                    case done2 =>
                      clear lF' lN'
                      rintro m' nw h3 tk3 gens3 hb3 F3 N3 _ ⟨rfl, hmt3, hmb3, _⟩
                      have hb4 : AllBare gens → AllBare gens3 := fun q => hb3 (hb2 q)
                      dsimp only
                      refine wpAny_execs_nil ?_
                      refine FEnd.next _ hb4 F3 N3 (fun p hp => ?_) rfl ?_
                      · rcases List.mem_cons.mp hp with rfl | hp
                        · exact List.mem_cons_self ..
                        · exact List.mem_cons_of_mem _ (List.mem_cons_of_mem _ hp)
                      · exact ⟨rfl, hmt3, hmb3⟩
                  case done =>
                    clear lF' lN'
                    rintro m' nw h3 tk3 gens3 hb3 F3 N3 _ ⟨rfl, hmt3, hmb3⟩
                    exact Aft.go ⟨m', hmt3, h3, tk3, gens3, o1, o2, o3, o4, o5, o6, _, _, rfl, (fun q => hb3 (hb q)), F3, (fun p hp => N3 p (by
                      rcases (by simpa using hp : _ ∨ _ ∨ _ ∨ _ ∨ _ ∨ _) with rfl | rfl | rfl | rfl | rfl | rfl <;> simp)), d1, d2, d3, d4, d5, d6⟩
                case rest =>
                  clear F N d1 d2 d3 d4 d5 d6 hb hmt hmf hfr hmb hbr
                  rintro s' ⟨m, hmt, h, tk, gens, o1, o2, o3, o4, o5, o6, c5, c6, rfl, hb, F, N, d1, d2, d3, d4, d5, d6⟩
                  refine seq_stmt (fun s' => ∃ m, LSt s₁ L (some (.ref l)) (some vsg) (some (.str W tw)) (some (.ref D)) m [] s') (fun E' => ?st9) ?rest
                  case st9 =>
                    rw [map1 hmt] at F
                    refine wpAny_For (hs := fun _ => rfl) ?_
                    k_steps
                    unfold Stopped
                    (rename Fr _ _ _ _ => lF'); (rename News _ _ _ _ => lN'); (rename IsRange _ _ _ _ _ _ _ _ => rgX)
                    refine for_range_J (n := 8) (fun i m nw => m (Str.ofString "turned") = some (.str Tn tt) ∧ ∃ o5 o6 c5 c6, nw = [(L + 1 + 1 + 1 + 1 + 1 + 1, o6), (L + 1 + 1 + 1 + 1 + 1, o5), (L + 1 + 1 + 1 + 1, o4), (L + 1 + 1 + 1, o3), (L + 1 + 1, o2), (L + 1, o1)] ∧ o5.data = .cell c5 ∧ o6.data = .cell c6) rfl rgX (by decide) (by decide)
                      lF' lN' ⟨rfl, o5, o6, c5, c6, rfl, d5, d6⟩ ?turn ?done
                    case turn =>
                      clear lF' lN' rgX d5 d6 hmt
                      rintro I i v m₁ nw oI h tk gens2 E2 hi ⟨tv, rfl⟩ ⟨hmt, o5, o6, c5, c6, rfl, d5, d6⟩ _ hb2 F N off
                      refine go_name ?_
                      have offI := OffC.of (P := fun _ => True) (D := I) (fun p hp => ⟨trivial, off p hp⟩)
                      unfold OffC at offI
                      rw [map1 hmt] at F
                      clear off
                      dsimp only at hb2 ⊢
                      k_steps
                      unfold Stopped
                      obtain ⟨hmi, -⟩ : (i : Int) ≤ 8 ∧ True := ⟨by omega, trivial⟩
                      have htl : (Txt.slice W none (some (1 + (i : Int)))).length = i + 1 := by rw [← lst_len, sl_to _ (by omega), List.length_take, lst_len, hw8]; omega
                      have htd : NoDot (Txt.slice W none (some (1 + (i : Int)))) := hwd.slice _ _
                      have hanti : Anti (lst (Txt.slice W none (some (1 + (i : Int))))) (lst (Txt.slice Tn none (some (1 + (i : Int))))) := hmade.anti
                      have hyl : (Txt.slice Tn none (some (1 + (i : Int)))).length = i + 1 := by rw [← lst_len, sl_to _ (by omega), List.length_take, lst_len, ht8]; omega
                      generalize Txt.slice W none (some (1 + (i : Int))) = tx at *
                      refine lc_assign (by with_unfolding_all rfl) (by with_unfolding_all rfl) rfl (by decide) ?_ (fun _ => rfl)
                      k_steps
                      unfold Stopped
                      (rename Fr _ _ _ _ => lF'); (rename News _ _ _ _ => lN'); (rename IsRange _ _ _ _ _ _ _ _ => rgX)
                      refine iter_range_J (h₀ := s₁.heap) (L := L) (n := i + 1) (fun j ys nw => nw = [] ∧ IntsAre ys ((rangeKs 1 j).filter (perB tx))) rfl rgX (small_one (by omega) (by omega) (by omega) (by omega)) ((rangeSize_nat _ _).trans (by omega)) (Nat.le_trans (m := 30) (by omega) (by decide)) (by decide) rfl rfl lF' lN' ⟨rfl, .nil⟩ ?len ?cturn ?cdone
                      case len =>
                        rintro j ys nw ⟨_, h2⟩
                        rw [h2.length]
                        exact Nat.le_trans (List.length_filter_le _ _) (Nat.le_of_eq (rangeKs_len _ _))
                      case cturn =>
                        clear lF' lN' rgX
                        rintro I2 j v ys nw oI2 oC C D2 m₂ h2 tk2 gens3 E3 hj ⟨t2, rfl⟩ ⟨rfl, hys⟩ hb3 hoC hm2 F2 N2 offs ne2
                        simp only [List.nil_append] at N2 offs ⊢
                        simp only [LCg.Off3, and_true] at offs
                        refine wpAny_tests_one ?_
                        dsimp only at hb3 ⊢
                        have hpe : perB tx (1 + (j : Int)) = (Txt.slice tx (some (1 + (j : Int))) none == Txt.slice tx none (some (1 + (i : Int) - (1 + (j : Int))))) := by
                          unfold perB; rw [show ((tx.length : Nat) : Int) - (1 + (j : Int)) = 1 + (i : Int) - (1 + (j : Int)) by omega]
                        k_steps
                        all_goals (rename (_ == _) = _ => hq; rw [← hpe] at hq; rename Fr _ _ _ _ => fE; rename News _ _ _ _ => nE)
                        all_goals first
                          | exact CEnd.intro [] hb3 fE nE (by simp only [List.nil_append]; kst_in) trivial ⟨rfl, filterF_snoc rfl hys hq⟩
                          | exact CEnd.intro [] hb3 fE nE (by simp only [List.nil_append]; kst_in) trivial ⟨rfl, filterF_skip hys hq⟩
                      case cdone =>
                        clear lF' lN' rgX
                        rintro D2 oC C m' ys nw h2 tk2 gens3 hb3 F2 N2 hoC hCD offs ⟨rfl, hys⟩
                        dsimp only at hb3 ⊢
                        simp only [List.nil_append] at N2 offs
                        k_steps
                        (rename Fr _ _ _ _ => fE); (rename News _ _ _ _ => nE)
                        have offP := OffC.of (P := fun _ => True) (D := D2) (fun p hp => ⟨trivial, (offs p (List.mem_cons_of_mem _ hp)).2⟩)
                        have offPI : @Ne Nat I D2 := (offs _ (List.mem_cons_self ..)).2
                        unfold OffC at offP
                        refine AsgPost.intro [(D2, LCg.lst ys), (I, oI), (L + 1 + 1 + 1 + 1 + 1 + 1, _), (L + 1 + 1 + 1 + 1 + 1, _), (L + 1 + 1 + 1 + 1, o4), (L + 1 + 1 + 1, o3), (L + 1 + 1, o2), (L + 1, o1)] hb3 fE nE (fun p hp => hp) (fun p hp => ?offs) fun h' tk' gens' hb' F' N' => ?next
                        case offs =>
                          rcases List.mem_cons.mp hp with rfl | hp
                          · exact Ne.symm hCD
                          · exact (offs p hp).1
                        case next =>
                          clear fE nE offs hoC hCD
                          (try dsimp only at hb')
                          k_steps
                          unfold Stopped
                          refine lc_eval (by with_unfolding_all rfl) rfl (by decide) ?_ (fun _ => rfl)
                          k_steps
                          unfold Stopped
                          (rename Fr _ _ _ _ => lF'); (rename News _ _ _ _ => lN'); (rename IsRange _ _ _ _ _ _ _ _ => rgX)
                          refine iter_range_J (h₀ := s₁.heap) (L := L) (n := i + 1) (fun j ys nw => nw = [] ∧ IntsAre ys ((rangeKs 1 j).filter (fun k => fall (Txt.slice tx (some (-k)) none) k 9 tx))) rfl rgX (small_one (by omega) (by omega) (by omega) (by omega)) ((rangeSize_nat _ _).trans (by omega)) (Nat.le_trans (m := 30) (by omega) (by decide)) (by decide) rfl rfl lF' lN' ⟨rfl, .nil⟩ ?len2 ?cturn2 ?cdone2
                          case len2 =>
                            rintro j ys nw ⟨_, h2⟩
                            rw [h2.length]
                            exact Nat.le_trans (List.length_filter_le _ _) (Nat.le_of_eq (rangeKs_len _ _))
                          case cturn2 =>
                            clear lF' lN' rgX
                            rintro I2 j v zs nw oI2 oC2 C2 D3 m₂ h3 tk3 gens4 E4 hj ⟨t2, rfl⟩ ⟨rfl, hzs⟩ hb4 hoC2 hm2 F3 N3 offs2 ne2
                            simp only [List.nil_append] at N3 offs2 ⊢
                            simp only [LCg.Off3, and_true] at offs2
                            refine wpAny_tests_one ?_
                            dsimp only at hb4 ⊢
                            k_steps
                            unfold Stopped
                            (rename Fr _ _ _ _ => cF); (rename News _ _ _ _ => cN)
                            refine' use_ctrG (c_falls _ _ _ _ _ _ _ _) K0 cF KX cN htop rfl ⟨by omega, by omega, by omega, htd⟩ ?kd_5 ?ku_5 ?kR_5
                            case kd_5 => ktr_room
                            case ku_5 => ktr_units
                            intro t9 h9 tk9 gens9 hb9 F9 N9
                            clear cF cN
                            dsimp only at hb9 ⊢
                            k_steps
                            all_goals (rename (_ == true) = _ => hq; rename Fr _ _ _ _ => fE; rename News _ _ _ _ => nE)
                            all_goals first
                              | exact CEnd.intro [] (fun q => hb9 (hb4 q)) fE nE (by simp only [List.nil_append]; kst_in) trivial ⟨rfl, filterF_snoc rfl hzs (by simpa using hq)⟩
                              | exact CEnd.intro [] (fun q => hb9 (hb4 q)) fE nE (by simp only [List.nil_append]; kst_in) trivial ⟨rfl, filterF_skip hzs (by simpa using hq)⟩
                          case cdone2 =>
                            clear lF' lN' rgX
                            rintro D3 oC2 C2 m2' zs nw h3 tk3 gens4 hb4 F3 N3 hoC2 hCD2 offs2 ⟨rfl, hzs⟩
                            clear F3 N3
                            rw [filter_fall (by omega) (i + 1) (by omega)] at hzs
                            dsimp only
                            intro h5 F3 N3
                            simp only [List.nil_append] at N3 offs2
                            dsimp only at hb4 ⊢
                            obtain ⟨p, rest, hps, hmx⟩ := size_law hanti (by omega)
                            rw [htl] at hps
                            (rename IntsAre ys _ => hys)
                            rw [hps] at hzs hys
                            k_steps
                            unfold Stopped
                            (rename Fr _ _ _ _ => cF); (rename News _ _ _ _ => cN)
                            refine' use_ctr (c_great _ _ _ _ _ _) K0 cF KX cN htop rfl ⟨by omega, by omega⟩ ?kd_6 ?ku_6 ?kR_6
                            case kd_6 => ktr_room
                            case ku_6 => ktr_units
                            intro t9 h9 tk9 F9 N9
                            clear cF cN
                            dsimp only
                            k_steps
                            unfold Stopped
                            generalize Txt.slice Tn none (some (1 + (i : Int))) = ty at *
                            (rename Fr _ _ _ _ => cF); (rename News _ _ _ _ => cN)
                            refine' use_ctr (c_great _ _ _ _ _ _) K0 cF KX cN htop rfl ⟨by omega, by omega⟩ ?kd_7 ?ku_7 ?kR_7
                            case kd_7 => ktr_room
                            case ku_7 => ktr_units
                            intro t9 h9 tk9 F9 N9
                            clear cF cN
                            dsimp only
                            k_steps
                            (rename Fr _ _ _ _ => cF); (rename News _ _ _ _ => cN)
                            refine none_in2 ⟨_, (cN _ (List.mem_cons_self ..)).1, rfl, _, rfl⟩ ?_
                            k_steps
                            · exfalso
                              (rename _ = geK tx _ ∨ _ => a1); (rename geK tx _ ≤ _ ∧ _ => b1); (rename (p :: rest).getD _ _ ≤ _ => c1)
                              have q := hmx _ (a1.elim (fun e => .inl ⟨e, b1.2⟩) (fun e => .inr ⟨e, b1.1⟩))
                              have c2 : p ≤ _ := c1
                              omega
                            · unfold Stopped
                              (rename _ = geK tx _ ∨ _ => a1); (rename geK tx _ ≤ _ ∧ _ => b1)
                              have q := hmx _ (a1.elim (fun e => .inl ⟨e, b1.2⟩) (fun e => .inr ⟨e, b1.1⟩))
                              (rename Fr _ _ _ _ => cF); (rename News _ _ _ _ => cN)
                              refine' use_ctrG (c_byEnds _ _ _ _ _ _ _ _) K0 cF KX cN htop rfl ⟨by omega, by omega, htd, q.1, by omega⟩ ?kd_8 ?ku_8 ?kR_8
                              case kd_8 => ktr_room
                              case ku_8 => ktr_units
                              intro t9 h9 tk9 gens9 hb9 F9 N9
                              clear cF cN
                              dsimp only at hb9 ⊢
                              have q2 := q.2.2.2
                              rw [q2]
                              k_steps
                              · exfalso
                                (rename ¬ _ => hq)
                                exact hq rfl
                              · (rename Fr _ _ _ _ => fE); (rename News _ _ _ _ => nE)
                                refine FEnd.next [(L + 1 + 1 + 1 + 1 + 1 + 1, _), (L + 1 + 1 + 1 + 1 + 1, _), (L + 1 + 1 + 1 + 1, o4), (L + 1 + 1 + 1, o3), (L + 1 + 1, o2), (L + 1, o1)] (fun q => hb9 (hb4 (hb' (hb2 q)))) fE nE (fun p hp => List.mem_cons_of_mem _ (List.mem_cons_of_mem _ (List.mem_cons_of_mem _ hp))) rfl ⟨rfl, _, _, _, _, rfl, by assumption, by assumption⟩
                    case done =>
                      clear lF' lN' rgX
                      rintro m' nw h3 tk3 gens3 hb3 F3 N3 _ ⟨_, o5, o6, c5, c6, rfl, d5, d6⟩
                      exact Aft.go ⟨m', h3, tk3, gens3, o1, o2, o3, o4, o5, o6, c5, c6, rfl, (fun q => hb3 (hb q)), F3, N3, d1, d2, d3, d4, d5, d6⟩
                  case rest =>
                    clear F N d1 d2 d3 d4 d5 d6 hb hmt
                    rintro s' ⟨m, h, tk, gens, o1, o2, o3, o4, o5, o6, c5, c6, rfl, hb, F, N, d1, d2, d3, d4, d5, d6⟩
                    refine seq_stmt (fun s' => ∃ m, LSt s₁ L (some (.ref l)) (some vsg) (some (.str W tw)) (some (.ref D)) m [] s') (fun E' => ?st10) ?rest
                    case st10 =>
                      refine wpAny_For (hs := fun _ => rfl) ?_
                      k_steps
                      unfold Stopped
                      (rename Fr _ _ _ _ => lF'); (rename News _ _ _ _ => lN'); (rename IsRange _ _ _ _ _ _ _ _ => rgX)
                      refine for_range_J (n := 7) (fun i m nw => nw = [(L + 1 + 1 + 1 + 1 + 1 + 1, o6), (L + 1 + 1 + 1 + 1 + 1, o5), (L + 1 + 1 + 1 + 1, o4), (L + 1 + 1 + 1, o3), (L + 1 + 1, o2), (L + 1, o1)]) rfl rgX (by decide) (by decide)
                        lF' lN' rfl ?turn ?done
                      case turn =>
                        clear lF' lN' rgX
                        rintro I i v m₁ nw oI h tk gens2 E2 hi ⟨tv, rfl⟩ rfl _ hb2 F N off
                        refine go_name ?_
                        clear off
                        obtain ⟨pe, pf⟩ := place_law (a := W) (p := 1 + (i : Int)) (by omega) (by omega)
                        dsimp only at hb2 ⊢
                        k_steps
                        unfold Stopped
                        (rename Fr _ _ _ _ => cF); (rename News _ _ _ _ => cN)
                        refine' use_ctrG (c_near _ _ _ _ _ _ _ _) K0 cF KX cN htop rfl ⟨by omega, by omega, by omega, by omega⟩ ?kd_9 ?ku_9 ?kR_9
                        case kd_9 => ktr_room
                        case ku_9 => ktr_units
                        intro t9 h9 tk9 gens9 hb9 F9 N9
                        clear cF cN
                        dsimp only at hb9 ⊢
                        generalize firstK (nearE W (1 + (i : Int))) W.length = nk at *
                        k_steps
                        unfold Stopped
                        (rename Fr _ _ _ _ => cF); (rename News _ _ _ _ => cN)
                        refine' use_ctrG (c_byEnds _ _ _ _ _ _ _ _) K0 cF KX cN htop rfl ⟨by omega, by omega, hwd, by omega, by omega⟩ ?kd_10 ?ku_10 ?kR_10
                        case kd_10 => ktr_room
                        case ku_10 => ktr_units
                        intro t10 h10 tk10 gens10 hb10 F10 N10
                        clear cF cN
                        dsimp only at hb10 ⊢
                        rw [pe]
                        k_steps
                        unfold Stopped
                        (rename Fr _ _ _ _ => cF); (rename News _ _ _ _ => cN)
                        refine' use_ctrG (c_byFronts _ _ _ _ _ _ _ _) K0 cF KX cN htop rfl ⟨by omega, hwd, by omega, by omega⟩ ?kd_11 ?ku_11 ?kR_11
                        case kd_11 => ktr_room
                        case ku_11 => ktr_units
                        intro t11 h11 tk11 gens11 hb11 F11 N11
                        clear cF cN
                        dsimp only at hb11 ⊢
                        rw [pf]
                        k_steps
                        (rename Fr _ _ _ _ => fE); (rename News _ _ _ _ => nE)
                        refine FEnd.next [(L + 1 + 1 + 1 + 1 + 1 + 1, o6), (L + 1 + 1 + 1 + 1 + 1, o5), (L + 1 + 1 + 1 + 1, o4), (L + 1 + 1 + 1, o3), (L + 1 + 1, o2), (L + 1, o1)] (fun q => hb11 (hb10 (hb9 (hb2 q)))) fE nE (fun p hp => List.mem_cons_of_mem _ (List.mem_cons_of_mem _ hp)) rfl rfl
                      case done =>
                        clear lF' lN' rgX
                        rintro m' nw h3 tk3 gens3 hb3 F3 N3 _ rfl
                        exact Aft.go ⟨m', h3, tk3, gens3, o1, o2, o3, o4, o5, o6, c5, c6, rfl, (fun q => hb3 (hb q)), F3, N3, d1, d2, d3, d4, d5, d6⟩
                    case rest =>
                      clear F N d1 d2 d3 d4 d5 d6 hb
                      rintro s' ⟨m, h, tk, gens, o1, o2, o3, o4, o5, o6, c5, c6, rfl, hb, F, N, d1, d2, d3, d4, d5, d6⟩
                      k_steps
                      dsimp only
                      refine goodWG_reads B0 F (hb (.of_eq hg)) (raisesW_false (by wrow_none_raised)) (.bool _) (by first | exact unshared_nil | exact fun h => absurd h (by decide)) ?post rfl
                      exact postW_of (by wrow_shape) (by wtm_val) (by str_meet; first | done | w_fin))
end
end
end Mine
set_option maxRecDepth 100000 in
theorem PySem.Challenge.cw_pk0040_01_holds : PySem.Challenge.rw_pk0040_01.Holds := by
  exact Mine.law_holds
